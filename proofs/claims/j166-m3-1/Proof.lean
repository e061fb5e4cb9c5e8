import JvmDerived
import JvmDerived.Pilot.@@N@@Statement
import JvmDerived.Pilot.@@N@@Code
set_option linter.unusedVariables false
set_option linter.unusedSimpArgs false
namespace Jvm.Ow
open Sem ClassFile Op Lib Jvm.Stand Jvm.Free Jvm.LawKit Jvm.RoadKit
def WideEnd (s : State) (o : Outcome) (t : State) (L : List Loc) (k n : Nat) : Prop :=
  (∃ v : Option Value, o = Outcome.returned v) ∧ s.Warmed39 t.vm ∧ (∀ (j : Nat) (p : Array UInt16 × Addr), s.vm.interned.size ≤ j → t.vm.interned[j]? = some p → s.heap.size ≤ p.2 ∧ p.2 < t.heap.size) ∧ s.sameButNew { t with vm := s.vm } L k n
abbrev WD := Option (Bool × Option (String × Nat × Addr))
def Kn (wd : WD) (Z s : State) : Prop := (∀ q, wd = some (true, q) → s.vm.interned = Z.vm.interned) ∧ ∀ b own idx a, wd = some (b, some (own, idx, a)) → Lit s own idx a
def EndF (wd : WD) (s : State) (o : Outcome) (t : State) (L : List Loc) (k n : Nat) : Prop := match wd with
  | some _ => WideEnd s o t L k n
  | none => FrameEnd s o t L k n
theorem EndF.of {wd : WD} {s : State} {o : Outcome} {t : State} {L : List Loc} {k n : Nat} (h : FrameEnd s o t L k n) : EndF wd s o t L k n := by
  cases wd
  · exact h
  · exact wide h
def Cx (p : Program) (l : Launch) (e : Env) (R : Room) (m : MethodId) (args : Array Value) (below : List Frame) (meth : Method) (c : Code) (Z : State) (y : MethodName) (bytes : ByteArray) (ml : Nat) (ret : Option FieldType) (n0 : Nat) (wd : WD) (F : Outcome → State → List Loc → Prop) (T : State) (h : Heap) (cells slots : Nat) : Prop :=
  ∃ s locs, Stand p l e R s m args below meth c T locs cells slots ∧ p.tables.exec = Jvm.exec ∧ c.code = bytes ∧ c.maxLocals = ml ∧ Z.Warmed39 s.vm ∧ s.vm.findClass y.cls = some m.cls ∧ meth.name = y.name ∧ meth.sig.returnType = ret ∧ meth.locks = false ∧ T.heap = h ∧ Fr n0 locs ∧ (n0 ≤ s.heap.size ∧ Kn wd Z s) ∧ ∀ o t L, h.size ≤ t.heap.size → EndF wd s o t L R.cells R.slots → F o t L
def Go (p : Program) (e : Env) (below : List Frame) (F : Outcome → State → List Loc → Prop) (n0 : Nat) (Q : Option Value → Heap → Prop) (T : State) (f : JFrame) : Prop :=
  ∃ s₂ o, Steps p.tables e below (T.setTop f) s₂ ∧ s₂.status = .running ∧ Ended s₂ below o ∧ ∃ v L, o = .returned v ∧ (Q v s₂.heap ∧ Fr n0 L ∧ n0 ≤ s₂.heap.size) ∧ F o s₂ L
def Ctr (l : Launch) (Z : State) (y : MethodName) (bytes : ByteArray) (ml : Nat) (ret : Option FieldType) (R : Room) (as' : Array Value) (h : Heap) (n0 : Nat) (Q : Option Value → Heap → Prop) : Prop :=
  ∀ ws : List Jvm.Cond, MetFree l y (head1 (Jvm.Cond.code y bytes ml ret :: ws) R) (fun a U => a = as' ∧ Z.Warmed39 U.vm ∧ U.heap = h) (fun _ _ _ _ _ => True) (fun _ U o U' => ∃ v L, o = .returned v ∧ ((Q v U'.heap ∧ h.size ≤ U'.heap.size) ∧ Fr n0 L) ∧ FrameEnd U o U' L R.cells R.slots)
section Layer
variable {p : Program} {l : Launch} {e : Env} {R : Room} {m : MethodId} {args : Array Value} {below : List Frame} {meth : Method} {c : Code} {T T' : State} {cells slots : Nat} {Z : State} {a0 : Array Value} {h : Heap} {y : MethodName} {bytes : ByteArray} {ml n0 : Nat} {ret : Option FieldType} {wd : WD} {F : Outcome → State → List Loc → Prop} {Q : Option Value → Heap → Prop} {pc pc' : Nat} {L L' : Array Slot} {S : List Value}
theorem Ctr.body {as' : Array Value} (hpl : plainFor y = true) (hn : n0 ≤ h.size) (ef : ∀ m, entryFrame m as' ml = mkF m 0 L [])
    (k : ∀ (p : Program) (e : Env) (F : Outcome → State → List Loc → Prop) (m : MethodId) (below : List Frame) (meth : Method) (c : Code) (T : State), Cx p l e R m as' below meth c Z y bytes ml ret n0 none F T h 0 0 → Go p e below F n0 Q T (mkF m 0 L [])) : Ctr l Z y bytes ml ret R as' h n0 Q := by
  intro ws
  refine MetFree.of_bodySF hpl hisR ?_
  intro p e s m args below meth c s₁ Bd hml0 hP hK
  obtain ⟨rfl, hZ, hh⟩ := hP
  obtain ⟨s₂, o, g1, g2, g3, v, L9, g4, ⟨g5, g6, -⟩, g7⟩ := k p e (fun o t L => FrameEnd s o t L R.cells R.slots) m below meth c s₁ ⟨s, [], Stand.of_body Bd, Bd.exec, Bd.bytes, hml0, hZ, findClass_of_methodNamed Bd.named, (name_of_methodNamed Bd.named Bd.method).1, Bd.returns, Bd.notSynchronized, by rw [← hh, Bd.state]; rfl, Fr.nil n0, ⟨by rw [hh]; exact hn, fun q z => by (cases z), fun b o i a z => by (cases z)⟩, fun _ _ _ _ q => q⟩
  rw [ef m]
  exact ⟨s₂, o, g1, g2, g3, v, L9, g4, ⟨⟨g5, by rw [← hh]; exact g7.2.2.2.1⟩, g6⟩, g7⟩
theorem Go.via {f f' : JFrame} (k : Go p e below F n0 Q T' f') (hs : ∀ t, Steps p.tables e below (T'.setTop f') t → Steps p.tables e below (T.setTop f) t) : Go p e below F n0 Q T f := by
  obtain ⟨s₂, o, h1, h2⟩ := k; exact ⟨s₂, o, hs _ h1, h2⟩
theorem Cx.size (C : Cx p l e R m args below meth c Z y bytes ml ret n0 wd F T h cells slots) : n0 ≤ h.size := by
  obtain ⟨s, locs, X, -, -, -, -, -, -, -, -, rfl, -, hn, -⟩ := C
  exact Nat.le_trans hn.1 X.same.2.1
theorem Cx.iloadN (C : Cx p l e R m args below meth c Z y bytes ml ret n0 wd F T h cells slots) {k : Fin 4} {v : Int32} (hd : decode bytes pc = .ok (.iload_n k, 1)) (hp : pc + 1 = pc') (hl : L[k.val]? = some (.val (.int v))) (K : Go p e below F n0 Q T (mkF m pc' L (.int v :: S))) : Go p e below F n0 Q T (mkF m pc L S) := by
  obtain ⟨s, locs, X, hx, rfl, -⟩ := C; subst hp
  exact K.via fun t k => XS.iloadN X.here hx rfl hd hl k
theorem Cx.iload (C : Cx p l e R m args below meth c Z y bytes ml ret n0 wd F T h cells slots) {k : Nat} {v : Int32} (hd : decode bytes pc = .ok (.iload k, 2)) (hp : pc + 2 = pc') (hl : L[k]? = some (.val (.int v))) (K : Go p e below F n0 Q T (mkF m pc' L (.int v :: S))) : Go p e below F n0 Q T (mkF m pc L S) := by
  obtain ⟨s, locs, X, hx, rfl, -⟩ := C; subst hp
  exact K.via fun t k => XS.iload X.here hx rfl hd hl k
theorem Cx.istore (C : Cx p l e R m args below meth c Z y bytes ml ret n0 wd F T h cells slots) {k : Nat} {x : Int32} (hd : decode bytes pc = .ok (.istore k, 2)) (hp : pc + 2 = pc') (hl : storeLocals L k (.int x) = some L') (K : Go p e below F n0 Q T (mkF m pc' L' S)) : Go p e below F n0 Q T (mkF m pc L (.int x :: S)) := by
  obtain ⟨s, locs, X, hx, rfl, -⟩ := C; subst hp
  exact K.via fun t k => XS.istore X.here hx rfl hd rfl hl k
theorem Cx.aloadN (C : Cx p l e R m args below meth c Z y bytes ml ret n0 wd F T h cells slots) {k : Fin 4} {v : Value} (hd : decode bytes pc = .ok (.aload_n k, 1)) (hp : pc + 1 = pc') (hl : L[k.val]? = some (.val v)) (hv : v.isRef = true) (K : Go p e below F n0 Q T (mkF m pc' L (v :: S))) : Go p e below F n0 Q T (mkF m pc L S) := by
  obtain ⟨s, locs, X, hx, rfl, -⟩ := C; subst hp
  exact K.via fun t k => XS.aloadN X.here hx rfl hd hl hv k
theorem Cx.aload (C : Cx p l e R m args below meth c Z y bytes ml ret n0 wd F T h cells slots) {k : Nat} {v : Value} (hd : decode bytes pc = .ok (.aload k, 2)) (hp : pc + 2 = pc') (hl : L[k]? = some (.val v)) (hv : v.isRef = true) (K : Go p e below F n0 Q T (mkF m pc' L (v :: S))) : Go p e below F n0 Q T (mkF m pc L S) := by
  obtain ⟨s, locs, X, hx, rfl, -⟩ := C; subst hp
  exact K.via fun t k => XS.aload X.here hx rfl hd hl hv k
theorem Cx.astoreN (C : Cx p l e R m args below meth c Z y bytes ml ret n0 wd F T h cells slots) {k : Fin 4} {x : Value} (hd : decode bytes pc = .ok (.astore_n k, 1)) (hp : pc + 1 = pc') (hv : x.isRef = true) (hl : storeLocals L k.val x = some L') (K : Go p e below F n0 Q T (mkF m pc' L' S)) : Go p e below F n0 Q T (mkF m pc L (x :: S)) := by
  obtain ⟨s, locs, X, hx, rfl, -⟩ := C; subst hp
  exact K.via fun t k => XS.astoreN X.here hx rfl hd rfl hv hl k
theorem Cx.astore (C : Cx p l e R m args below meth c Z y bytes ml ret n0 wd F T h cells slots) {k : Nat} {x : Value} (hd : decode bytes pc = .ok (.astore k, 2)) (hp : pc + 2 = pc') (hv : x.isRef = true) (hl : storeLocals L k x = some L') (K : Go p e below F n0 Q T (mkF m pc' L' S)) : Go p e below F n0 Q T (mkF m pc L (x :: S)) := by
  obtain ⟨s, locs, X, hx, rfl, -⟩ := C; subst hp
  exact K.via fun t k => XS.astore X.here hx rfl hd rfl hv hl k
theorem Cx.iconst (C : Cx p l e R m args below meth c Z y bytes ml ret n0 wd F T h cells slots) {i : Int} (v : Int32) (hd : decode bytes pc = .ok (.iconst i, 1)) (hp : pc + 1 = pc') (hv : Int32.ofInt i = v) (K : Go p e below F n0 Q T (mkF m pc' L (.int v :: S))) : Go p e below F n0 Q T (mkF m pc L S) := by
  obtain ⟨s, locs, X, hx, rfl, -⟩ := C; subst hp
  exact K.via fun t k => XT.iconstV X.here hx rfl v hd hv k
theorem Cx.bipush (C : Cx p l e R m args below meth c Z y bytes ml ret n0 wd F T h cells slots) {i : Int} (v : Int32) (hd : decode bytes pc = .ok (.bipush i, 2)) (hp : pc + 2 = pc') (hv : (Int8.ofInt i).toInt32 = v) (K : Go p e below F n0 Q T (mkF m pc' L (.int v :: S))) : Go p e below F n0 Q T (mkF m pc L S) := by
  obtain ⟨s, locs, X, hx, rfl, -⟩ := C; subst hp
  exact K.via fun t k => XT.bipushV X.here hx rfl v hd hv k
theorem Cx.sipush (C : Cx p l e R m args below meth c Z y bytes ml ret n0 wd F T h cells slots) {i : Int} (v : Int32) (hd : decode bytes pc = .ok (.sipush i, 3)) (hp : pc + 3 = pc') (hv : (Int16.ofInt i).toInt32 = v) (K : Go p e below F n0 Q T (mkF m pc' L (.int v :: S))) : Go p e below F n0 Q T (mkF m pc L S) := by
  obtain ⟨s, locs, X, hx, rfl, -⟩ := C; subst hp
  exact K.via fun t k => XT.sipushV X.here hx rfl v hd hv k
theorem Cx.aconstNull (C : Cx p l e R m args below meth c Z y bytes ml ret n0 wd F T h cells slots)  (hd : decode bytes pc = .ok (.aconst_null, 1)) (hp : pc + 1 = pc')  (K : Go p e below F n0 Q T (mkF m pc' L (.null :: S))) : Go p e below F n0 Q T (mkF m pc L S) := by
  obtain ⟨s, locs, X, hx, rfl, -⟩ := C; subst hp
  exact K.via fun t k => XS.aconstNull X.here hx rfl hd k
theorem Cx.iinc (C : Cx p l e R m args below meth c Z y bytes ml ret n0 wd F T h cells slots) {k : Nat} {cst : Int} {x : Int32} (v : Int32) (hd : decode bytes pc = .ok (.iinc k cst, 3)) (hp : pc + 3 = pc') (hv : Int32.ofInt cst = v) (hl : L[k]? = some (.val (.int x))) (hl' : storeLocals L k (.int (x + v)) = some L') (K : Go p e below F n0 Q T (mkF m pc' L' S)) : Go p e below F n0 Q T (mkF m pc L S) := by
  obtain ⟨s, locs, X, hx, rfl, -⟩ := C; subst hp
  exact K.via fun t k => XT.iincV X.here hx rfl v hd hv hl hl' k
theorem Cx.isub (C : Cx p l e R m args below meth c Z y bytes ml ret n0 wd F T h cells slots) {x z : Int32} (hd : decode bytes pc = .ok (.isub, 1)) (hp : pc + 1 = pc')  (K : Go p e below F n0 Q T (mkF m pc' L (.int (x - z) :: S))) : Go p e below F n0 Q T (mkF m pc L (.int z :: .int x :: S)) := by
  obtain ⟨s, locs, X, hx, rfl, -⟩ := C; subst hp
  exact K.via fun t k => XS.isub X.here hx rfl hd rfl k
theorem Cx.iand (C : Cx p l e R m args below meth c Z y bytes ml ret n0 wd F T h cells slots) {x z : Int32} (hd : decode bytes pc = .ok (.iand, 1)) (hp : pc + 1 = pc')  (K : Go p e below F n0 Q T (mkF m pc' L (.int (x &&& z) :: S))) : Go p e below F n0 Q T (mkF m pc L (.int z :: .int x :: S)) := by
  obtain ⟨s, locs, X, hx, rfl, -⟩ := C; subst hp
  exact K.via fun t k => XS.iand X.here hx rfl hd rfl k
theorem Cx.ishr (C : Cx p l e R m args below meth c Z y bytes ml ret n0 wd F T h cells slots) {x z : Int32} (hd : decode bytes pc = .ok (.ishr, 1)) (hp : pc + 1 = pc')  (K : Go p e below F n0 Q T (mkF m pc' L (.int (x >>> (z &&& 31)) :: S))) : Go p e below F n0 Q T (mkF m pc L (.int z :: .int x :: S)) := by
  obtain ⟨s, locs, X, hx, rfl, -⟩ := C; subst hp
  exact K.via fun t k => XT.ishr X.here hx rfl hd rfl k
theorem Cx.iushr (C : Cx p l e R m args below meth c Z y bytes ml ret n0 wd F T h cells slots) {x z : Int32} (hd : decode bytes pc = .ok (.iushr, 1)) (hp : pc + 1 = pc')  (K : Go p e below F n0 Q T (mkF m pc' L (.int ((x.toUInt32 >>> (z &&& 31).toUInt32).toInt32) :: S))) : Go p e below F n0 Q T (mkF m pc L (.int z :: .int x :: S)) := by
  obtain ⟨s, locs, X, hx, rfl, -⟩ := C; subst hp
  exact K.via fun t k => XS.iushr X.here hx rfl hd rfl k
theorem Cx.i2b (C : Cx p l e R m args below meth c Z y bytes ml ret n0 wd F T h cells slots) {x : Int32} (hd : decode bytes pc = .ok (.i2b, 1)) (hp : pc + 1 = pc')  (K : Go p e below F n0 Q T (mkF m pc' L (.int (x.toInt8.toInt32) :: S))) : Go p e below F n0 Q T (mkF m pc L (.int x :: S)) := by
  obtain ⟨s, locs, X, hx, rfl, -⟩ := C; subst hp
  exact K.via fun t k => XT.i2b X.here hx rfl hd rfl k
theorem Cx.i2c (C : Cx p l e R m args below meth c Z y bytes ml ret n0 wd F T h cells slots) {x : Int32} (hd : decode bytes pc = .ok (.i2c, 1)) (hp : pc + 1 = pc')  (K : Go p e below F n0 Q T (mkF m pc' L (.int (x.toUInt32.toUInt16.toUInt32.toInt32) :: S))) : Go p e below F n0 Q T (mkF m pc L (.int x :: S)) := by
  obtain ⟨s, locs, X, hx, rfl, -⟩ := C; subst hp
  exact K.via fun t k => XT.i2c X.here hx rfl hd rfl k
theorem Cx.dup (C : Cx p l e R m args below meth c Z y bytes ml ret n0 wd F T h cells slots) {x : Value} (hd : decode bytes pc = .ok (.dup, 1)) (hp : pc + 1 = pc') (hc : x.category = 1) (K : Go p e below F n0 Q T (mkF m pc' L (x :: x :: S))) : Go p e below F n0 Q T (mkF m pc L (x :: S)) := by
  obtain ⟨s, locs, X, hx, rfl, -⟩ := C; subst hp
  exact K.via fun t k => XS.dup X.here hx rfl hd rfl hc k
theorem Cx.goto (C : Cx p l e R m args below meth c Z y bytes ml ret n0 wd F T h cells slots) {o : Int} (hd : decode bytes pc = .ok (.goto o, 3)) (ho : 0 ≤ (pc : Int) + o) (hp : ((pc : Int) + o).toNat = pc') (K : Go p e below F n0 Q T (mkF m pc' L S)) : Go p e below F n0 Q T (mkF m pc L S) := by
  obtain ⟨s, locs, X, hx, rfl, -⟩ := C
  exact K.via fun t k => XS.goto X.here hx rfl rfl hd ho hp k
theorem Cx.icmp_eq (C : Cx p l e R m args below meth c Z y bytes ml ret n0 wd F T h cells slots) {x z : Int32} {o : Int} {py pn : Nat} (hd : decode bytes pc = .ok (.if_icmp .eq o, 3)) (ho : 0 ≤ (pc : Int) + o) (hy : ((pc : Int) + o).toNat = py) (hn : pc + 3 = pn) (K1 : x = z → Go p e below F n0 Q T (mkF m py L S)) (K2 : ¬ x = z → Go p e below F n0 Q T (mkF m pn L S)) : Go p e below F n0 Q T (mkF m pc L (.int z :: .int x :: S)) := by
  obtain ⟨s, locs, X, hx, rfl, -⟩ := C; subst hn
  by_cases q : x = z
  · exact (K1 q).via fun t k => XS.icmpYes X.here hx rfl rfl hd rfl (XT.ii_eq_t q) ho hy k
  · exact (K2 q).via fun t k => XS.icmpNo X.here hx rfl hd rfl (XT.ii_eq_f q) k
theorem Cx.if_eq (C : Cx p l e R m args below meth c Z y bytes ml ret n0 wd F T h cells slots) {x : Int32} {o : Int} {py pn : Nat} (hd : decode bytes pc = .ok (.ifCond .eq o, 3)) (ho : 0 ≤ (pc : Int) + o) (hy : ((pc : Int) + o).toNat = py) (hn : pc + 3 = pn) (K1 : x = (0 : Int32) → Go p e below F n0 Q T (mkF m py L S)) (K2 : ¬ x = (0 : Int32) → Go p e below F n0 Q T (mkF m pn L S)) : Go p e below F n0 Q T (mkF m pc L (.int x :: S)) := by
  obtain ⟨s, locs, X, hx, rfl, -⟩ := C; subst hn
  by_cases q : x = (0 : Int32)
  · exact (K1 q).via fun t k => XS.ifYes X.here hx rfl rfl hd rfl (XT.i0_eq_t q) ho hy k
  · exact (K2 q).via fun t k => XS.ifNo X.here hx rfl hd rfl (XT.i0_eq_f q) k
theorem Cx.icmp_ne (C : Cx p l e R m args below meth c Z y bytes ml ret n0 wd F T h cells slots) {x z : Int32} {o : Int} {py pn : Nat} (hd : decode bytes pc = .ok (.if_icmp .ne o, 3)) (ho : 0 ≤ (pc : Int) + o) (hy : ((pc : Int) + o).toNat = py) (hn : pc + 3 = pn) (K1 : ¬ x = z → Go p e below F n0 Q T (mkF m py L S)) (K2 : x = z → Go p e below F n0 Q T (mkF m pn L S)) : Go p e below F n0 Q T (mkF m pc L (.int z :: .int x :: S)) := by
  obtain ⟨s, locs, X, hx, rfl, -⟩ := C; subst hn
  by_cases q : x = z
  · exact (K2 q).via fun t k => XS.icmpNo X.here hx rfl hd rfl (XT.ii_ne_f q) k
  · exact (K1 q).via fun t k => XS.icmpYes X.here hx rfl rfl hd rfl (XT.ii_ne_t q) ho hy k
theorem Cx.if_ne (C : Cx p l e R m args below meth c Z y bytes ml ret n0 wd F T h cells slots) {x : Int32} {o : Int} {py pn : Nat} (hd : decode bytes pc = .ok (.ifCond .ne o, 3)) (ho : 0 ≤ (pc : Int) + o) (hy : ((pc : Int) + o).toNat = py) (hn : pc + 3 = pn) (K1 : ¬ x = (0 : Int32) → Go p e below F n0 Q T (mkF m py L S)) (K2 : x = (0 : Int32) → Go p e below F n0 Q T (mkF m pn L S)) : Go p e below F n0 Q T (mkF m pc L (.int x :: S)) := by
  obtain ⟨s, locs, X, hx, rfl, -⟩ := C; subst hn
  by_cases q : x = (0 : Int32)
  · exact (K2 q).via fun t k => XS.ifNo X.here hx rfl hd rfl (XT.i0_ne_f q) k
  · exact (K1 q).via fun t k => XS.ifYes X.here hx rfl rfl hd rfl (XT.i0_ne_t q) ho hy k
theorem Cx.icmp_ge (C : Cx p l e R m args below meth c Z y bytes ml ret n0 wd F T h cells slots) {x z : Int32} {o : Int} {py pn : Nat} (hd : decode bytes pc = .ok (.if_icmp .ge o, 3)) (ho : 0 ≤ (pc : Int) + o) (hy : ((pc : Int) + o).toNat = py) (hn : pc + 3 = pn) (K1 : ¬ x < z → Go p e below F n0 Q T (mkF m py L S)) (K2 : x < z → Go p e below F n0 Q T (mkF m pn L S)) : Go p e below F n0 Q T (mkF m pc L (.int z :: .int x :: S)) := by
  obtain ⟨s, locs, X, hx, rfl, -⟩ := C; subst hn
  by_cases q : x < z
  · exact (K2 q).via fun t k => XS.icmpNo X.here hx rfl hd rfl (XT.ii_ge_f q) k
  · exact (K1 q).via fun t k => XS.icmpYes X.here hx rfl rfl hd rfl (XT.ii_ge_t q) ho hy k
theorem Cx.icmp_le (C : Cx p l e R m args below meth c Z y bytes ml ret n0 wd F T h cells slots) {x z : Int32} {o : Int} {py pn : Nat} (hd : decode bytes pc = .ok (.if_icmp .le o, 3)) (ho : 0 ≤ (pc : Int) + o) (hy : ((pc : Int) + o).toNat = py) (hn : pc + 3 = pn) (K1 : ¬ z < x → Go p e below F n0 Q T (mkF m py L S)) (K2 : z < x → Go p e below F n0 Q T (mkF m pn L S)) : Go p e below F n0 Q T (mkF m pc L (.int z :: .int x :: S)) := by
  obtain ⟨s, locs, X, hx, rfl, -⟩ := C; subst hn
  by_cases q : z < x
  · exact (K2 q).via fun t k => XS.icmpNo X.here hx rfl hd rfl (XT.ii_le_f q) k
  · exact (K1 q).via fun t k => XS.icmpYes X.here hx rfl rfl hd rfl (XT.ii_le_t q) ho hy k
theorem Cx.done (C : Cx p l e R m args below meth c Z y bytes ml ret n0 wd F T h cells slots) {v : Option Value} (hv : ret = none → v = none) (hc : cells ≤ R.cells) (hs : slots ≤ R.slots) (hq : Q v h) {f : JFrame}
    (k : ∀ s locs fs, Stand p l e R s m args below meth c T locs cells slots → (∀ (f : JFrame) (acts : List Action), f.method = m → f.locked = none → f.entered = [] → (doReturn e (T.setTop f) acts v).1 = T.setFrames fs) → Steps p.tables e below (T.setTop f) (T.setFrames fs)) : Go p e below F n0 Q T f := by
  have hz := C.size
  obtain ⟨s, locs, X, hx, rfl, rfl, hZ, hown, hnm, rfl, hlk, rfl, N, hn, hF⟩ := C
  obtain ⟨fs, hr, hrun, hended, hW, hsame⟩ := X.leave (v := v) hv
  exact ⟨_, _, k s locs fs X hr, hrun, hended, v, locs, rfl, ⟨hq, N, hz⟩, hF _ _ _ (Nat.le_refl _) (EndF.of ⟨⟨v, rfl⟩, hW, hsame.mono hc hs⟩)⟩
theorem Cx.retI (C : Cx p l e R m args below meth c Z y bytes ml ret n0 wd F T h cells slots) {z : Int32} (hd : decode bytes pc = .ok (.ireturn, 1)) (hret : ret = some .int) (hc : cells ≤ R.cells) (hs : slots ≤ R.slots) (hq : Q (some (.int z)) h) : Go p e below F n0 Q T (mkF m pc L (.int z :: S)) := by
  refine C.done (fun q => by rw [hret] at q; cases q) hc hs hq fun s locs fs X hr => ?_
  obtain ⟨_, _, -, hx, rfl, -, -, -, -, rfl, -⟩ := C
  exact retOut X hx hret rfl (Or.inl ⟨rfl, Or.inl rfl, _, rfl⟩) hd hr
theorem Cx.retN (C : Cx p l e R m args below meth c Z y bytes ml ret n0 wd F T h cells slots) {z w : Int32} {t : FieldType} (hd : decode bytes pc = .ok (.ireturn, 1)) (hret : ret = some t) (ht : t = .boolean ∨ t = .byte ∨ t = .char ∨ t = .short) (hc : cells ≤ R.cells) (hs : slots ≤ R.slots) (hw : nar t z = w) (hq : Q (some (.int w)) h) : Go p e below F n0 Q T (mkF m pc L (.int z :: S)) := by
  subst hw
  refine C.done (fun q => by rw [hret] at q; cases q) hc hs hq fun s locs fs X hr => ?_
  obtain ⟨_, _, -, hx, rfl, -, -, -, -, rfl, -⟩ := C
  exact Jvm.RoadKit.retN X hx hret ht hd hr
theorem Cx.retA (C : Cx p l e R m args below meth c Z y bytes ml ret n0 wd F T h cells slots) {w : Value} {t : FieldType} (hd : decode bytes pc = .ok (.areturn, 1)) (hret : ret = some t) (ht : t.isReference = true) (hw : w.isRef = true) (hc : cells ≤ R.cells) (hs : slots ≤ R.slots) (hq : Q (some w) h) : Go p e below F n0 Q T (mkF m pc L (w :: S)) := by
  refine C.done (fun q => by rw [hret] at q; cases q) hc hs hq fun s locs fs X hr => ?_
  obtain ⟨_, _, -, hx, rfl, -, -, -, -, rfl, -⟩ := C
  refine retOut X hx hret ?_ (Or.inr (Or.inr (Or.inr (Or.inr ⟨rfl, ht, hw⟩)))) hd hr
  rcases ref_cases hw with rfl | ⟨a, rfl⟩ <;> cases t <;> first | rfl | (simp [FieldType.isReference] at ht)
theorem Cx.retV (C : Cx p l e R m args below meth c Z y bytes ml ret n0 wd F T h cells slots) (hd : decode bytes pc = .ok (.return_, 1)) (hret : ret = none) (hc : cells ≤ R.cells) (hs : slots ≤ R.slots) (hq : Q none h) : Go p e below F n0 Q T (mkF m pc L []) := by
  refine C.done (fun q => rfl) hc hs hq fun s locs fs X hr => ?_
  obtain ⟨_, _, -, hx, rfl, -, -, -, -, rfl, -⟩ := C
  exact X.returnOut hx hret hd hr
theorem Cx.ldc (C : Cx p l e R m args below meth c Z y bytes ml ret n0 wd F T h cells slots) {idx : Nat} {v : Int32} (w : (Jvm.Cond.constant y.cls idx v).before a0 Z = true) (hd : decode bytes pc = .ok (.ldc idx, 2)) (hp : pc + 2 = pc') (K : Go p e below F n0 Q T (mkF m pc' L (.int v :: S))) : Go p e below F n0 Q T (mkF m pc L S) := by
  obtain ⟨s, locs, X, hx, rfl, rfl, hZ, hown, -⟩ := C; subst hp
  exact K.via fun t k => X.ldcInt hx hown (mvT hZ w) (g := mkF m pc L S) rfl hd t k
theorem Cx.callS (C : Cx p l e R m args below meth c Z y bytes ml ret n0 wd F T h cells slots) {idx : Nat} {y' : MethodName} {bytes' : ByteArray} {ml' : Nat} {ret' : Option FieldType} {R' : Room} {Q' : Option Value → Heap → Prop} {argsL : List Value} (w1 : (Jvm.Cond.methodLink y.cls idx y').before a0 Z = true) (w2 : (Jvm.Cond.static y').before a0 Z = true) (w3 : (Jvm.Cond.initialized y'.cls).before a0 Z = true) (w4 : (Jvm.Cond.code y' bytes' ml' ret').before a0 Z = true)
    (hy : y'.cls ≠ "java/lang/invoke/MethodHandle" ∧ y'.cls ≠ "java/lang/invoke/VarHandle") (M : Ctr l Z y' bytes' ml' ret' R' argsL.toArray h n0 Q') {ps : List FieldType} {rt : Option FieldType} (hpd : parseMethodDescriptor y'.desc = some ⟨ps, rt⟩) (hlen : argsL.length = ps.length)
    (W : Nat) (hf : R'.frames + 1 ≤ R.frames) (hl : W + (ml' + 11) + R'.locals ≤ R.locals) (hc : cells + R'.cells ≤ R.cells) (hs : slots + R'.slots ≤ R.slots) {rest : List Value} (hst : S = argsL.reverse ++ rest) (hsz : L.size = ml) (hW : (rest.map fun v => v.category).sum ≤ W)
    (hd : decode bytes pc = .ok (.invokestatic idx, 3)) (hp : pc + 3 = pc') (K : ∀ v T' h', Cx p l e R m args below meth c Z y bytes ml ret n0 wd F T' h' (cells + R'.cells) (slots + R'.slots) → Q' v h' → Go p e below F n0 Q T' (mkF m pc' L (v.toList ++ rest))) : Go p e below F n0 Q T (mkF m pc L S) := by
  obtain ⟨s, locs, X, hx, rfl, rfl, hZ, hown, hnm, hr, hlk, eT, N, hn, hF⟩ := C; subst hp
  obtain ⟨v, _, ⟨T', L', k', n'⟩, -, X', ⟨Lc, hQ, e1, e2, e3⟩, st⟩ := Jvm.LawKit.callS X hx (y := y') hown (mvT hZ w1) (mvT hZ w2) (mvT hZ w3) (mvT hZ w4) hy (backOf (W := W) (Q := fun v h9 L => (Q' v h9 ∧ h.size ≤ h9.size) ∧ Fr n0 L) (M []) hZ w4 w3 hf hl) (g := mkF m pc L S) rfl hsz (argsL := argsL) (rest := rest) (lenOf hpd hlen) hst (by show 2 * 0 + _ ≤ _; omega) hd (fun _ _ => ⟨rfl, eT, hc, hs⟩)
  dsimp only [Pt.U, Pt.locs, Pt.cells, Pt.slots] at X' e1 e2 e3 st hQ
  subst e1 e2 e3
  exact (K v T' T'.heap ⟨s, _, X', hx, rfl, rfl, hZ, hown, hnm, hr, hlk, rfl, N.app hQ.2, hn, fun o t L q => hF o t L (Nat.le_trans hQ.1.2 q)⟩ hQ.1.1).via st
theorem ext_keep {h h' : Heap} (K : Keep h h' []) : Ext h h' := ⟨K.1, fun a c q => K.2.1 a c q nin0⟩
theorem Cx.new (C : Cx p l e R m args below meth c Z y bytes ml ret n0 wd F T h cells slots) {idx n : Nat} {Cl : String} (w : (Jvm.Cond.classLink y.cls idx Cl).before a0 Z = true) (wi : (Jvm.Cond.instantiable Cl n).before a0 Z = true) (wz : (Jvm.Cond.initialized Cl).before a0 Z = true) (hd : decode bytes pc = .ok (.new idx, 3)) (hp : pc + 3 = pc') (hc : cells + 1 ≤ R.cells) (hl : slots + n ≤ R.slots)
    (K : ∀ T' h' b, Cx p l e R m args below meth c Z y bytes ml ret n0 wd F T' h' (cells + 1) (slots + n) → b = h.size → n0 ≤ b → Ext h h' → Exa Z h' b Cl → (∀ {O nm d : String} {ty : FieldType}, Laid Z a0 Cl O nm d → parseFieldDescriptor d = some ty → Fld Z h' b O nm d (defaultValue ty)) → Go p e below F n0 Q T' (mkF m pc' L (.ref b :: S))) : Go p e below F n0 Q T (mkF m pc L S) := by
  have hz := C.size
  obtain ⟨s, locs, X, hx, rfl, rfl, hZ, hown, hnm, hr, hlk, eT, N, hn, hF⟩ := C; subst hp
  obtain ⟨T', h', X', e', E, A, D, -, st⟩ := newO X hx hZ hown w wi wz eT (g := mkF m pc L S) rfl hd hc hl
  exact (K T' h' h.size ⟨s, locs, X', hx, rfl, rfl, hZ, hown, hnm, hr, hlk, e', N, hn, fun o t L q => hF o t L (Nat.le_trans E.1 q)⟩ rfl hz E A D).via st
theorem Cx.getF (C : Cx p l e R m args below meth c Z y bytes ml ret n0 wd F T h cells slots) {idx : Nat} {R0 O n d host : String} {a : Addr} {v : Value} (w : (Jvm.Cond.fieldLink y.cls idx R0 n d).before a0 Z = true ∨ (Jvm.Cond.fieldLinkNest y.cls idx R0 n d host).before a0 Z = true) (via : Via Z R0 O n d) (Fd : Fld Z h a O n d v) (hd : decode bytes pc = .ok (.getfield idx, 3)) (hp : pc + 3 = pc')
    (K : ∀ T', Cx p l e R m args below meth c Z y bytes ml ret n0 wd F T' h cells slots → Go p e below F n0 Q T' (mkF m pc' L (v :: S))) : Go p e below F n0 Q T (mkF m pc L (.ref a :: S)) := by
  obtain ⟨s, locs, X, hx, rfl, rfl, hZ, hown, hnm, hr, hlk, eT, N, hn, hF⟩ := C; subst hp
  obtain ⟨T', X', e', st⟩ := Jvm.RoadKit.getF X hx hZ hown w via eT Fd (g := mkF m pc L (.ref a :: S)) rfl rfl hd
  exact (K T' ⟨s, locs, X', hx, rfl, rfl, hZ, hown, hnm, hr, hlk, e', N, hn, hF⟩).via st
theorem Cx.getS (C : Cx p l e R m args below meth c Z y bytes ml ret n0 wd F T h cells slots) {idx : Nat} {R0 O n d host : String} {v : Value} (w : (Jvm.Cond.fieldLink y.cls idx R0 n d).before a0 Z = true ∨ (Jvm.Cond.fieldLinkNest y.cls idx R0 n d host).before a0 Z = true) (via : Via Z R0 O n d) (Fd : Sta Z h O n d v) (hd : decode bytes pc = .ok (.getstatic idx, 3)) (hp : pc + 3 = pc')
    (K : ∀ T', Cx p l e R m args below meth c Z y bytes ml ret n0 wd F T' h cells slots → Go p e below F n0 Q T' (mkF m pc' L (v :: S))) : Go p e below F n0 Q T (mkF m pc L S) := by
  obtain ⟨s, locs, X, hx, rfl, rfl, hZ, hown, hnm, hr, hlk, eT, N, hn, hF⟩ := C; subst hp
  obtain ⟨T', X', e', st⟩ := getS2 X hx hZ hown w via eT Fd (g := mkF m pc L S) rfl hd
  exact (K T' ⟨s, locs, X', hx, rfl, rfl, hZ, hown, hnm, hr, hlk, e', N, hn, hF⟩).via st
theorem Cx.putF (C : Cx p l e R m args below meth c Z y bytes ml ret n0 wd F T h cells slots) {idx kk : Nat} {R0 O n d host Cl : String} {a : Addr} {v old : Value} {ty : FieldType} (w : (Jvm.Cond.fieldLink y.cls idx R0 n d).before a0 Z = true ∨ (Jvm.Cond.fieldLinkNest y.cls idx R0 n d host).before a0 Z = true) (via : Via Z R0 O n d) (Fd : Fld Z h a O n d old) (E : Exa Z h a Cl) (Lw : (Jvm.Cond.lays Cl O n d).before a0 Z = true ∨ ((Jvm.Cond.laysFinal Cl O n d).before a0 Z = true ∧ y.cls = O ∧ y.name = "<init>")) (wi : (Jvm.Cond.instantiable Cl kk).before a0 Z = true)
    (hty : parseFieldDescriptor d = some ty) (hnr : narrow ty v = v) (hf : fits ty v = true) (g : n0 ≤ a) (hd : decode bytes pc = .ok (.putfield idx, 3)) (hp : pc + 3 = pc') (K : ∀ T' h', Cx p l e R m args below meth c Z y bytes ml ret n0 wd F T' h' cells slots → Wr h h' a (Jvm.RoadKit.slotOf Z O n d) v → Go p e below F n0 Q T' (mkF m pc' L S)) : Go p e below F n0 Q T (mkF m pc L (v :: .ref a :: S)) := by
  obtain ⟨s, locs, X, hx, rfl, rfl, hZ, hown, hnm, hr, hlk, eT, N, hn, hF⟩ := C; subst hp
  obtain ⟨T', h', X', e', W, st⟩ := Jvm.RoadKit.putF X hx hZ hown w via eT Fd E (Lw.imp id fun q => ⟨q.1, q.2.1, hnm.trans q.2.2⟩) wi hty hnr hf (g := mkF m pc L (v :: .ref a :: S)) rfl rfl hd
  exact (K T' h' ⟨s, _, X', hx, rfl, rfl, hZ, hown, hnm, hr, hlk, e', Fr.snoc X' N g, hn, fun o t L q => hF o t L (W.size ▸ q)⟩ W).via st
theorem Cx.putFN (C : Cx p l e R m args below meth c Z y bytes ml ret n0 wd F T h cells slots) {idx kk : Nat} {R0 O n d Cl : String} {a : Addr} {v v' old : Value} {ty : FieldType} (w : (Jvm.Cond.fieldLink y.cls idx R0 n d).before a0 Z = true) (via : Via Z R0 O n d) (Fd : Fld Z h a O n d old) (E : Exa Z h a Cl) (Lw : (Jvm.Cond.lays Cl O n d).before a0 Z = true ∨ ((Jvm.Cond.laysFinal Cl O n d).before a0 Z = true ∧ y.cls = O ∧ y.name = "<init>")) (wi : (Jvm.Cond.instantiable Cl kk).before a0 Z = true)
    (hty : parseFieldDescriptor d = some ty) (hnr : narrow ty v = v') (hf : fits ty v' = true) (g : n0 ≤ a) (hd : decode bytes pc = .ok (.putfield idx, 3)) (hp : pc + 3 = pc') (K : ∀ T' h', Cx p l e R m args below meth c Z y bytes ml ret n0 wd F T' h' cells slots → Wr h h' a (Jvm.RoadKit.slotOf Z O n d) v' → Go p e below F n0 Q T' (mkF m pc' L S)) : Go p e below F n0 Q T (mkF m pc L (v :: .ref a :: S)) := by
  obtain ⟨s, locs, X, hx, rfl, rfl, hZ, hown, hnm, hr, hlk, eT, N, hn, hF⟩ := C; subst hp
  obtain ⟨T', h', X', e', W, st⟩ := Jvm.RoadKit.putFN X hx hZ hown w via eT Fd E (Lw.imp id fun q => ⟨q.1, q.2.1, hnm.trans q.2.2⟩) wi hty hnr hf (g := mkF m pc L (v :: .ref a :: S)) rfl rfl hd
  exact (K T' h' ⟨s, _, X', hx, rfl, rfl, hZ, hown, hnm, hr, hlk, e', Fr.snoc X' N g, hn, fun o t L q => hF o t L (W.size ▸ q)⟩ W).via st
theorem Cx.initObj (C : Cx p l e R m args below meth c Z y bytes ml ret n0 wd F T h cells slots) {idx : Nat} {a : Addr} (w1 : (Jvm.Cond.methodLink y.cls idx Lib.objectInit).before a0 Z = true) (w2 : (Jvm.Cond.instanceMethod Lib.objectInit).before a0 Z = true) (w3 : (Jvm.Cond.code Lib.objectInit ⟨#[0xb1]⟩ 1 none).before a0 Z = true) (hsz : L.size = ml) (hf : 1 ≤ R.frames) (W : Nat) (hW : (S.map fun v => v.category).sum ≤ W) (hl : W + 12 ≤ R.locals) (hd : decode bytes pc = .ok (.invokespecial idx, 3)) (hp : pc + 3 = pc')
    (K : ∀ T', Cx p l e R m args below meth c Z y bytes ml ret n0 wd F T' h cells slots → Go p e below F n0 Q T' (mkF m pc' L S)) : Go p e below F n0 Q T (mkF m pc L (.ref a :: S)) := by
  obtain ⟨s, locs, X, hx, rfl, rfl, hZ, hown, hnm, hr, hlk, eT, N, hn, hF⟩ := C; subst hp
  obtain ⟨T', X', e', st⟩ := initO X hx hZ hown w1 w2 w3 eT (g := mkF m pc L (.ref a :: S)) rfl hsz rfl hd hf (W := W) (by show 2 * 0 + _ ≤ _; omega) hl
  exact (K T' ⟨s, locs, X', hx, rfl, rfl, hZ, hown, hnm, hr, hlk, e', N, hn, hF⟩).via st
theorem Cx.newarr (C : Cx p l e R m args below meth c Z y bytes ml ret n0 wd F T h cells slots) {aty : ArrayType} (w : (Jvm.Cond.arrayClass (newarray.typeOf aty)).before a0 Z = true) {n : Int32} (cap : Nat) (hn0 : ¬ n < 0) (hcap : n.toNatClampNeg ≤ cap) (hb : cap * 8 ≤ 536870912) (hc : cells + 1 ≤ R.cells) (hl : slots + cap ≤ R.slots) (hd : decode bytes pc = .ok (.newarray aty, 2)) (hp : pc + 2 = pc')
    (K : ∀ T' h' b k, Cx p l e R m args below meth c Z y bytes ml ret n0 wd F T' h' (cells + 1) (slots + cap) → b = h.size → n0 ≤ b → Ext h h' → Arv Z h' b k (newarray.typeOf aty) n (List.replicate cap (defaultValue (newarray.typeOf aty))) (defaultValue (newarray.typeOf aty)) → Go p e below F n0 Q T' (mkF m pc' L (.ref b :: S))) : Go p e below F n0 Q T (mkF m pc L (.int n :: S)) := by
  have hz := C.size
  obtain ⟨s, locs, X, hx, rfl, rfl, hZ, hown, hnm, hr, hlk, eT, N, hn, hF⟩ := C; subst hp
  obtain ⟨T', h', cA, X', e', E, A, st⟩ := newP X hx hZ w eT (g := mkF m pc L (.int n :: S)) rfl hd rfl hn0 (cap := cap) hcap hb hc hl
  exact (K T' h' h.size cA ⟨s, locs, X', hx, rfl, rfl, hZ, hown, hnm, hr, hlk, e', N, hn, fun o t L q => hF o t L (Nat.le_trans E.1 q)⟩ rfl hz E ((Arv.new A hn0).pad (pad_rep [] _ cap))).via st
theorem Cx.bastore (C : Cx p l e R m args below meth c Z y bytes ml ret n0 wd F T h cells slots) {a : Addr} {k : ClassId} {n j : Int32} {x : Int32} {vs : List Value} {dv : Value} (A : Arv Z h a k .byte n vs dv) (hj : ¬ j < 0 ∧ j < n) (hlen : j.toNatClampNeg < vs.length) (g : n0 ≤ a) (hd : decode bytes pc = .ok (.bastore, 1)) (hp : pc + 1 = pc')
    (K : ∀ T' h', Cx p l e R m args below meth c Z y bytes ml ret n0 wd F T' h' cells slots → Wr h h' a j.toNatClampNeg (.int (nar .byte x)) → Arv Z h' a k .byte n (vs.set j.toNatClampNeg (.int (nar .byte x))) dv → Go p e below F n0 Q T' (mkF m pc' L S)) : Go p e below F n0 Q T (mkF m pc L (.int x :: .int j :: .ref a :: S)) := by
  obtain ⟨s, locs, X, hx, rfl, rfl, hZ, hown, hnm, hr, hlk, eT, N, hn, hF⟩ := C; subst hp
  obtain ⟨cl, Ar, q1, Sz, q3, H, G⟩ := A
  obtain ⟨T', h', X', e', W, st⟩ := stB X hx hZ eT Ar (j := j) (inb_of Sz hj) (g := mkF m pc L (.int x :: .int j :: .ref a :: S)) rfl rfl hd
  exact (K T' h' ⟨s, _, X', hx, rfl, rfl, hZ, hown, hnm, hr, hlk, e', Fr.snoc X' N g, hn, fun o t L q => hF o t L (W.size ▸ q)⟩ W (Arv.set Ar q1 Sz q3 H G (fits_nar_byte _) W _ rfl hlen)).via st
theorem Cx.castore (C : Cx p l e R m args below meth c Z y bytes ml ret n0 wd F T h cells slots) {a : Addr} {k : ClassId} {n j : Int32} {x : Int32} {vs : List Value} {dv : Value} (A : Arv Z h a k .char n vs dv) (hj : ¬ j < 0 ∧ j < n) (hlen : j.toNatClampNeg < vs.length) (g : n0 ≤ a) (hd : decode bytes pc = .ok (.castore, 1)) (hp : pc + 1 = pc')
    (K : ∀ T' h', Cx p l e R m args below meth c Z y bytes ml ret n0 wd F T' h' cells slots → Wr h h' a j.toNatClampNeg (.int (nar .char x)) → Arv Z h' a k .char n (vs.set j.toNatClampNeg (.int (nar .char x))) dv → Go p e below F n0 Q T' (mkF m pc' L S)) : Go p e below F n0 Q T (mkF m pc L (.int x :: .int j :: .ref a :: S)) := by
  obtain ⟨s, locs, X, hx, rfl, rfl, hZ, hown, hnm, hr, hlk, eT, N, hn, hF⟩ := C; subst hp
  obtain ⟨cl, Ar, q1, Sz, q3, H, G⟩ := A
  obtain ⟨T', h', X', e', W, st⟩ := stC X hx hZ eT Ar (j := j) (inb_of Sz hj) (g := mkF m pc L (.int x :: .int j :: .ref a :: S)) rfl rfl hd
  exact (K T' h' ⟨s, _, X', hx, rfl, rfl, hZ, hown, hnm, hr, hlk, e', Fr.snoc X' N g, hn, fun o t L q => hF o t L (W.size ▸ q)⟩ W (Arv.set Ar q1 Sz q3 H G (fits_nar_char _) W _ rfl hlen)).via st
theorem Cx.caload (C : Cx p l e R m args below meth c Z y bytes ml ret n0 wd F T h cells slots) {a : Addr} {k : ClassId} {n j : Int32} {v : Int32} {vs : List Value} {dv : Value} (A : Arv Z h a k .char n vs dv) (hj : ¬ j < 0 ∧ j < n) (hv : vs.getD j.toNatClampNeg dv = .int v) (hd : decode bytes pc = .ok (.caload, 1)) (hp : pc + 1 = pc') (K : Go p e below F n0 Q T (mkF m pc' L (.int v :: S))) : Go p e below F n0 Q T (mkF m pc L (.int j :: .ref a :: S)) := by
  obtain ⟨s, locs, X, hx, rfl, rfl, hZ, hown, hnm, hr, hlk, eT, N, hn, hF⟩ := C; subst hp
  obtain ⟨cl, Ar, q1, Sz, q3, H, G⟩ := A
  exact K.via fun t k => X.caload hx (j := j) (by rw [eT]; exact Ar.1) (State.isArrayOf_alike hZ.alike Ar.2.1) Ar.2.2 (inb_of Sz hj) (H.at (inb_of Sz hj) hv) (g := mkF m pc L (.int j :: .ref a :: S)) rfl rfl hd t k
theorem Cx.arrlen (C : Cx p l e R m args below meth c Z y bytes ml ret n0 wd F T h cells slots) {a : Addr} {k : ClassId} {n : Int32} {ty : FieldType} {vs : List Value} {dv : Value} (A : Arv Z h a k ty n vs dv) (hd : decode bytes pc = .ok (.arraylength, 1)) (hp : pc + 1 = pc') (K : Go p e below F n0 Q T (mkF m pc' L (.int n :: S))) : Go p e below F n0 Q T (mkF m pc L (.ref a :: S)) := by
  obtain ⟨s, locs, X, hx, rfl, rfl, hZ, hown, hnm, hr, hlk, eT, N, hn, hF⟩ := C; subst hp
  obtain ⟨cl, Ar, q1, Sz, q3, H, G⟩ := A
  rw [← len_of Sz q3] at K
  exact K.via fun t k => X.arraylength hx (by rw [eT]; exact Ar.1) (State.isArrayOf_alike hZ.alike Ar.2.1) (g := mkF m pc L (.ref a :: S)) rfl rfl hd t k
theorem Cx.callN (C : Cx p l e R m args below meth c Z y bytes ml ret n0 wd F T h cells slots) {a : Addr} {idx : Nat} {y' : MethodName} {bytes' : ByteArray} {ml' : Nat} {R' : Room} {Q' : Option Value → Heap → Prop} {argsL : List Value} (hin : y'.name = "<init>") (w1 : (Jvm.Cond.methodLink y.cls idx y').before a0 Z = true) (w2 : (Jvm.Cond.instanceMethod y').before a0 Z = true) (wz : (Jvm.Cond.initialized y'.cls).before a0 Z = true) (wc : (Jvm.Cond.code y' bytes' ml' none).before a0 Z = true)
    (hy : y'.cls ≠ "java/lang/invoke/MethodHandle" ∧ y'.cls ≠ "java/lang/invoke/VarHandle") (M : Ctr l Z y' bytes' ml' none R' (.ref a :: argsL).toArray h n0 Q') {ps : List FieldType} {rt : Option FieldType} (hpd : parseMethodDescriptor y'.desc = some ⟨ps, rt⟩) (hlen : argsL.length = ps.length) (W : Nat) (hf : R'.frames + 1 ≤ R.frames) (hl : W + (ml' + 11) + R'.locals ≤ R.locals) (hc : cells + R'.cells ≤ R.cells) (hs : slots + R'.slots ≤ R.slots) {rest : List Value} (hst : S = argsL.reverse ++ .ref a :: rest) (hsz : L.size = ml) (hW : (rest.map fun v => v.category).sum ≤ W) (hd : decode bytes pc = .ok (.invokespecial idx, 3)) (hp : pc + 3 = pc') (K : ∀ v T' h', Cx p l e R m args below meth c Z y bytes ml ret n0 wd F T' h' (cells + R'.cells) (slots + R'.slots) → Q' v h' → Go p e below F n0 Q T' (mkF m pc' L (v.toList ++ rest))) : Go p e below F n0 Q T (mkF m pc L S) := by
  obtain ⟨s, locs, X, hx, rfl, rfl, hZ, hown, hnm, hr, hlk, eT, N, hn, hF⟩ := C; subst hp
  obtain ⟨v, _, ⟨T', L', k', n'⟩, -, X', ⟨Lc, hQ, e1, e2, e3⟩, st⟩ := X.specialBack hx (y := y') hin hown (mvT hZ w1) (mvT hZ w2) (mvT hZ wc) hy (backOf (W := W) (Q := fun v h9 L => (Q' v h9 ∧ h.size ≤ h9.size) ∧ Fr n0 L) (M []) hZ wc wz hf hl) (g := mkF m pc L S) rfl hsz (Steps.refl _) (a := a) (argsL := argsL) (rest := rest) (lenOf hpd hlen) hst (by show 2 * 0 + _ ≤ _; omega) hd (fun _ _ => ⟨rfl, eT, hc, hs⟩)
  dsimp only [Pt.U, Pt.locs, Pt.cells, Pt.slots] at X' e1 e2 e3 st hQ
  subst e1 e2 e3
  exact (K v T' T'.heap ⟨s, _, X', hx, rfl, rfl, hZ, hown, hnm, hr, hlk, rfl, N.app hQ.2, hn, fun o t L q => hF o t L (Nat.le_trans hQ.1.2 q)⟩ hQ.1.1).via fun t k => st.trans k
theorem Cx.callV (C : Cx p l e R m args below meth c Z y bytes ml ret n0 wd F T h cells slots) {a : Addr} {idx : Nat} {y' : MethodName} {bytes' : ByteArray} {ml' : Nat} {ret' : Option FieldType} {R' : Room} {Q' : Option Value → Heap → Prop} {argsL : List Value} {Cl : String} (w1 : (Jvm.Cond.methodLink y.cls idx y').before a0 Z = true) (w2 : (Jvm.Cond.declares y').before a0 Z = true) (w3 : (Jvm.Cond.selects Cl y' y').before a0 Z = true) (w4 : (Jvm.Cond.instanceMethod y').before a0 Z = true) (wz : (Jvm.Cond.initialized y'.cls).before a0 Z = true) (wc : (Jvm.Cond.code y' bytes' ml' ret').before a0 Z = true) (E : Exa Z h a Cl)
    (hy : y'.cls ≠ "java/lang/invoke/MethodHandle" ∧ y'.cls ≠ "java/lang/invoke/VarHandle") (M : Ctr l Z y' bytes' ml' ret' R' (.ref a :: argsL).toArray h n0 Q') {ps : List FieldType} {rt : Option FieldType} (hpd : parseMethodDescriptor y'.desc = some ⟨ps, rt⟩) (hlen : argsL.length = ps.length) (W : Nat) (hf : R'.frames + 1 ≤ R.frames) (hl : W + (ml' + 11) + R'.locals ≤ R.locals) (hc : cells + R'.cells ≤ R.cells) (hs : slots + R'.slots ≤ R.slots) {rest : List Value} (hst : S = argsL.reverse ++ .ref a :: rest) (hsz : L.size = ml) (hW : (rest.map fun v => v.category).sum ≤ W) (hd : decode bytes pc = .ok (.invokevirtual idx, 3)) (hp : pc + 3 = pc') (K : ∀ v T' h', Cx p l e R m args below meth c Z y bytes ml ret n0 wd F T' h' (cells + R'.cells) (slots + R'.slots) → Q' v h' → Go p e below F n0 Q T' (mkF m pc' L (v.toList ++ rest))) : Go p e below F n0 Q T (mkF m pc L S) := by
  obtain ⟨s, locs, X, hx, rfl, rfl, hZ, hown, hnm, hr, hlk, eT, N, hn, hF⟩ := C; subst hp
  obtain ⟨cB, kB, qa, qb, qc⟩ := isOf hZ eT E
  obtain ⟨v, _, ⟨T', L', k', n'⟩, -, X', ⟨Lc, hQ, e1, e2, e3⟩, st⟩ := X.virtualBack hx (y := y') (z := y') hown (mvT hZ w1) (mvT hZ w2) (notFace_of_selects (args := #[]) (mvT hZ w3)) (mvT hZ w3) (mvT hZ w4) hy (backOf (W := W) (Q := fun v h9 L => (Q' v h9 ∧ h.size ≤ h9.size) ∧ Fr n0 L) (M []) hZ wc wz hf hl) qa qc (g := mkF m pc L S) rfl hsz (Steps.refl _) (argsL := argsL) (rest := rest) (lenOf hpd hlen) hst (by show 2 * 0 + _ ≤ _; omega) hd (fun _ _ => ⟨rfl, eT, hc, hs⟩)
  dsimp only [Pt.U, Pt.locs, Pt.cells, Pt.slots] at X' e1 e2 e3 st hQ
  subst e1 e2 e3
  exact (K v T' T'.heap ⟨s, _, X', hx, rfl, rfl, hZ, hown, hnm, hr, hlk, rfl, N.app hQ.2, hn, fun o t L q => hF o t L (Nat.le_trans hQ.1.2 q)⟩ hQ.1.1).via fun t k => st.trans k
theorem Cx.ifnonnullYes (C : Cx p l e R m args below meth c Z y bytes ml ret n0 wd F T h cells slots) {b : Addr} {o : Int} (hd : decode bytes pc = .ok (.ifnonnull o, 3)) (ho : 0 ≤ (pc : Int) + o) (hp : ((pc : Int) + o).toNat = pc') (K : Go p e below F n0 Q T (mkF m pc' L S)) : Go p e below F n0 Q T (mkF m pc L (.ref b :: S)) := by
  obtain ⟨s, locs, X, hx, rfl, -⟩ := C
  exact K.via fun t k => XS.ifnonnullYes X.here hx rfl rfl hd rfl ho hp k
theorem Cx.acmp_ne (C : Cx p l e R m args below meth c Z y bytes ml ret n0 wd F T h cells slots) {a b : Addr} {o : Int} {py pn : Nat} (hd : decode bytes pc = .ok (.if_acmp .ne o, 3)) (ho : 0 ≤ (pc : Int) + o) (hy : ((pc : Int) + o).toNat = py) (hn : pc + 3 = pn) (K1 : ¬ a = b → Go p e below F n0 Q T (mkF m py L S)) (K2 : a = b → Go p e below F n0 Q T (mkF m pn L S)) : Go p e below F n0 Q T (mkF m pc L (.ref b :: .ref a :: S)) := by
  obtain ⟨s, locs, X, hx, rfl, -⟩ := C; subst hn
  by_cases q : a = b
  · exact (K2 q).via fun t k => XT.acmpNo X.here hx rfl hd rfl rfl rfl (XT.aa_ne_f (congrArg Value.ref q)) k
  · exact (K1 q).via fun t k => XT.acmpYes X.here hx rfl rfl hd rfl rfl rfl (XT.aa_ne_t (fun z => q (Value.ref.inj z))) ho hy k
theorem Cx.newrefs (C : Cx p l e R m args below meth c Z y bytes ml ret n0 wd F T h cells slots) {idx : Nat} {Cn ad : String} (w1 : (Jvm.Cond.classLink y.cls idx Cn).before a0 Z = true) (w2 : (Jvm.Cond.arrayOver (.object Cn)).before a0 Z = true) {n : Int32} (cap : Nat) (hn0 : ¬ n < 0) (hcap : n.toNatClampNeg ≤ cap) (hb : cap * 8 ≤ 536870912) (hc : cells + 1 ≤ R.cells) (hl : slots + cap ≤ R.slots) (had : "[" ++ (FieldType.object Cn).toString = ad) (hd : decode bytes pc = .ok (.anewarray idx, 3)) (hp : pc + 3 = pc')
    (K : ∀ T' h' b k, Cx p l e R m args below meth c Z y bytes ml ret n0 wd F T' h' (cells + 1) (slots + cap) → b = h.size → n0 ≤ b → Ext h h' → Arv Z h' b k (.object Cn) n (List.replicate cap .null) .null → Exa Z h' b ad → Ovr Z k Cn → Go p e below F n0 Q T' (mkF m pc' L (.ref b :: S))) : Go p e below F n0 Q T (mkF m pc L (.int n :: S)) := by
  have hz := C.size
  obtain ⟨s, locs, X, hx, rfl, rfl, hZ, hown, hnm, hr, hlk, eT, N, hn, hF⟩ := C; subst hp
  obtain ⟨T', h', cA, X', e', E, A, Ea, O, st⟩ := newRE X hx hZ hown w1 w2 eT (g := mkF m pc L (.int n :: S)) rfl hd rfl hn0 (cap := cap) hcap hb hc hl had
  exact (K T' h' h.size cA ⟨s, locs, X', hx, rfl, rfl, hZ, hown, hnm, hr, hlk, e', N, hn, fun o t L q => hF o t L (Nat.le_trans E.1 q)⟩ rfl hz E ((Arv.new A hn0).pad (pad_rep [] _ cap)) Ea O).via st
theorem Cx.aastore (C : Cx p l e R m args below meth c Z y bytes ml ret n0 wd F T h cells slots) {a b : Addr} {k : ClassId} {n j : Int32} {Cn : String} {vs : List Value} {dv : Value} (A : Arv Z h a k (.object Cn) n vs dv) (O : Ovr Z k Cn) (I : Ins Z h b Cn true) (hj : ¬ j < 0 ∧ j < n) (hlen : j.toNatClampNeg < vs.length) (g : n0 ≤ a) (hd : decode bytes pc = .ok (.aastore, 1)) (hp : pc + 1 = pc')
    (K : ∀ T' h', Cx p l e R m args below meth c Z y bytes ml ret n0 wd F T' h' cells slots → Wr h h' a j.toNatClampNeg (.ref b) → Arv Z h' a k (.object Cn) n (vs.set j.toNatClampNeg (.ref b)) dv → Go p e below F n0 Q T' (mkF m pc' L S)) : Go p e below F n0 Q T (mkF m pc L (.ref b :: .int j :: .ref a :: S)) := by
  obtain ⟨s, locs, X, hx, rfl, rfl, hZ, hown, hnm, hr, hlk, eT, N, hn, hF⟩ := C; subst hp
  obtain ⟨cl, Ar, q1, Sz, q3, H, G⟩ := A
  obtain ⟨T', h', X', e', W, st⟩ := stR X hx hZ eT Ar (j := j) (inb_of Sz hj) rfl (Sto.ofV Ar q1 O I) (g := mkF m pc L (.ref b :: .int j :: .ref a :: S)) rfl rfl hd
  exact (K T' h' ⟨s, _, X', hx, rfl, rfl, hZ, hown, hnm, hr, hlk, e', Fr.snoc X' N g, hn, fun o t L q => hF o t L (W.size ▸ q)⟩ W (Arv.set Ar q1 Sz q3 H G rfl W _ rfl hlen)).via st
theorem Cx.clonearr (C : Cx p l e R m args below meth c Z y bytes ml ret n0 wd F T h cells slots) {idx : Nat} {ad : String} (w1 : (Jvm.Cond.methodLink y.cls idx ⟨ad, "clone", "()Ljava/lang/Object;"⟩).before a0 Z = true) (w2 : (Jvm.Cond.sameMethod ad "java/lang/Object" "clone" "()Ljava/lang/Object;").before a0 Z = true) (w3 : (Jvm.Cond.native ⟨"java/lang/Object", "clone", "()Ljava/lang/Object;"⟩).before a0 Z = true) (w4 : (Jvm.Cond.instanceMethod ⟨"java/lang/Object", "clone", "()Ljava/lang/Object;"⟩).before a0 Z = true) (w5 : (Jvm.Cond.selects ad ⟨ad, "clone", "()Ljava/lang/Object;"⟩ ⟨"java/lang/Object", "clone", "()Ljava/lang/Object;"⟩).before a0 Z = true) (w6 : (Jvm.Cond.castable ad "java/lang/Cloneable").before a0 Z = true)
    {a : Addr} {k : ClassId} {z : Int32} {ty : FieldType} {vs : List Value} {dv : Value} (A : Arv Z h a k ty z vs dv) (E : Exa Z h a ad) (hsz : L.size = ml) (hf : 1 ≤ R.frames) (W : Nat) (hW : (S.map fun v => v.category).sum ≤ W) (hlo : W + 14 ≤ R.locals) (cap : Nat) (hcap : z.toNatClampNeg ≤ cap) (hc : cells + 1 ≤ R.cells) (hl : slots + cap ≤ R.slots) (hd : decode bytes pc = .ok (.invokevirtual idx, 3)) (hp : pc + 3 = pc')
    (K : ∀ T' h' b, Cx p l e R m args below meth c Z y bytes ml ret n0 wd F T' h' (cells + 1) (slots + cap) → b = h.size → n0 ≤ b → Ext h h' → Arv Z h' b k ty z vs dv → Exa Z h' b ad → Go p e below F n0 Q T' (mkF m pc' L (.ref b :: S))) : Go p e below F n0 Q T (mkF m pc L (.ref a :: S)) := by
  have hz := C.size
  obtain ⟨s, locs, X, hx, rfl, rfl, hZ, hown, hnm, hr, hlk, eT, N, hn, hF⟩ := C; subst hp
  obtain ⟨cl, Ar, q1, Sz, q3, H, G⟩ := A
  have FC : FitC Z cl := fitC_of Ar fun i hi v hv => by rw [H i hi] at hv; cases hv; exact G i hi
  obtain ⟨T', h', X', e', Ex, A', E', st⟩ := cloneA X hx hZ hown w1 w2 w3 w4 w5 w6 eT Ar E FC (g := mkF m pc L (.ref a :: S)) rfl hsz rfl hd hf (W := W) (cap := cap) (by show 2 * 0 + _ ≤ _; omega) hlo (by rw [Sz]; exact hcap) hc hl
  exact (K T' h' h.size ⟨s, locs, X', hx, rfl, rfl, hZ, hown, hnm, hr, hlk, e', N, hn, fun o t L q => hF o t L (Nat.le_trans Ex.1 q)⟩ rfl hz Ex ⟨cloneOf cl, A', q1, Sz, q3, H, G⟩ E').via st
theorem Cx.castY (C : Cx p l e R m args below meth c Z y bytes ml ret n0 wd F T h cells slots) {idx : Nat} {Kn : String} {a : Addr} (w : (Jvm.Cond.classLink y.cls idx Kn).before a0 Z = true) (I : Ins Z h a Kn true) (hd : decode bytes pc = .ok (.checkcast idx, 3)) (hp : pc + 3 = pc') (K : ∀ T', Cx p l e R m args below meth c Z y bytes ml ret n0 wd F T' h cells slots → Go p e below F n0 Q T' (mkF m pc' L (.ref a :: S))) : Go p e below F n0 Q T (mkF m pc L (.ref a :: S)) := by
  obtain ⟨s, locs, X, hx, rfl, rfl, hZ, hown, hnm, hr, hlk, eT, N, hn, hF⟩ := C; subst hp
  obtain ⟨T', X', e', st⟩ := Jvm.RoadKit.castY X hx hZ hown w eT I (g := mkF m pc L (.ref a :: S)) rfl rfl hd
  exact (K T' ⟨s, locs, X', hx, rfl, rfl, hZ, hown, hnm, hr, hlk, e', N, hn, hF⟩).via st
end Layer
end Jvm.Ow
namespace Jvm.Ow
open Sem ClassFile Op Lib Jvm.Stand Jvm.Free Jvm.LawKit Jvm.RoadKit
theorem ext_trans {a b c : Heap} (h1 : Ext a b) (h2 : Ext b c) : Ext a c := ⟨Nat.le_trans h1.1 h2.1, fun x q r => h2.2 x q (h1.2 x q r)⟩
def CtrW (l : Launch) (Z : State) (y : MethodName) (bytes : ByteArray) (ml : Nat) (ret : Option FieldType) (R : Room) (as' : Array Value) (h : Heap) (n0 : Nat) (Q : Option Value → Heap → Prop) : Prop :=
  ∀ ws : List Jvm.Cond, MetFree l y (head1 (Jvm.Cond.code y bytes ml ret :: ws) R) (fun a U => a = as' ∧ Z.Warmed39 U.vm ∧ U.heap = h ∧ U.vm.interned = Z.vm.interned) (fun _ _ _ _ _ => True) (fun _ U o U' => ∃ v L, o = .returned v ∧ (Q v U'.heap ∧ Fr n0 L) ∧ WideEnd U o U' L R.cells R.slots)
/-- a body's start: nothing written, nothing interned -/
def C0x (p : Program) (l : Launch) (e : Env) (R : Room) (m : MethodId) (args : Array Value) (below : List Frame) (meth : Method) (c : Code) (Z : State) (y : MethodName) (bytes : ByteArray) (ml : Nat) (ret : Option FieldType) (n0 : Nat) (F : Outcome → State → List Loc → Prop) (T : State) (h : Heap) : Prop :=
  ∃ s, Stand p l e R s m args below meth c T [] 0 0 ∧ p.tables.exec = Jvm.exec ∧ c.code = bytes ∧ c.maxLocals = ml ∧ Z.Warmed39 s.vm ∧ s.vm.findClass y.cls = some m.cls ∧ meth.name = y.name ∧ meth.sig.returnType = ret ∧ meth.locks = false ∧ T.heap = h ∧ s.heap = h ∧ n0 ≤ h.size ∧ s.vm.interned = Z.vm.interned ∧ ∀ o t L, h.size ≤ t.heap.size → WideEnd s o t L R.cells R.slots → F o t L
section Wide
variable {p : Program} {l : Launch} {e : Env} {R : Room} {m : MethodId} {args : Array Value} {below : List Frame} {meth : Method} {c : Code} {T : State} {cells slots : Nat} {Z s : State} {a0 : Array Value} {h : Heap} {y : MethodName} {bytes : ByteArray} {ml n0 : Nat} {ret : Option FieldType} {wd : WD} {F : Outcome → State → List Loc → Prop} {Q : Option Value → Heap → Prop} {pc pc' : Nat} {L : Array Slot} {S : List Value}
theorem CtrW.body {as' : Array Value} (hpl : plainFor y = true) (hn : n0 ≤ h.size) (ef : ∀ m, entryFrame m as' ml = mkF m 0 L [])
    (k : ∀ (p : Program) (e : Env) (F : Outcome → State → List Loc → Prop) (m : MethodId) (below : List Frame) (meth : Method) (c : Code) (T : State), C0x p l e R m as' below meth c Z y bytes ml ret n0 F T h → Go p e below F n0 Q T (mkF m 0 L [])) : CtrW l Z y bytes ml ret R as' h n0 Q := by
  intro ws
  refine MetFree.of_bodySF hpl hisR ?_
  intro p e s m args below meth c s₁ Bd hml0 hP hK
  obtain ⟨rfl, hZ, hh, hI⟩ := hP
  obtain ⟨s₂, o, g1, g2, g3, v, L9, g4, ⟨g5, g6, -⟩, g7⟩ := k p e (fun o t L => WideEnd s o t L R.cells R.slots) m below meth c s₁ ⟨s, Stand.of_body Bd, Bd.exec, Bd.bytes, hml0, hZ, findClass_of_methodNamed Bd.named, (name_of_methodNamed Bd.named Bd.method).1, Bd.returns, Bd.notSynchronized, by rw [← hh, Bd.state]; rfl, hh, hn, hI, fun _ _ _ _ q => q⟩
  rw [ef m]
  exact ⟨s₂, o, g1, g2, g3, v, L9, g4, ⟨g5, g6⟩, g7⟩
theorem C0x.cx (C : C0x p l e R m args below meth c Z y bytes ml ret n0 F T h) : Cx p l e R m args below meth c Z y bytes ml ret n0 (some (true, none)) F T h 0 0 := by
  obtain ⟨s, X, hx, hb, hm, hZ, hown, hnm, hr, hlk, eT, es, hn, hI, hF⟩ := C
  exact ⟨s, [], X, hx, hb, hm, hZ, hown, hnm, hr, hlk, eT, Fr.nil n0, ⟨by rw [es]; exact hn, fun _ _ => hI, fun b o i a z => by (cases z)⟩, fun o t L q z => hF o t L q z⟩
theorem C0x.initObj (C : C0x p l e R m args below meth c Z y bytes ml ret n0 F T h) {idx : Nat} {a : Addr} (w1 : (Jvm.Cond.methodLink y.cls idx Lib.objectInit).before a0 Z = true) (w2 : (Jvm.Cond.instanceMethod Lib.objectInit).before a0 Z = true) (w3 : (Jvm.Cond.code Lib.objectInit ⟨#[0xb1]⟩ 1 none).before a0 Z = true) (hsz : L.size = ml) (hf : 1 ≤ R.frames) (W : Nat) (hW : (S.map fun v => v.category).sum ≤ W) (hl : W + 12 ≤ R.locals) (hd : decode bytes pc = .ok (.invokespecial idx, 3)) (hp : pc + 3 = pc')
    (K : ∀ T', C0x p l e R m args below meth c Z y bytes ml ret n0 F T' h → Go p e below F n0 Q T' (mkF m pc' L S)) : Go p e below F n0 Q T (mkF m pc L (.ref a :: S)) := by
  obtain ⟨s, X, hx, rfl, rfl, hZ, hown, hnm, hr, hlk, eT, es, hn, hI, hF⟩ := C; subst hp
  obtain ⟨T', X', e', st⟩ := initO X hx hZ hown w1 w2 w3 eT (g := mkF m pc L (.ref a :: S)) rfl hsz rfl hd hf (W := W) (by show 2 * 0 + _ ≤ _; omega) hl
  exact (K T' ⟨s, X', hx, rfl, rfl, hZ, hown, hnm, hr, hlk, e', es, hn, hI, hF⟩).via st
theorem C0x.ldcHeld (C : C0x p l e R m args below meth c Z y bytes ml ret n0 F T h) {idx : Nat} {text : String} (w : (Jvm.Cond.stringLink y.cls idx text).before a0 Z = true) (wS : ∀ a ∈ Bundle.stringAtoms, a.before a0 Z = true) (hh : Jvm.Lit.constHeld Z y.cls idx) (hcw : Jvm.Lit.compactW.before a0 Z = true) (hE : Ext Z.heap h)
    {vs : List Value} {z : Int32} (ht : (∀ c ∈ text.toList, c.toNat < 256) ∧ text.toList.map (fun c => Value.int (Jvm.Lit.byteI c.toNat.toUInt16)) = vs) (hz : ¬ z < 0) (hl : z.toNatClampNeg = vs.length) (n : Nat) (hn9 : 4 * text.toList.length ≤ n) (hbig : n ≤ 536870912) (hc : 0 + 2 ≤ R.cells) (hl' : 0 + (n + 4) ≤ R.slots) (hd : decode bytes pc = .ok (.ldc idx, 2)) (hp : pc + 2 = pc')
    (K : ∀ a b T' h', Cx p l e R m args below meth c Z y bytes ml ret n0 (some (false, some (y.cls, idx, a))) F T' h' (0 + 2) (0 + (n + 4)) → Ext h h' → Exa Z h' a "java/lang/String" → Fld Z h' a "java/lang/String" "coder" "B" (.int (0 : Int32)) → Fld Z h' a "java/lang/String" "value" "[B" (.ref b) → Go p e below F n0 Q T' (mkF m pc' L (.ref a :: S))) : Go p e below F n0 Q T (mkF m pc L S) := by
  obtain ⟨s, X, hx, rfl, rfl, hZ, hown, hnm, hr, hlk, eT, es, hn, hI, hF⟩ := C; subst hp
  have X0 : Stand p l e R (s.setVm s.vm) m args below meth c T [] 0 0 := X
  have hIB : IB Z s.vm [] := ⟨#[], by rw [hI]; simp, fun q hq => by simp at hq⟩
  obtain ⟨a, T', h', k1, b, k, X', e', E, hS, hk, hZ', hown', hEx, hFc, hFv, -, -, -, -, hLit, st⟩ := ldcSVL (s := s) (vm0 := s.vm) X0 hx hZ hown w wS eT (State.WarmedH.since (State.WarmedH.refl s) h.size) (Nat.le_refl _) (Fr.nil _) (fun b cl q => by rw [es]; exact hE.2 b cl q) hIB (by simp) hh hcw ht hz hl (g := mkF m pc L S) rfl hd hn9 hbig hc hl'
  refine (K a b T' h' ⟨s.setVm T'.vm, [], X', hx, rfl, rfl, hZ', hown', hnm, hr, hlk, e', Fr.nil n0, ⟨Nat.le_trans hn (Nat.le_of_eq (by rw [← es]; rfl)), fun q z => by (cases z), fun b o i a z => by cases z; exact hLit⟩, fun o t L q z => ?_⟩ E hEx hFc hFv).via st
  refine hF o t L (Nat.le_trans E.1 q) ?_
  obtain ⟨z1, z2, z3, z4⟩ := z
  have zz := hS.trans (⟨z2, z3⟩ : (s.setVm T'.vm).Since t.vm t.heap.size) (Nat.le_trans hk q)
  exact ⟨z1, zz.1, zz.2, z4.setVm s.vm⟩
theorem Cx.ldcLit {b : Bool} {idx : Nat} {a : Addr} {text : String} (C : Cx p l e R m args below meth c Z y bytes ml ret n0 (some (b, some (y.cls, idx, a))) F T h cells slots) (w : (Jvm.Cond.stringLink y.cls idx text).before a0 Z = true) (hd : decode bytes pc = .ok (.ldc idx, 2)) (hp : pc + 2 = pc') (K : Go p e below F n0 Q T (mkF m pc' L (.ref a :: S))) : Go p e below F n0 Q T (mkF m pc L S) := by
  obtain ⟨s, locs, X, hx, rfl, rfl, hZ, hown, hnm, hr, hlk, eT, N, hn, hF⟩ := C; subst hp
  have X0 : Stand p l e R (s.setVm s.vm) m args below meth c T locs cells slots := X
  exact K.via fun t k => ldcAgain (s := s) (vm0 := s.vm) X0 hx hZ hown w (hn.2.2 _ _ _ _ rfl) (g := mkF m pc L S) rfl hd t k
theorem Cx.ldcStr {q0 : Bool × Option (String × Nat × Addr)} (C : Cx p l e R m args below meth c Z y bytes ml ret n0 (some q0) F T h cells slots) {idx : Nat} {text : String} (w : (Jvm.Cond.stringLink y.cls idx text).before a0 Z = true) (wS : ∀ a ∈ Bundle.stringAtoms, a.before a0 Z = true) (n : Nat) (hn9 : 4 * text.toList.length ≤ n) (hbig : n ≤ 536870912) (hc : cells + 2 ≤ R.cells) (hl : slots + (n + 4) ≤ R.slots) (hd : decode bytes pc = .ok (.ldc idx, 2)) (hp : pc + 2 = pc')
    (K : ∀ a T' h', Cx p l e R m args below meth c Z y bytes ml ret n0 (some (false, none)) F T' h' (cells + 2) (slots + (n + 4)) → Ext h h' → Go p e below F n0 Q T' (mkF m pc' L (.ref a :: S))) : Go p e below F n0 Q T (mkF m pc L S) := by
  obtain ⟨s, locs, X, hx, rfl, rfl, hZ, hown, hnm, hr, hlk, eT, N, hn, hF⟩ := C; subst hp
  have X0 : Stand p l e R (s.setVm s.vm) m args below meth c T locs cells slots := X
  obtain ⟨a, T', h', k1, X', e', E, hS, hk, hZ', hown', st⟩ := ldcS (s := s) (vm0 := s.vm) X0 hx hZ hown w wS eT (State.WarmedH.since (State.WarmedH.refl s) h.size) (Nat.le_refl _) (g := mkF m pc L S) rfl hd hn9 hbig hc hl
  refine (K a T' h' ⟨s.setVm T'.vm, locs, X', hx, rfl, rfl, hZ', hown', hnm, hr, hlk, e', N, ⟨hn.1, fun q z => by (cases z), fun b o i a z => by (cases z)⟩, fun o t L q z => ?_⟩ E).via st
  refine hF o t L (Nat.le_trans E.1 q) ?_
  obtain ⟨z1, z2, z3, z4⟩ := z
  have zz := hS.trans (⟨z2, z3⟩ : (s.setVm T'.vm).Since t.vm t.heap.size) (Nat.le_trans hk q)
  exact ⟨z1, zz.1, zz.2, z4.setVm s.vm⟩
theorem backOfI {bytes : ByteArray} {maxL : Nat} {ret : Option FieldType} {rm : Room} {len W : Nat} {as' : Array Value} {Q : Option Value → Heap → List Loc → Prop}
    (hM : MetFree l y (head1 [Jvm.Cond.code y bytes maxL ret] rm) (fun a U => a = as' ∧ Z.Warmed39 U.vm ∧ U.heap = h ∧ U.vm.interned = Z.vm.interned) (fun _ _ _ _ _ => True) (fun _ U o U' => ∃ v L, o = .returned v ∧ Q v U'.heap L ∧ ReturnedEndW U o U' L rm.cells rm.slots))
    (hZ : Z.Warmed39 s.vm) (hI : s.vm.interned = Z.vm.interned) (wc : (Jvm.Cond.code y bytes maxL ret).before a0 Z = true) (wz : (Jvm.Cond.initialized y.cls).before a0 Z = true) (hf : rm.frames + 1 ≤ R.frames) (hl : W + (maxL + 11) + rm.locals ≤ R.locals) :
    BackS l R p e below s args y len W (fun A a => a = as' ∧ A.U.heap = h ∧ A.cells + rm.cells ≤ R.cells ∧ A.slots + rm.slots ≤ R.slots)
      (fun A _ v B => ∃ L, Q v B.U.heap L ∧ B.locs = A.locs ++ L ∧ B.cells = A.cells + rm.cells ∧ B.slots = A.slots + rm.slots) :=
  BackS.of_freeW (bytes := bytes) (maxL := maxL) (ret := ret) (E := fun _ _ o t L k n => k = rm.cells ∧ n = rm.slots ∧ ∃ v, o = .returned v ∧ Q v t.heap L) hM hf hl
    (fun m meth c A a Y hp => have hU : Z.Warmed39 A.U.vm := wtrans hZ Y.warmed
      ⟨by show (Cond.and _ .tt).before a A.U = true; rw [Cond.before_and, mv hU wc]; rfl, mv hU wc, mv hU wz, hp.2.2.1, hp.2.2.2⟩)
    (fun m meth c A a g mk Y hp => ⟨hp.1, wtrans hZ Y.warmed, hp.2.1, Y.warmed.interned_eq.trans hI⟩) (fun _ _ _ _ _ _ _ _ _ => trivial)
    (fun _ _ _ _ ⟨v, L, h1, h2, h3⟩ => ⟨L, _, _, h3, rfl, rfl, v, h1, h2⟩)
    (fun m meth c A a g mk v t L k n Y hp _ _ ⟨e1, e2, v', e3, e4⟩ => by cases e3; subst e1 e2; exact ⟨L, e4, rfl, rfl, rfl⟩)
theorem Cx.callSW {q0 : Option (String × Nat × Addr)} (C : Cx p l e R m args below meth c Z y bytes ml ret n0 (some (true, q0)) F T h cells slots) {idx : Nat} {y' : MethodName} {bytes' : ByteArray} {ml' : Nat} {ret' : Option FieldType} {R' : Room} {Q' : Option Value → Heap → Prop} {argsL : List Value} (w1 : (Jvm.Cond.methodLink y.cls idx y').before a0 Z = true) (w2 : (Jvm.Cond.static y').before a0 Z = true) (w3 : (Jvm.Cond.initialized y'.cls).before a0 Z = true) (w4 : (Jvm.Cond.code y' bytes' ml' ret').before a0 Z = true)
    (hy : y'.cls ≠ "java/lang/invoke/MethodHandle" ∧ y'.cls ≠ "java/lang/invoke/VarHandle") (M : CtrW l Z y' bytes' ml' ret' R' argsL.toArray h n0 Q') {ps : List FieldType} {rt : Option FieldType} (hpd : parseMethodDescriptor y'.desc = some ⟨ps, rt⟩) (hlen : argsL.length = ps.length)
    (W : Nat) (hf : R'.frames + 1 ≤ R.frames) (hl : W + (ml' + 11) + R'.locals ≤ R.locals) (hc : cells + R'.cells ≤ R.cells) (hs : slots + R'.slots ≤ R.slots) {rest : List Value} (hst : S = argsL.reverse ++ rest) (hsz : L.size = ml) (hW : (rest.map fun v => v.category).sum ≤ W)
    (hd : decode bytes pc = .ok (.invokestatic idx, 3)) (hp : pc + 3 = pc') (K : ∀ v T' h', Cx p l e R m args below meth c Z y bytes ml ret n0 (some (false, none)) F T' h' (cells + R'.cells) (slots + R'.slots) → Q' v h' → Go p e below F n0 Q T' (mkF m pc' L (v.toList ++ rest))) : Go p e below F n0 Q T (mkF m pc L S) := by
  obtain ⟨s, locs, X, hx, rfl, rfl, hZ, hown, hnm, hr, hlk, eT, N, hn, hF⟩ := C; subst hp
  have hI := hn.2.1 _ rfl
  obtain ⟨v, _, ⟨T', L', k', n'⟩, -, X', hS, hgr, ⟨Lc, hQ, e1, e2, e3⟩, st⟩ := callSS X hx (y := y') hown (mvT hZ w1) (mvT hZ w2) (mvT hZ w3) (mvT hZ w4) hy (backOfI (W := W) (Q := fun v h9 L => Q' v h9 ∧ Fr n0 L) (M []) hZ hI w4 w3 hf hl) (g := mkF m pc L S) rfl hsz (argsL := argsL) (rest := rest) (lenOf hpd hlen) hst (by show 2 * 0 + _ ≤ _; omega) hd (fun _ _ => ⟨rfl, eT, hc, hs⟩)
  dsimp only [Pt.U, Pt.locs, Pt.cells, Pt.slots] at X' e1 e2 e3 st hQ hS hgr
  subst e1 e2 e3
  refine (K v T' T'.heap ⟨s.setVm T'.vm, _, X', hx, rfl, rfl, State.Warmed39.trans (t := s) hZ hS.1, by rw [show (s.setVm T'.vm).vm = T'.vm from rfl, hS.1.alike.findClass]; exact hown, hnm, hr, hlk, rfl, N.app hQ.2, ⟨hn.1, fun q z => by (cases z), fun b o i a z => by (cases z)⟩, fun o t L q z => ?_⟩ hQ.1).via fun t k => st.trans k
  refine hF o t L (Nat.le_trans (eT ▸ hgr) q) ?_
  obtain ⟨z1, z2, z3, z4⟩ := z
  have zz := hS.trans (⟨z2, z3⟩ : (s.setVm T'.vm).Since t.vm t.heap.size) q
  exact ⟨z1, zz.1, zz.2, z4.setVm s.vm⟩
theorem Cx.callNW {q0 : Option (String × Nat × Addr)} (C : Cx p l e R m args below meth c Z y bytes ml ret n0 (some (true, q0)) F T h cells slots) {a : Addr} {idx : Nat} {y' : MethodName} {bytes' : ByteArray} {ml' : Nat} {R' : Room} {Q' : Option Value → Heap → Prop} {argsL : List Value} (hin : y'.name = "<init>") (w1 : (Jvm.Cond.methodLink y.cls idx y').before a0 Z = true) (w2 : (Jvm.Cond.instanceMethod y').before a0 Z = true) (wz : (Jvm.Cond.initialized y'.cls).before a0 Z = true) (wc : (Jvm.Cond.code y' bytes' ml' none).before a0 Z = true)
    (hy : y'.cls ≠ "java/lang/invoke/MethodHandle" ∧ y'.cls ≠ "java/lang/invoke/VarHandle") (M : CtrW l Z y' bytes' ml' none R' (.ref a :: argsL).toArray h n0 Q') {ps : List FieldType} {rt : Option FieldType} (hpd : parseMethodDescriptor y'.desc = some ⟨ps, rt⟩) (hlen : argsL.length = ps.length)
    (W : Nat) (hf : R'.frames + 1 ≤ R.frames) (hl : W + (ml' + 11) + R'.locals ≤ R.locals) (hc : cells + R'.cells ≤ R.cells) (hs : slots + R'.slots ≤ R.slots) {rest : List Value} (hst : S = argsL.reverse ++ .ref a :: rest) (hsz : L.size = ml) (hW : (rest.map fun v => v.category).sum ≤ W) (hd : decode bytes pc = .ok (.invokespecial idx, 3)) (hp : pc + 3 = pc')
    (K : ∀ v T' h', Cx p l e R m args below meth c Z y bytes ml ret n0 (some (false, none)) F T' h' (cells + R'.cells) (slots + R'.slots) → Q' v h' → Go p e below F n0 Q T' (mkF m pc' L (v.toList ++ rest))) : Go p e below F n0 Q T (mkF m pc L S) := by
  obtain ⟨s, locs, X, hx, rfl, rfl, hZ, hown, hnm, hr, hlk, eT, N, hn, hF⟩ := C; subst hp
  have hI := hn.2.1 _ rfl
  obtain ⟨v, _, ⟨T', L', k', n'⟩, -, X', hS, hgr, ⟨Lc, hQ, e1, e2, e3⟩, st⟩ := X.specialBackS hx (y := y') hin hown (mvT hZ w1) (mvT hZ w2) (mvT hZ wc) hy (backOfI (W := W) (Q := fun v h9 L => Q' v h9 ∧ Fr n0 L) (M []) hZ hI wc wz hf hl) (g := mkF m pc L S) rfl hsz (Steps.refl _) (a := a) (argsL := argsL) (rest := rest) (lenOf hpd hlen) hst (by show 2 * 0 + _ ≤ _; omega) hd (fun _ _ => ⟨rfl, eT, hc, hs⟩)
  dsimp only [Pt.U, Pt.locs, Pt.cells, Pt.slots] at X' e1 e2 e3 st hQ hS hgr
  subst e1 e2 e3
  refine (K v T' T'.heap ⟨s.setVm T'.vm, _, X', hx, rfl, rfl, State.Warmed39.trans (t := s) hZ hS.1, by rw [show (s.setVm T'.vm).vm = T'.vm from rfl, hS.1.alike.findClass]; exact hown, hnm, hr, hlk, rfl, N.app hQ.2, ⟨hn.1, fun q z => by (cases z), fun b o i a z => by (cases z)⟩, fun o t L q z => ?_⟩ hQ.1).via fun t k => st.trans k
  refine hF o t L (Nat.le_trans (eT ▸ hgr) q) ?_
  obtain ⟨z1, z2, z3, z4⟩ := z
  have zz := hS.trans (⟨z2, z3⟩ : (s.setVm T'.vm).Since t.vm t.heap.size) q
  exact ⟨z1, zz.1, zz.2, z4.setVm s.vm⟩
end Wide
end Jvm.Ow
namespace Jvm.Pilot.@@N@@
open Jvm Jvm.ClassFile Sem Op Lib Jvm.Free Jvm.Stand Jvm.LawKit Jvm.RoadKit Bundle Jvm.Ow Jvm.Pilot.@@N@@.Jvm.D
theorem own_eqite {α : Type} {P : Prop} [Decidable P] {u a b : α} : (u = if P then a else b) ↔ ((P ∧ u = a) ∨ (¬ P ∧ u = b)) := by by_cases h : P <;> simp [h]
theorem own_iteeq {α : Type} {P : Prop} [Decidable P] {u a b : α} : ((if P then a else b) = u) ↔ ((P ∧ a = u) ∨ (¬ P ∧ b = u)) := by by_cases h : P <;> simp [h]
theorem own_nea {Z : State} {h : Heap} {a b : Addr} {C : String} {k : ClassId} {ty : FieldType} {n : Int32} {vs : List Value} {dv : Value} {a0 : Array Value} {kk : Nat} (E : Exa Z h a C) (wi : (Jvm.Cond.instantiable C kk).before a0 Z = true) (F : Arv Z h b k ty n vs dv) : a ≠ b := by
  obtain ⟨c, A, -⟩ := F; exact ne_arr E wi A
theorem own_fitr {v : Value} {t : FieldType} (h : v.isRef = true) (ht : t.isReference = true) : fits t v = true := by
  rcases ref_cases h with rfl | ⟨a, rfl⟩ <;> cases t <;> first | rfl | (simp [FieldType.isReference] at ht)
theorem own_plainE {Z : State} {h : Heap} {a : Addr} {C : String} (E : Exa Z h a C) : ∃ c : Cell, h[a]? = some c ∧ c.vm.isStatics = false := by
  obtain ⟨c, k, h1, -, -, h4, -⟩ := E; exact ⟨c, h1, h4⟩
theorem own_plainV {Z : State} {h : Heap} {a : Addr} {k : ClassId} {ty : FieldType} {n : Int32} {vs : List Value} {dv : Value} (F : Arv Z h a k ty n vs dv) : ∃ c : Cell, h[a]? = some c ∧ c.vm.isStatics = false := by
  obtain ⟨c, A, -⟩ := F; exact ⟨c, A.1, A.plain⟩
theorem own_stak {Z : State} {h h' : Heap} {C n d : String} {w : Value} {ws : List Addr} (F : Sta Z h C n d w) (K : Keep h h' ws) (q : ∀ x ∈ ws, ∃ c : Cell, h[x]? = some c ∧ c.vm.isStatics = false) : Sta Z h' C n d w := by
  obtain ⟨cf, i, k, f, st, cell, h1, h2, h3, h4, h5, h6, h7⟩ := F
  refine ⟨cf, i, k, f, st, cell, h1, h2, h3, h4, K.2.1 st cell h5 fun z => ?_, h6, h7⟩
  obtain ⟨c, e1, e2⟩ := q st z
  cases h5.symm.trans e1
  rw [h6] at e2; cases e2
theorem own_narb (x : Int32) : nar .byte x.toInt8.toInt32 = x.toInt8.toInt32 := by
  show x.toInt8.toInt32.toInt8.toInt32 = _; simp
theorem own_wS {Z : State} {a0 : Array Value} (hw : ∀ d ∈ tables_1, d.before a0 Z = true) : ∀ a ∈ Bundle.stringAtoms, a.before a0 Z = true := by
  intro a ha
  simp only [Bundle.stringAtoms, List.mem_cons, List.not_mem_nil, or_false] at ha
  rcases ha with rfl | rfl | rfl | rfl | rfl | rfl | rfl
  · exact (hw _ (List.mem_of_getElem? (i := 6) rfl))
  · exact (hw _ (List.mem_of_getElem? (i := 5) rfl))
  · exact (hw _ (List.mem_of_getElem? (i := 23) rfl))
  · exact (hw _ (List.mem_of_getElem? (i := 33) rfl))
  · exact (hw _ (List.mem_of_getElem? (i := 31) rfl))
  · exact (hw _ (List.mem_of_getElem? (i := 39) rfl))
  · exact (hw _ (List.mem_of_getElem? (i := 40) rfl))
theorem own_nz {t : Term} {cs : Int32} {args : Array Value} {s : State} (ev : t.eval args s none [] s = some (.int cs)) (h : (Cond.not (Cond.eq t (.int (0 : Int32)))).value args s none s [] = some true) : ¬ cs = (0 : Int32) := by
  intro e; subst e; simp [Cond.value, Term.eval, ev] at h
theorem own_ch (x : Int32) : ¬ (255 : Int32) < nar .char ((x &&& (255 : Int32)).toUInt32.toUInt16.toUInt32.toInt32) := by
  show ¬ (255 : Int32) < ((x &&& (255 : Int32)).toUInt32.toUInt16.toUInt32.toInt32).toUInt32.toUInt16.toUInt32.toInt32
  have m := c_mask x 255 8 (by decide) (by decide)
  have c1 := c_i2c (x &&& (255 : Int32))
  have c2 := c_i2c ((x &&& (255 : Int32)).toUInt32.toUInt16.toUInt32.toInt32)
  simp only [Int32.lt_iff_toInt_lt, Int32.reduceToInt] at *
  omega

theorem pn11 : plainName "java/util/AbstractCollection" = true := by first | (simp [plainName, overriddenIn]; done) | decide +kernel
theorem pd11 : parseMethodDescriptor "()V" = some ⟨[], none⟩ := by decide +kernel
theorem ef11 (m : MethodId) (o0 : Addr) : entryFrame m #[(.ref o0)] 1 = mkF m 0 #[.val (.ref o0)] [] := by first | (simp [entryFrame, mkF, argsToLocals, Value.category]; done) | rfl
theorem d11_0 : decode jdk_22_method_1_code 0 = .ok (.aload_n 0, 1) := by decide +kernel
theorem d11_1 : decode jdk_22_method_1_code 1 = .ok (.invokespecial 1, 3) := by decide +kernel
theorem d11_4 : decode jdk_22_method_1_code 4 = .ok (.return_, 1) := by decide +kernel
set_option maxRecDepth 65536 in
set_option maxHeartbeats 40000000 in
theorem rm11 (l : Launch) (Z : State) (a0 : Array Value) (hw : ∀ d ∈ tables_1, d.before a0 Z = true) (o0 : Addr) (h0 : Heap) (n0 : Nat) (Z0 : n0 ≤ h0.size) :
    Ctr l Z (⟨"java/util/AbstractCollection", "<init>", "()V"⟩ : MethodName) jdk_22_method_1_code 1 none ({ frames := 1, cells := 0, slots := 0, locals := 12 } : Room) #[(.ref o0)] h0 n0 (fun v h' => v = none ∧ h' = h0) := by
  refine Ctr.body (L := #[.val (.ref o0)]) (plainFor_of_name pn11) Z0 (fun m => ef11 m o0) ?_
  intro p e F m below meth c T0 C0
  refine C0.aloadN d11_0 rfl rfl rfl ?_
  refine C0.initObj (hw _ (List.mem_of_getElem? (i := 64) rfl)) (hw _ (List.mem_of_getElem? (i := 16) rfl)) (hw _ (List.mem_of_getElem? (i := 17) rfl)) rfl (by decide) 0 (Nat.le_of_eq rfl) (by decide) d11_1 rfl (fun T1 C1 => ?_)
  exact C1.retV d11_4 rfl (by decide) (by decide) ⟨rfl, rfl⟩
theorem pn10 : plainName "java/util/AbstractList" = true := by first | (simp [plainName, overriddenIn]; done) | decide +kernel
theorem pd10 : parseMethodDescriptor "()V" = some ⟨[], none⟩ := by decide +kernel
theorem ef10 (m : MethodId) (o0 : Addr) : entryFrame m #[(.ref o0)] 1 = mkF m 0 #[.val (.ref o0)] [] := by first | (simp [entryFrame, mkF, argsToLocals, Value.category]; done) | rfl
theorem d10_0 : decode jdk_39_method_1_code 0 = .ok (.aload_n 0, 1) := by decide +kernel
theorem d10_1 : decode jdk_39_method_1_code 1 = .ok (.invokespecial 1, 3) := by decide +kernel
theorem d10_4 : decode jdk_39_method_1_code 4 = .ok (.aload_n 0, 1) := by decide +kernel
theorem d10_5 : decode jdk_39_method_1_code 5 = .ok (.iconst 0, 1) := by decide +kernel
theorem d10_6 : decode jdk_39_method_1_code 6 = .ok (.putfield 7, 3) := by decide +kernel
theorem d10_9 : decode jdk_39_method_1_code 9 = .ok (.return_, 1) := by decide +kernel
set_option maxRecDepth 65536 in
set_option maxHeartbeats 40000000 in
theorem rm10 (l : Launch) (Z : State) (a0 : Array Value) (hw : ∀ d ∈ tables_1, d.before a0 Z = true) (o0 : Addr) (x0 : Value) (x1 : Value) (h0 : Heap) (n0 : Nat) (Z0 : n0 ≤ h0.size) (E_o0 : Exa Z h0 o0 "java/util/ArrayList") (F_o0_modCount : Fld Z h0 o0 "java/util/AbstractList" "modCount" "I" x0) (F_o0_elementData : Fld Z h0 o0 "java/util/ArrayList" "elementData" "[Ljava/lang/Object;" x1) (g_o0 : n0 ≤ o0) :
    Ctr l Z (⟨"java/util/AbstractList", "<init>", "()V"⟩ : MethodName) jdk_39_method_1_code 1 none ({ frames := 2, cells := 0, slots := 0, locals := 24 } : Room) #[(.ref o0)] h0 n0 (fun v h' => v = none ∧ Keep h0 h' [o0] ∧ Exa Z h' o0 "java/util/ArrayList" ∧ Fld Z h' o0 "java/util/AbstractList" "modCount" "I" (.int (0 : Int32)) ∧ Fld Z h' o0 "java/util/ArrayList" "elementData" "[Ljava/lang/Object;" x1) := by
  refine Ctr.body (L := #[.val (.ref o0)]) (plainFor_of_name pn10) Z0 (fun m => ef10 m o0) ?_
  intro p e F m below meth c T0 C0
  have KP : Keep h0 h0 [o0] := Keep.refl h0 _
  refine C0.aloadN d10_0 rfl rfl rfl ?_
  refine C0.callN rfl (hw _ (List.mem_of_getElem? (i := 58) rfl)) (hw _ (List.mem_of_getElem? (i := 59) rfl)) (hw _ (List.mem_of_getElem? (i := 62) rfl)) (hw _ (List.mem_of_getElem? (i := 63) rfl)) (by decide) (a := o0) (rm11 l Z a0 hw o0 h0 n0 C0.size ) (argsL := []) pd11 rfl 0 (by decide) (by decide) (by decide) (by decide) (rest := []) rfl rfl (Nat.le_of_eq rfl) d10_1 rfl (fun v1 T1 h1 C1 qq1 => ?_)
  obtain ⟨rfl, hh1⟩ := qq1
  have hh1 := hh1.symm; subst hh1
  show Go p e below F n0 (fun v h' => v = none ∧ Keep h0 h' [o0] ∧ Exa Z h' o0 "java/util/ArrayList" ∧ Fld Z h' o0 "java/util/AbstractList" "modCount" "I" (.int (0 : Int32)) ∧ Fld Z h' o0 "java/util/ArrayList" "elementData" "[Ljava/lang/Object;" x1) T1 (mkF m 4 #[.val (.ref o0)] [])
  refine C1.aloadN d10_4 rfl rfl rfl ?_
  refine C1.iconst (0 : Int32) d10_5 rfl rfl ?_
  refine C1.putF (host := "") (Or.inl (hw _ (List.mem_of_getElem? (i := 65) rfl))) Via.refl F_o0_modCount E_o0 (Or.inl (hw _ (List.mem_of_getElem? (i := 66) rfl))) (hw _ (List.mem_of_getElem? (i := 47) rfl)) (ty := .int) (by decide) rfl rfl g_o0 d10_6 rfl (fun T2 h2 C2 W2 => ?_)
  have E_o0 := E_o0.wr W2
  have F_o0_elementData := F_o0_elementData.other W2 (Or.inr (slot_ne (Or.inl (hw _ (List.mem_of_getElem? (i := 69) rfl))) (Or.inl (hw _ (List.mem_of_getElem? (i := 66) rfl))) (by decide) (t := (.array (.object "java/lang/Object"))) (t' := .int) (by decide) (by decide)))
  have KP := KP.wr W2 (Or.inl (by simp))
  have F_o0_modCount := F_o0_modCount.same W2
  exact C2.retV d10_9 rfl (by decide) (by decide) ⟨rfl, KP, E_o0, F_o0_modCount, F_o0_elementData⟩
theorem pn9 : plainName "java/util/ArrayList" = true := by first | (simp [plainName, overriddenIn]; done) | decide +kernel
theorem pd9 : parseMethodDescriptor "()V" = some ⟨[], none⟩ := by decide +kernel
theorem ef9 (m : MethodId) (o0 : Addr) : entryFrame m #[(.ref o0)] 1 = mkF m 0 #[.val (.ref o0)] [] := by first | (simp [entryFrame, mkF, argsToLocals, Value.category]; done) | rfl
theorem d9_0 : decode jdk_38_method_2_code 0 = .ok (.aload_n 0, 1) := by decide +kernel
theorem d9_1 : decode jdk_38_method_2_code 1 = .ok (.invokespecial 1, 3) := by decide +kernel
theorem d9_4 : decode jdk_38_method_2_code 4 = .ok (.aload_n 0, 1) := by decide +kernel
theorem d9_5 : decode jdk_38_method_2_code 5 = .ok (.getstatic 39, 3) := by decide +kernel
theorem d9_8 : decode jdk_38_method_2_code 8 = .ok (.putfield 9, 3) := by decide +kernel
theorem d9_11 : decode jdk_38_method_2_code 11 = .ok (.return_, 1) := by decide +kernel
set_option maxRecDepth 65536 in
set_option maxHeartbeats 40000000 in
theorem rm9 (l : Launch) (Z : State) (a0 : Array Value) (hw : ∀ d ∈ tables_1, d.before a0 Z = true) (o0 : Addr) (de : Addr) (x0 : Value) (x1 : Value) (h0 : Heap) (n0 : Nat) (Z0 : n0 ≤ h0.size) (E_o0 : Exa Z h0 o0 "java/util/ArrayList") (F_o0_modCount : Fld Z h0 o0 "java/util/AbstractList" "modCount" "I" x0) (F_o0_elementData : Fld Z h0 o0 "java/util/ArrayList" "elementData" "[Ljava/lang/Object;" x1) (g_o0 : n0 ≤ o0) (S_DEFAULTCAPACITY_EMPTY_ELEMENTDATA : Sta Z h0 "java/util/ArrayList" "DEFAULTCAPACITY_EMPTY_ELEMENTDATA" "[Ljava/lang/Object;" (.ref de)) :
    Ctr l Z (⟨"java/util/ArrayList", "<init>", "()V"⟩ : MethodName) jdk_38_method_2_code 1 none ({ frames := 3, cells := 0, slots := 0, locals := 36 } : Room) #[(.ref o0)] h0 n0 (fun v h' => v = none ∧ Keep h0 h' [o0] ∧ Exa Z h' o0 "java/util/ArrayList") := by
  refine Ctr.body (L := #[.val (.ref o0)]) (plainFor_of_name pn9) Z0 (fun m => ef9 m o0) ?_
  intro p e F m below meth c T0 C0
  have KP : Keep h0 h0 [o0] := Keep.refl h0 _
  refine C0.aloadN d9_0 rfl rfl rfl ?_
  refine C0.callN rfl (hw _ (List.mem_of_getElem? (i := 52) rfl)) (hw _ (List.mem_of_getElem? (i := 53) rfl)) (hw _ (List.mem_of_getElem? (i := 56) rfl)) (hw _ (List.mem_of_getElem? (i := 57) rfl)) (by decide) (a := o0) (rm10 l Z a0 hw o0 x0 x1 h0 n0 C0.size E_o0 F_o0_modCount F_o0_elementData g_o0) (argsL := []) pd10 rfl 0 (by decide) (by decide) (by decide) (by decide) (rest := []) rfl rfl (Nat.le_of_eq rfl) d9_1 rfl (fun v1 T1 h1 C1 qq1 => ?_)
  obtain ⟨rfl, K1, p1_0, p1_1, p1_2⟩ := qq1
  have S_DEFAULTCAPACITY_EMPTY_ELEMENTDATA := own_stak S_DEFAULTCAPACITY_EMPTY_ELEMENTDATA K1 (allS (own_plainE E_o0) (all0))
  have E_o0 := E_o0.keep K1
  have KP := KP.trans K1 (allS (Or.inl (by simp)) (all0))
  have E_o0 := p1_0
  have F_o0_modCount := p1_1
  have F_o0_elementData := p1_2
  show Go p e below F n0 (fun v h' => v = none ∧ Keep h0 h' [o0] ∧ Exa Z h' o0 "java/util/ArrayList") T1 (mkF m 4 #[.val (.ref o0)] [])
  refine C1.aloadN d9_4 rfl rfl rfl ?_
  refine C1.getS (host := "") (Or.inl (hw _ (List.mem_of_getElem? (i := 67) rfl))) Via.refl S_DEFAULTCAPACITY_EMPTY_ELEMENTDATA d9_5 rfl (fun T2 C2 => ?_)
  refine C2.putF (host := "") (Or.inl (hw _ (List.mem_of_getElem? (i := 68) rfl))) Via.refl F_o0_elementData E_o0 (Or.inl (hw _ (List.mem_of_getElem? (i := 69) rfl))) (hw _ (List.mem_of_getElem? (i := 47) rfl)) (ty := (.array (.object "java/lang/Object"))) (by decide) rfl rfl g_o0 d9_8 rfl (fun T3 h3 C3 W3 => ?_)
  have E_o0 := E_o0.wr W3
  have S_DEFAULTCAPACITY_EMPTY_ELEMENTDATA := S_DEFAULTCAPACITY_EMPTY_ELEMENTDATA.wr W3
  have F_o0_modCount := F_o0_modCount.other W3 (Or.inr (slot_ne (Or.inl (hw _ (List.mem_of_getElem? (i := 66) rfl))) (Or.inl (hw _ (List.mem_of_getElem? (i := 69) rfl))) (by decide) (t := .int) (t' := (.array (.object "java/lang/Object"))) (by decide) (by decide)))
  have KP := KP.wr W3 (Or.inl (by simp))
  have F_o0_elementData := F_o0_elementData.same W3
  exact C3.retV d9_11 rfl (by decide) (by decide) ⟨rfl, KP, E_o0⟩
theorem pn7 : plainName "java/lang/StringUTF16" = true := by first | (simp [plainName, overriddenIn]; done) | decide +kernel
theorem pd7 : parseMethodDescriptor "([BI)B" = some ⟨[(.array .byte), .int], some .byte⟩ := by decide +kernel
theorem ef7 (m : MethodId) (o0 : Addr) (i1 : Int32) : entryFrame m #[(.ref o0), (.int i1)] 2 = mkF m 0 #[.val (.ref o0), .val (.int i1)] [] := by first | (simp [entryFrame, mkF, argsToLocals, Value.category]; done) | rfl
theorem d7_0 : decode jdk_52_method_15_code 0 = .ok (.iload_n 1, 1) := by decide +kernel
theorem d7_1 : decode jdk_52_method_15_code 1 = .ok (.aload_n 0, 1) := by decide +kernel
theorem d7_2 : decode jdk_52_method_15_code 2 = .ok (.arraylength, 1) := by decide +kernel
theorem d7_3 : decode jdk_52_method_15_code 3 = .ok (.isub, 1) := by decide +kernel
theorem d7_4 : decode jdk_52_method_15_code 4 = .ok (.bipush 31, 2) := by decide +kernel
theorem d7_6 : decode jdk_52_method_15_code 6 = .ok (.iushr, 1) := by decide +kernel
theorem d7_7 : decode jdk_52_method_15_code 7 = .ok (.i2b, 1) := by decide +kernel
theorem d7_8 : decode jdk_52_method_15_code 8 = .ok (.ireturn, 1) := by decide +kernel
set_option maxRecDepth 65536 in
set_option maxHeartbeats 40000000 in
theorem rm7 (l : Launch) (Z : State) (a0 : Array Value) (hw : ∀ d ∈ tables_1, d.before a0 Z = true) (o0 : Addr) (i1 : Int32) (k0 : ClassId) (n0_ : Int32) (vs : List Value) (dv : Value) (h0 : Heap) (n0 : Nat) (Z0 : n0 ≤ h0.size) (V_o0 : Arv Z h0 o0 k0 .byte n0_ vs dv) :
    Ctr l Z (⟨"java/lang/StringUTF16", "coderFromArrayLen", "([BI)B"⟩ : MethodName) jdk_52_method_15_code 2 (some .byte) ({ frames := 0, cells := 0, slots := 0, locals := 0 } : Room) #[(.ref o0), (.int i1)] h0 n0 (fun v h' => ∃ rr : Int32, v = some (.int rr) ∧ h' = h0) := by
  refine Ctr.body (L := #[.val (.ref o0), .val (.int i1)]) (plainFor_of_name pn7) Z0 (fun m => ef7 m o0 i1) ?_
  intro p e F m below meth c T0 C0
  refine C0.iloadN d7_0 rfl rfl ?_
  refine C0.aloadN d7_1 rfl rfl rfl ?_
  refine C0.arrlen V_o0 d7_2 rfl ?_
  refine C0.isub d7_3 rfl ?_
  refine C0.bipush (31 : Int32) d7_4 rfl rfl ?_
  refine C0.iushr d7_6 rfl ?_
  refine C0.i2b d7_7 rfl ?_
  exact C0.retN (t := .byte) d7_8 rfl (by simp) (by decide) (by decide) (w := ((((i1 - n0_).toUInt32 >>> ((31 : Int32) &&& 31).toUInt32).toInt32).toInt8.toInt32)) (own_narb _) ⟨((((i1 - n0_).toUInt32 >>> ((31 : Int32) &&& 31).toUInt32).toInt32).toInt8.toInt32), rfl, rfl⟩
theorem pn61 : plainName "java/lang/StringUTF16" = true := by first | (simp [plainName, overriddenIn]; done) | decide +kernel
theorem pd61 : parseMethodDescriptor "([CI[BII)I" = some ⟨[(.array .char), .int, (.array .byte), .int, .int], some .int⟩ := by decide +kernel
theorem ef61 (m : MethodId) (o0 : Addr) (i1 : Int32) (o2 : Addr) (i3 : Int32) (i4 : Int32) : entryFrame m #[(.ref o0), (.int i1), (.ref o2), (.int i3), (.int i4)] 7 = mkF m 0 #[.val (.ref o0), .val (.int i1), .val (.ref o2), .val (.int i3), .val (.int i4), .unset, .unset] [] := by first | (simp [entryFrame, mkF, argsToLocals, Value.category]; done) | rfl
theorem d61_0 : decode jdk_52_method_21_code 0 = .ok (.iconst 0, 1) := by decide +kernel
theorem d61_1 : decode jdk_52_method_21_code 1 = .ok (.istore 5, 2) := by decide +kernel
theorem d61_3 : decode jdk_52_method_21_code 3 = .ok (.iload 5, 2) := by decide +kernel
theorem d61_5 : decode jdk_52_method_21_code 5 = .ok (.iload 4, 2) := by decide +kernel
theorem d61_7 : decode jdk_52_method_21_code 7 = .ok (.if_icmp .ge 37, 3) := by decide +kernel
theorem d61_10 : decode jdk_52_method_21_code 10 = .ok (.aload_n 0, 1) := by decide +kernel
theorem d61_11 : decode jdk_52_method_21_code 11 = .ok (.iload_n 1, 1) := by decide +kernel
theorem d61_12 : decode jdk_52_method_21_code 12 = .ok (.caload, 1) := by decide +kernel
theorem d61_13 : decode jdk_52_method_21_code 13 = .ok (.istore 6, 2) := by decide +kernel
theorem d61_15 : decode jdk_52_method_21_code 15 = .ok (.iload 6, 2) := by decide +kernel
theorem d61_17 : decode jdk_52_method_21_code 17 = .ok (.sipush 255, 3) := by decide +kernel
theorem d61_20 : decode jdk_52_method_21_code 20 = .ok (.if_icmp .le 6, 3) := by decide +kernel
theorem d61_26 : decode jdk_52_method_21_code 26 = .ok (.aload_n 2, 1) := by decide +kernel
theorem d61_27 : decode jdk_52_method_21_code 27 = .ok (.iload_n 3, 1) := by decide +kernel
theorem d61_28 : decode jdk_52_method_21_code 28 = .ok (.iload 6, 2) := by decide +kernel
theorem d61_30 : decode jdk_52_method_21_code 30 = .ok (.i2b, 1) := by decide +kernel
theorem d61_31 : decode jdk_52_method_21_code 31 = .ok (.bastore, 1) := by decide +kernel
theorem d61_32 : decode jdk_52_method_21_code 32 = .ok (.iinc 1 1, 3) := by decide +kernel
theorem d61_35 : decode jdk_52_method_21_code 35 = .ok (.iinc 3 1, 3) := by decide +kernel
theorem d61_38 : decode jdk_52_method_21_code 38 = .ok (.iinc 5 1, 3) := by decide +kernel
theorem d61_41 : decode jdk_52_method_21_code 41 = .ok (.goto (-38), 3) := by decide +kernel
theorem d61_44 : decode jdk_52_method_21_code 44 = .ok (.iload 4, 2) := by decide +kernel
theorem d61_46 : decode jdk_52_method_21_code 46 = .ok (.ireturn, 1) := by decide +kernel
set_option maxRecDepth 65536 in
set_option maxHeartbeats 40000000 in
theorem rm61 (l : Launch) (Z : State) (a0 : Array Value) (hw : ∀ d ∈ tables_1, d.before a0 Z = true) (o0 : Addr) (i1 : Int32) (o2 : Addr) (i3 : Int32) (i4 : Int32) (kc : ClassId) (kb : ClassId) (ch0 : Int32) (h0 : Heap) (n0 : Nat) (Z0 : n0 ≤ h0.size) (V_o0 : Arv Z h0 o0 kc .char (1 : Int32) [(.int ch0)] (.int (0 : Int32))) (V_o2 : Arv Z h0 o2 kb .byte (1 : Int32) [(.int (0 : Int32))] (.int (0 : Int32))) (g_o2 : n0 ≤ o2) (ne_o0_o2 : o0 ≠ o2) (h1 : i1 = (0 : Int32)) (h3 : i3 = (0 : Int32)) (h4 : i4 = (1 : Int32)) (hq0 : ¬ (255 : Int32) < ch0) :
    Ctr l Z (⟨"java/lang/StringUTF16", "compress", "([CI[BII)I"⟩ : MethodName) jdk_52_method_21_code 7 (some .int) ({ frames := 0, cells := 0, slots := 0, locals := 0 } : Room) #[(.ref o0), (.int i1), (.ref o2), (.int i3), (.int i4)] h0 n0 (fun v h' => ∃ ws : List Value, v = some (.int (1 : Int32)) ∧ Keep h0 h' [o2] ∧ Arv Z h' o2 kb .byte (1 : Int32) ws (.int (0 : Int32))) := by
  refine Ctr.body (L := #[.val (.ref o0), .val (.int i1), .val (.ref o2), .val (.int i3), .val (.int i4), .unset, .unset]) (plainFor_of_name pn61) Z0 (fun m => ef61 m o0 i1 o2 i3 i4) ?_
  intro p e F m below meth c T0 C0
  have KP : Keep h0 h0 [o2] := Keep.refl h0 _
  subst h1
  subst h3
  subst h4
  refine C0.iconst (0 : Int32) d61_0 rfl rfl ?_
  refine C0.istore d61_1 rfl (L' := #[.val (.ref o0), .val (.int (0 : Int32)), .val (.ref o2), .val (.int (0 : Int32)), .val (.int (1 : Int32)), .val (.int (0 : Int32)), .unset]) rfl ?_
  refine C0.iload d61_3 rfl rfl ?_
  refine C0.iload d61_5 rfl rfl ?_
  refine C0.icmp_ge d61_7 (by decide) (by decide : _ = 44) rfl (fun q => absurd (by decide) q) (fun _ => ?_)
  refine C0.aloadN d61_10 rfl rfl rfl ?_
  refine C0.iloadN d61_11 rfl rfl ?_
  refine C0.caload (v := ch0) V_o0 ⟨by decide, by decide⟩ rfl d61_12 rfl ?_
  refine C0.istore d61_13 rfl (L' := #[.val (.ref o0), .val (.int (0 : Int32)), .val (.ref o2), .val (.int (0 : Int32)), .val (.int (1 : Int32)), .val (.int (0 : Int32)), .val (.int ch0)]) rfl ?_
  refine C0.iload d61_15 rfl rfl ?_
  refine C0.sipush (255 : Int32) d61_17 rfl rfl ?_
  refine C0.icmp_le d61_20 (by decide) (by decide : _ = 26) rfl (fun _ => ?_) (fun q => absurd q hq0)
  refine C0.aloadN d61_26 rfl rfl rfl ?_
  refine C0.iloadN d61_27 rfl rfl ?_
  refine C0.iload d61_28 rfl rfl ?_
  refine C0.i2b d61_30 rfl ?_
  refine C0.bastore V_o2 ⟨by decide, by decide⟩ (Nat.le_of_ble_eq_true rfl) g_o2 d61_31 rfl (fun T1 h1 C1 W1 Vn1 => ?_)
  have V_o0 := V_o0.other W1 ne_o0_o2
  have KP := KP.wr W1 (Or.inl (by simp))
  have V_o2 : Arv Z h1 o2 kb .byte (1 : Int32) [(.int (nar .byte (ch0.toInt8.toInt32)))] (.int (0 : Int32)) := Vn1
  refine C1.iinc (1 : Int32) d61_32 rfl rfl rfl (L' := #[.val (.ref o0), .val (.int ((0 : Int32) + (1 : Int32))), .val (.ref o2), .val (.int (0 : Int32)), .val (.int (1 : Int32)), .val (.int (0 : Int32)), .val (.int ch0)]) rfl ?_
  rw [show ((0 : Int32) + (1 : Int32)) = (1 : Int32) from by decide]
  refine C1.iinc (1 : Int32) d61_35 rfl rfl rfl (L' := #[.val (.ref o0), .val (.int (1 : Int32)), .val (.ref o2), .val (.int ((0 : Int32) + (1 : Int32))), .val (.int (1 : Int32)), .val (.int (0 : Int32)), .val (.int ch0)]) rfl ?_
  rw [show ((0 : Int32) + (1 : Int32)) = (1 : Int32) from by decide]
  refine C1.iinc (1 : Int32) d61_38 rfl rfl rfl (L' := #[.val (.ref o0), .val (.int (1 : Int32)), .val (.ref o2), .val (.int (1 : Int32)), .val (.int (1 : Int32)), .val (.int ((0 : Int32) + (1 : Int32))), .val (.int ch0)]) rfl ?_
  rw [show ((0 : Int32) + (1 : Int32)) = (1 : Int32) from by decide]
  refine C1.goto d61_41 (by decide) (by decide : _ = 3) ?_
  refine C1.iload d61_3 rfl rfl ?_
  refine C1.iload d61_5 rfl rfl ?_
  refine C1.icmp_ge d61_7 (by decide) (by decide : _ = 44) rfl (fun _ => ?_) (fun q => absurd q (by decide))
  refine C1.iload d61_44 rfl rfl ?_
  exact C1.retI d61_46 rfl (by decide) (by decide) ⟨[(.int (nar .byte (ch0.toInt8.toInt32)))], rfl, KP, V_o2⟩
theorem pn51 : plainName "java/lang/StringUTF16" = true := by first | (simp [plainName, overriddenIn]; done) | decide +kernel
theorem pd51 : parseMethodDescriptor "([CII)[B" = some ⟨[(.array .char), .int, .int], some (.array .byte)⟩ := by decide +kernel
theorem ef51 (m : MethodId) (o0 : Addr) (i1 : Int32) (i2 : Int32) : entryFrame m #[(.ref o0), (.int i1), (.int i2)] 6 = mkF m 0 #[.val (.ref o0), .val (.int i1), .val (.int i2), .unset, .unset, .unset] [] := by first | (simp [entryFrame, mkF, argsToLocals, Value.category]; done) | rfl
theorem d51_0 : decode jdk_52_method_16_code 0 = .ok (.iload_n 2, 1) := by decide +kernel
theorem d51_1 : decode jdk_52_method_16_code 1 = .ok (.newarray .byte, 2) := by decide +kernel
theorem d51_3 : decode jdk_52_method_16_code 3 = .ok (.astore_n 3, 1) := by decide +kernel
theorem d51_4 : decode jdk_52_method_16_code 4 = .ok (.aload_n 0, 1) := by decide +kernel
theorem d51_5 : decode jdk_52_method_16_code 5 = .ok (.iload_n 1, 1) := by decide +kernel
theorem d51_6 : decode jdk_52_method_16_code 6 = .ok (.aload_n 3, 1) := by decide +kernel
theorem d51_7 : decode jdk_52_method_16_code 7 = .ok (.iconst 0, 1) := by decide +kernel
theorem d51_8 : decode jdk_52_method_16_code 8 = .ok (.iload_n 2, 1) := by decide +kernel
theorem d51_9 : decode jdk_52_method_16_code 9 = .ok (.invokestatic 115, 3) := by decide +kernel
theorem d51_12 : decode jdk_52_method_16_code 12 = .ok (.istore 4, 2) := by decide +kernel
theorem d51_14 : decode jdk_52_method_16_code 14 = .ok (.iload 4, 2) := by decide +kernel
theorem d51_16 : decode jdk_52_method_16_code 16 = .ok (.iload_n 2, 1) := by decide +kernel
theorem d51_17 : decode jdk_52_method_16_code 17 = .ok (.if_icmp .eq 40, 3) := by decide +kernel
theorem d51_57 : decode jdk_52_method_16_code 57 = .ok (.aload_n 3, 1) := by decide +kernel
theorem d51_58 : decode jdk_52_method_16_code 58 = .ok (.areturn, 1) := by decide +kernel
set_option maxRecDepth 65536 in
set_option maxHeartbeats 40000000 in
theorem rm51 (l : Launch) (Z : State) (a0 : Array Value) (hw : ∀ d ∈ tables_1, d.before a0 Z = true) (o0 : Addr) (i1 : Int32) (i2 : Int32) (kc : ClassId) (ch0 : Int32) (h0 : Heap) (n0 : Nat) (Z0 : n0 ≤ h0.size) (V_o0 : Arv Z h0 o0 kc .char (1 : Int32) [(.int ch0)] (.int (0 : Int32))) (h1 : i1 = (0 : Int32)) (h2 : i2 = (1 : Int32)) (hq0 : ¬ (255 : Int32) < ch0) :
    Ctr l Z (⟨"java/lang/StringUTF16", "compress", "([CII)[B"⟩ : MethodName) jdk_52_method_16_code 6 (some (.array .byte)) ({ frames := 1, cells := 1, slots := 1, locals := 18 } : Room) #[(.ref o0), (.int i1), (.int i2)] h0 n0 (fun v h' => ∃ bo : Addr, ∃ ko : ClassId, ∃ ws : List Value, v = some (.ref bo) ∧ Keep h0 h' [] ∧ Arv Z h' bo ko .byte (1 : Int32) ws (.int (0 : Int32)) ∧ h0.size ≤ bo) := by
  refine Ctr.body (L := #[.val (.ref o0), .val (.int i1), .val (.int i2), .unset, .unset, .unset]) (plainFor_of_name pn51) Z0 (fun m => ef51 m o0 i1 i2) ?_
  intro p e F m below meth c T0 C0
  have KP : Keep h0 h0 [] := Keep.refl h0 _
  subst h1
  subst h2
  refine C0.iloadN d51_0 rfl rfl ?_
  refine C0.newarr (hw _ (List.mem_of_getElem? (i := 23) rfl)) 1 (by decide) (by decide) (by decide) (by decide) (by decide) d51_1 rfl (fun T1 h1 b1 k1 C1 e1 g_b1 E1 V_b1 => ?_)
  have ne_o0_b1 : o0 ≠ b1 := Nat.ne_of_lt (Nat.lt_of_lt_of_eq V_o0.lt e1.symm)
  have sz_b1 : h0.size ≤ b1 := Nat.le_trans KP.1 (Nat.le_of_eq e1.symm)
  have V_o0 := V_o0.ext E1
  have KP := KP.ext E1
  have V_b1 : Arv Z h1 b1 k1 .byte (1 : Int32) [(.int (0 : Int32))] (.int (0 : Int32)) := V_b1
  refine C1.astoreN d51_3 rfl rfl (L' := #[.val (.ref o0), .val (.int (0 : Int32)), .val (.int (1 : Int32)), .val (.ref b1), .unset, .unset]) rfl ?_
  refine C1.aloadN d51_4 rfl rfl rfl ?_
  refine C1.iloadN d51_5 rfl rfl ?_
  refine C1.aloadN d51_6 rfl rfl rfl ?_
  refine C1.iconst (0 : Int32) d51_7 rfl rfl ?_
  refine C1.iloadN d51_8 rfl rfl ?_
  refine C1.callS (hw _ (List.mem_of_getElem? (i := 24) rfl)) (hw _ (List.mem_of_getElem? (i := 25) rfl)) (hw _ (List.mem_of_getElem? (i := 21) rfl)) (hw _ (List.mem_of_getElem? (i := 26) rfl)) (by decide) (rm61 l Z a0 hw o0 (0 : Int32) b1 (0 : Int32) (1 : Int32) kc k1 ch0 h1 n0 C1.size V_o0 V_b1 g_b1 ne_o0_b1 rfl rfl rfl hq0) (argsL := [(.ref o0), (.int (0 : Int32)), (.ref b1), (.int (0 : Int32)), (.int (1 : Int32))]) pd61 rfl 0 (by decide) (by decide) (by decide) (by decide) (rest := []) rfl rfl (Nat.le_of_eq rfl) d51_9 rfl (fun v2 T2 h2 C2 qq2 => ?_)
  obtain ⟨ws2, rfl, K2, p2_0⟩ := qq2
  have V_o0 := V_o0.keep K2 (ninS ne_o0_b1 nin0)
  have KP := KP.trans K2 (allS (Or.inr sz_b1) (all0))
  have V_b1 := p2_0
  show Go p e below F n0 (fun v h' => ∃ bo : Addr, ∃ ko : ClassId, ∃ ws : List Value, v = some (.ref bo) ∧ Keep h0 h' [] ∧ Arv Z h' bo ko .byte (1 : Int32) ws (.int (0 : Int32)) ∧ h0.size ≤ bo) T2 (mkF m 12 #[.val (.ref o0), .val (.int (0 : Int32)), .val (.int (1 : Int32)), .val (.ref b1), .unset, .unset] [(.int (1 : Int32))])
  refine C2.istore d51_12 rfl (L' := #[.val (.ref o0), .val (.int (0 : Int32)), .val (.int (1 : Int32)), .val (.ref b1), .val (.int (1 : Int32)), .unset]) rfl ?_
  refine C2.iload d51_14 rfl rfl ?_
  refine C2.iloadN d51_16 rfl rfl ?_
  refine C2.icmp_eq d51_17 (by decide) (by decide : _ = 57) rfl (fun _ => ?_) (fun q => absurd (by decide) q)
  refine C2.aloadN d51_57 rfl rfl rfl ?_
  exact C2.retA d51_58 rfl rfl rfl (by decide) (by decide) ⟨b1, k1, ws2, rfl, KP, V_b1, sz_b1⟩
theorem pn31 : plainName "java/lang/String" = true := by first | (simp [plainName, overriddenIn]; done) | decide +kernel
theorem pd31 : parseMethodDescriptor "([CIILjava/lang/Void;)V" = some ⟨[(.array .char), .int, .int, (.object "java/lang/Void")], none⟩ := by decide +kernel
theorem ef31 (m : MethodId) (o0 : Addr) (o1 : Addr) (i2 : Int32) (i3 : Int32) (z4 : Value) (r_z4 : z4.isRef = true) : entryFrame m #[(.ref o0), (.ref o1), (.int i2), (.int i3), z4] 6 = mkF m 0 #[.val (.ref o0), .val (.ref o1), .val (.int i2), .val (.int i3), .val z4, .unset] [] := by rcases ref_cases r_z4 with rfl | ⟨_, rfl⟩ <;> first | (simp [entryFrame, mkF, argsToLocals, Value.category]; done) | rfl
theorem d31_0 : decode jdk_42_method_149_code 0 = .ok (.aload_n 0, 1) := by decide +kernel
theorem d31_1 : decode jdk_42_method_149_code 1 = .ok (.invokespecial 1, 3) := by decide +kernel
theorem d31_4 : decode jdk_42_method_149_code 4 = .ok (.iload_n 3, 1) := by decide +kernel
theorem d31_5 : decode jdk_42_method_149_code 5 = .ok (.ifCond .ne 22, 3) := by decide +kernel
theorem d31_27 : decode jdk_42_method_149_code 27 = .ok (.getstatic 38, 3) := by decide +kernel
theorem d31_30 : decode jdk_42_method_149_code 30 = .ok (.ifCond .eq 28, 3) := by decide +kernel
theorem d31_33 : decode jdk_42_method_149_code 33 = .ok (.aload_n 1, 1) := by decide +kernel
theorem d31_34 : decode jdk_42_method_149_code 34 = .ok (.iload_n 2, 1) := by decide +kernel
theorem d31_35 : decode jdk_42_method_149_code 35 = .ok (.iload_n 3, 1) := by decide +kernel
theorem d31_36 : decode jdk_42_method_149_code 36 = .ok (.invokestatic 177, 3) := by decide +kernel
theorem d31_39 : decode jdk_42_method_149_code 39 = .ok (.astore 5, 2) := by decide +kernel
theorem d31_41 : decode jdk_42_method_149_code 41 = .ok (.aload_n 0, 1) := by decide +kernel
theorem d31_42 : decode jdk_42_method_149_code 42 = .ok (.aload 5, 2) := by decide +kernel
theorem d31_44 : decode jdk_42_method_149_code 44 = .ok (.iload_n 3, 1) := by decide +kernel
theorem d31_45 : decode jdk_42_method_149_code 45 = .ok (.invokestatic 47, 3) := by decide +kernel
theorem d31_48 : decode jdk_42_method_149_code 48 = .ok (.putfield 15, 3) := by decide +kernel
theorem d31_51 : decode jdk_42_method_149_code 51 = .ok (.aload_n 0, 1) := by decide +kernel
theorem d31_52 : decode jdk_42_method_149_code 52 = .ok (.aload 5, 2) := by decide +kernel
theorem d31_54 : decode jdk_42_method_149_code 54 = .ok (.putfield 9, 3) := by decide +kernel
theorem d31_57 : decode jdk_42_method_149_code 57 = .ok (.return_, 1) := by decide +kernel
set_option maxRecDepth 65536 in
set_option maxHeartbeats 40000000 in
theorem rm31 (l : Launch) (Z : State) (a0 : Array Value) (hw : ∀ d ∈ tables_1, d.before a0 Z = true) (o0 : Addr) (o1 : Addr) (i2 : Int32) (i3 : Int32) (z4 : Value) (cs : Int32) (x0 : Value) (x1 : Value) (kc : ClassId) (ch0 : Int32) (h0 : Heap) (n0 : Nat) (Z0 : n0 ≤ h0.size) (r_z4 : z4.isRef = true) (E_o0 : Exa Z h0 o0 "java/lang/String") (F_o0_value : Fld Z h0 o0 "java/lang/String" "value" "[B" x0) (F_o0_coder : Fld Z h0 o0 "java/lang/String" "coder" "B" x1) (g_o0 : n0 ≤ o0) (V_o1 : Arv Z h0 o1 kc .char (1 : Int32) [(.int ch0)] (.int (0 : Int32))) (h2 : i2 = (0 : Int32)) (h3 : i3 = (1 : Int32)) (hq0 : ¬ (255 : Int32) < ch0) (S_COMPACT_STRINGS : Sta Z h0 "java/lang/String" "COMPACT_STRINGS" "Z" (.int cs)) (hcs : ¬ cs = (0 : Int32)) :
    Ctr l Z (⟨"java/lang/String", "<init>", "([CIILjava/lang/Void;)V"⟩ : MethodName) jdk_42_method_149_code 6 none ({ frames := 2, cells := 1, slots := 1, locals := 35 } : Room) #[(.ref o0), (.ref o1), (.int i2), (.int i3), z4] h0 n0 (fun v h' => v = none ∧ Keep h0 h' [o0] ∧ Exa Z h' o0 "java/lang/String") := by
  refine Ctr.body (L := #[.val (.ref o0), .val (.ref o1), .val (.int i2), .val (.int i3), .val z4, .unset]) (plainFor_of_name pn31) Z0 (fun m => ef31 m o0 o1 i2 i3 z4 r_z4) ?_
  intro p e F m below meth c T0 C0
  have KP : Keep h0 h0 [o0] := Keep.refl h0 _
  subst h2
  subst h3
  refine C0.aloadN d31_0 rfl rfl rfl ?_
  refine C0.initObj (hw _ (List.mem_of_getElem? (i := 15) rfl)) (hw _ (List.mem_of_getElem? (i := 16) rfl)) (hw _ (List.mem_of_getElem? (i := 17) rfl)) rfl (by decide) 0 (Nat.le_of_eq rfl) (by decide) d31_1 rfl (fun T1 C1 => ?_)
  refine C1.iloadN d31_4 rfl rfl ?_
  refine C1.if_ne d31_5 (by decide) (by decide : _ = 27) rfl (fun _ => ?_) (fun q => absurd q (by decide))
  refine C1.getS (host := "") (Or.inl (hw _ (List.mem_of_getElem? (i := 18) rfl))) Via.refl S_COMPACT_STRINGS d31_27 rfl (fun T2 C2 => ?_)
  refine C2.if_eq d31_30 (by decide) (by decide : _ = 58) rfl (fun q => absurd q hcs) (fun _ => ?_)
  refine C2.aloadN d31_33 rfl rfl rfl ?_
  refine C2.iloadN d31_34 rfl rfl ?_
  refine C2.iloadN d31_35 rfl rfl ?_
  refine C2.callS (hw _ (List.mem_of_getElem? (i := 19) rfl)) (hw _ (List.mem_of_getElem? (i := 20) rfl)) (hw _ (List.mem_of_getElem? (i := 21) rfl)) (hw _ (List.mem_of_getElem? (i := 22) rfl)) (by decide) (rm51 l Z a0 hw o1 (0 : Int32) (1 : Int32) kc ch0 h0 n0 C2.size V_o1 rfl rfl hq0) (argsL := [(.ref o1), (.int (0 : Int32)), (.int (1 : Int32))]) pd51 rfl 0 (by decide) (by decide) (by decide) (by decide) (rest := []) rfl rfl (Nat.le_of_eq rfl) d31_36 rfl (fun v3 T3 h3 C3 qq3 => ?_)
  obtain ⟨bo3, ko3, ws3, rfl, K3, p3_0, p3_1⟩ := qq3
  have ne_o0_bo3 : o0 ≠ bo3 := Nat.ne_of_lt (Nat.lt_of_lt_of_le E_o0.lt p3_1)
  have ne_o1_bo3 : o1 ≠ bo3 := Nat.ne_of_lt (Nat.lt_of_lt_of_le V_o1.lt p3_1)
  have sz_bo3 : h0.size ≤ bo3 := Nat.le_trans KP.1 p3_1
  have g_bo3 : n0 ≤ bo3 := Nat.le_trans C2.size p3_1
  have K3 := ext_keep K3
  have E_o0 := E_o0.ext K3
  have F_o0_value := F_o0_value.ext K3
  have F_o0_coder := F_o0_coder.ext K3
  have V_o1 := V_o1.ext K3
  have S_COMPACT_STRINGS := S_COMPACT_STRINGS.ext K3
  have KP := KP.ext K3
  have V_bo3 := p3_0
  show Go p e below F n0 (fun v h' => v = none ∧ Keep h0 h' [o0] ∧ Exa Z h' o0 "java/lang/String") T3 (mkF m 39 #[.val (.ref o0), .val (.ref o1), .val (.int (0 : Int32)), .val (.int (1 : Int32)), .val z4, .unset] [(.ref bo3)])
  refine C3.astore d31_39 rfl rfl (L' := #[.val (.ref o0), .val (.ref o1), .val (.int (0 : Int32)), .val (.int (1 : Int32)), .val z4, .val (.ref bo3)]) rfl ?_
  refine C3.aloadN d31_41 rfl rfl rfl ?_
  refine C3.aload d31_42 rfl rfl rfl ?_
  refine C3.iloadN d31_44 rfl rfl ?_
  refine C3.callS (hw _ (List.mem_of_getElem? (i := 27) rfl)) (hw _ (List.mem_of_getElem? (i := 28) rfl)) (hw _ (List.mem_of_getElem? (i := 21) rfl)) (hw _ (List.mem_of_getElem? (i := 29) rfl)) (by decide) (rm7 l Z a0 hw bo3 (1 : Int32) ko3 (1 : Int32) ws3 (.int (0 : Int32)) h3 n0 C3.size V_bo3) (argsL := [(.ref bo3), (.int (1 : Int32))]) pd7 rfl 1 (by decide) (by decide) (by decide) (by decide) (rest := [(.ref o0)]) rfl rfl (Nat.le_of_eq rfl) d31_45 rfl (fun v4 T4 h4 C4 qq4 => ?_)
  obtain ⟨rr4, rfl, hh4⟩ := qq4
  have hh4 := hh4.symm; subst hh4
  show Go p e below F n0 (fun v h' => v = none ∧ Keep h0 h' [o0] ∧ Exa Z h' o0 "java/lang/String") T4 (mkF m 48 #[.val (.ref o0), .val (.ref o1), .val (.int (0 : Int32)), .val (.int (1 : Int32)), .val z4, .val (.ref bo3)] [(.int rr4), (.ref o0)])
  refine C4.putFN (v' := (.int (nar .byte rr4))) (hw _ (List.mem_of_getElem? (i := 30) rfl)) Via.refl F_o0_coder E_o0 (Or.inr ⟨(hw _ (List.mem_of_getElem? (i := 31) rfl)), rfl, rfl⟩) (hw _ (List.mem_of_getElem? (i := 5) rfl)) (ty := .byte) (by decide) rfl (fits_nar_byte _) g_o0 d31_48 rfl (fun T5 h5 C5 W5 => ?_)
  have ne_o1_o0 : o1 ≠ o0 := (Ne.symm (own_nea E_o0 (hw _ (List.mem_of_getElem? (i := 5) rfl)) V_o1))
  have E_o0 := E_o0.wr W5
  have F_o0_value := F_o0_value.other W5 (Or.inr (slot_ne (Or.inr (hw _ (List.mem_of_getElem? (i := 33) rfl))) (Or.inr (hw _ (List.mem_of_getElem? (i := 31) rfl))) (by decide) (t := (.array .byte)) (t' := .byte) (by decide) (by decide)))
  have V_o1 := V_o1.other W5 ne_o1_o0
  have S_COMPACT_STRINGS := S_COMPACT_STRINGS.wr W5
  have V_bo3 := V_bo3.other W5 (Ne.symm ne_o0_bo3)
  have KP := KP.wr W5 (Or.inl (by simp))
  have F_o0_coder := F_o0_coder.same W5
  refine C5.aloadN d31_51 rfl rfl rfl ?_
  refine C5.aload d31_52 rfl rfl rfl ?_
  refine C5.putF (host := "") (Or.inl (hw _ (List.mem_of_getElem? (i := 32) rfl))) Via.refl F_o0_value E_o0 (Or.inr ⟨(hw _ (List.mem_of_getElem? (i := 33) rfl)), rfl, rfl⟩) (hw _ (List.mem_of_getElem? (i := 5) rfl)) (ty := (.array .byte)) (by decide) rfl rfl g_o0 d31_54 rfl (fun T6 h6 C6 W6 => ?_)
  have E_o0 := E_o0.wr W6
  have F_o0_coder := F_o0_coder.other W6 (Or.inr (slot_ne (Or.inr (hw _ (List.mem_of_getElem? (i := 31) rfl))) (Or.inr (hw _ (List.mem_of_getElem? (i := 33) rfl))) (by decide) (t := .byte) (t' := (.array .byte)) (by decide) (by decide)))
  have V_o1 := V_o1.other W6 ne_o1_o0
  have S_COMPACT_STRINGS := S_COMPACT_STRINGS.wr W6
  have V_bo3 := V_bo3.other W6 (Ne.symm ne_o0_bo3)
  have KP := KP.wr W6 (Or.inl (by simp))
  have F_o0_value := F_o0_value.same W6
  exact C6.retV d31_57 rfl (by decide) (by decide) ⟨rfl, KP, E_o0⟩
theorem pn21 : plainName "java/lang/String" = true := by first | (simp [plainName, overriddenIn]; done) | decide +kernel
theorem pd21 : parseMethodDescriptor "([C)V" = some ⟨[(.array .char)], none⟩ := by decide +kernel
theorem ef21 (m : MethodId) (o0 : Addr) (o1 : Addr) : entryFrame m #[(.ref o0), (.ref o1)] 2 = mkF m 0 #[.val (.ref o0), .val (.ref o1)] [] := by first | (simp [entryFrame, mkF, argsToLocals, Value.category]; done) | rfl
theorem d21_0 : decode jdk_42_method_3_code 0 = .ok (.aload_n 0, 1) := by decide +kernel
theorem d21_1 : decode jdk_42_method_3_code 1 = .ok (.aload_n 1, 1) := by decide +kernel
theorem d21_2 : decode jdk_42_method_3_code 2 = .ok (.iconst 0, 1) := by decide +kernel
theorem d21_3 : decode jdk_42_method_3_code 3 = .ok (.aload_n 1, 1) := by decide +kernel
theorem d21_4 : decode jdk_42_method_3_code 4 = .ok (.arraylength, 1) := by decide +kernel
theorem d21_5 : decode jdk_42_method_3_code 5 = .ok (.aconst_null, 1) := by decide +kernel
theorem d21_6 : decode jdk_42_method_3_code 6 = .ok (.invokespecial 27, 3) := by decide +kernel
theorem d21_9 : decode jdk_42_method_3_code 9 = .ok (.return_, 1) := by decide +kernel
set_option maxRecDepth 65536 in
set_option maxHeartbeats 40000000 in
theorem rm21 (l : Launch) (Z : State) (a0 : Array Value) (hw : ∀ d ∈ tables_1, d.before a0 Z = true) (o0 : Addr) (o1 : Addr) (cs : Int32) (x0 : Value) (x1 : Value) (kc : ClassId) (ch0 : Int32) (h0 : Heap) (n0 : Nat) (Z0 : n0 ≤ h0.size) (E_o0 : Exa Z h0 o0 "java/lang/String") (F_o0_value : Fld Z h0 o0 "java/lang/String" "value" "[B" x0) (F_o0_coder : Fld Z h0 o0 "java/lang/String" "coder" "B" x1) (g_o0 : n0 ≤ o0) (V_o1 : Arv Z h0 o1 kc .char (1 : Int32) [(.int ch0)] (.int (0 : Int32))) (hq0 : ¬ (255 : Int32) < ch0) (S_COMPACT_STRINGS : Sta Z h0 "java/lang/String" "COMPACT_STRINGS" "Z" (.int cs)) (hcs : ¬ cs = (0 : Int32)) :
    Ctr l Z (⟨"java/lang/String", "<init>", "([C)V"⟩ : MethodName) jdk_42_method_3_code 2 none ({ frames := 3, cells := 1, slots := 1, locals := 52 } : Room) #[(.ref o0), (.ref o1)] h0 n0 (fun v h' => v = none ∧ Keep h0 h' [o0] ∧ Exa Z h' o0 "java/lang/String") := by
  refine Ctr.body (L := #[.val (.ref o0), .val (.ref o1)]) (plainFor_of_name pn21) Z0 (fun m => ef21 m o0 o1) ?_
  intro p e F m below meth c T0 C0
  have KP : Keep h0 h0 [o0] := Keep.refl h0 _
  refine C0.aloadN d21_0 rfl rfl rfl ?_
  refine C0.aloadN d21_1 rfl rfl rfl ?_
  refine C0.iconst (0 : Int32) d21_2 rfl rfl ?_
  refine C0.aloadN d21_3 rfl rfl rfl ?_
  refine C0.arrlen V_o1 d21_4 rfl ?_
  refine C0.aconstNull d21_5 rfl ?_
  refine C0.callN rfl (hw _ (List.mem_of_getElem? (i := 11) rfl)) (hw _ (List.mem_of_getElem? (i := 12) rfl)) (hw _ (List.mem_of_getElem? (i := 6) rfl)) (hw _ (List.mem_of_getElem? (i := 14) rfl)) (by decide) (a := o0) (rm31 l Z a0 hw o0 o1 (0 : Int32) (1 : Int32) .null cs x0 x1 kc ch0 h0 n0 C0.size rfl E_o0 F_o0_value F_o0_coder g_o0 V_o1 rfl rfl hq0 S_COMPACT_STRINGS hcs) (argsL := [(.ref o1), (.int (0 : Int32)), (.int (1 : Int32)), .null]) pd31 rfl 0 (by decide) (by decide) (by decide) (by decide) (rest := []) rfl rfl (Nat.le_of_eq rfl) d21_6 rfl (fun v1 T1 h1 C1 qq1 => ?_)
  obtain ⟨rfl, K1, p1_0⟩ := qq1
  have ne_o1_o0 : o1 ≠ o0 := (Ne.symm (own_nea E_o0 (hw _ (List.mem_of_getElem? (i := 5) rfl)) V_o1))
  have S_COMPACT_STRINGS := own_stak S_COMPACT_STRINGS K1 (allS (own_plainE E_o0) (all0))
  have E_o0 := E_o0.keep K1
  have V_o1 := V_o1.keep K1 (ninS ne_o1_o0 nin0)
  have KP := KP.trans K1 (allS (Or.inl (by simp)) (all0))
  have E_o0 := p1_0
  show Go p e below F n0 (fun v h' => v = none ∧ Keep h0 h' [o0] ∧ Exa Z h' o0 "java/lang/String") T1 (mkF m 9 #[.val (.ref o0), .val (.ref o1)] [])
  exact C1.retV d21_9 rfl (by decide) (by decide) ⟨rfl, KP, E_o0⟩
theorem pn62 : plainName "java/lang/StringUTF16" = true := by first | (simp [plainName, overriddenIn]; done) | decide +kernel
theorem pd62 : parseMethodDescriptor "([CI[BII)I" = some ⟨[(.array .char), .int, (.array .byte), .int, .int], some .int⟩ := by decide +kernel
theorem ef62 (m : MethodId) (o0 : Addr) (i1 : Int32) (o2 : Addr) (i3 : Int32) (i4 : Int32) : entryFrame m #[(.ref o0), (.int i1), (.ref o2), (.int i3), (.int i4)] 7 = mkF m 0 #[.val (.ref o0), .val (.int i1), .val (.ref o2), .val (.int i3), .val (.int i4), .unset, .unset] [] := by first | (simp [entryFrame, mkF, argsToLocals, Value.category]; done) | rfl
theorem d62_0 : decode jdk_52_method_21_code 0 = .ok (.iconst 0, 1) := by decide +kernel
theorem d62_1 : decode jdk_52_method_21_code 1 = .ok (.istore 5, 2) := by decide +kernel
theorem d62_3 : decode jdk_52_method_21_code 3 = .ok (.iload 5, 2) := by decide +kernel
theorem d62_5 : decode jdk_52_method_21_code 5 = .ok (.iload 4, 2) := by decide +kernel
theorem d62_7 : decode jdk_52_method_21_code 7 = .ok (.if_icmp .ge 37, 3) := by decide +kernel
theorem d62_10 : decode jdk_52_method_21_code 10 = .ok (.aload_n 0, 1) := by decide +kernel
theorem d62_11 : decode jdk_52_method_21_code 11 = .ok (.iload_n 1, 1) := by decide +kernel
theorem d62_12 : decode jdk_52_method_21_code 12 = .ok (.caload, 1) := by decide +kernel
theorem d62_13 : decode jdk_52_method_21_code 13 = .ok (.istore 6, 2) := by decide +kernel
theorem d62_15 : decode jdk_52_method_21_code 15 = .ok (.iload 6, 2) := by decide +kernel
theorem d62_17 : decode jdk_52_method_21_code 17 = .ok (.sipush 255, 3) := by decide +kernel
theorem d62_20 : decode jdk_52_method_21_code 20 = .ok (.if_icmp .le 6, 3) := by decide +kernel
theorem d62_26 : decode jdk_52_method_21_code 26 = .ok (.aload_n 2, 1) := by decide +kernel
theorem d62_27 : decode jdk_52_method_21_code 27 = .ok (.iload_n 3, 1) := by decide +kernel
theorem d62_28 : decode jdk_52_method_21_code 28 = .ok (.iload 6, 2) := by decide +kernel
theorem d62_30 : decode jdk_52_method_21_code 30 = .ok (.i2b, 1) := by decide +kernel
theorem d62_31 : decode jdk_52_method_21_code 31 = .ok (.bastore, 1) := by decide +kernel
theorem d62_32 : decode jdk_52_method_21_code 32 = .ok (.iinc 1 1, 3) := by decide +kernel
theorem d62_35 : decode jdk_52_method_21_code 35 = .ok (.iinc 3 1, 3) := by decide +kernel
theorem d62_38 : decode jdk_52_method_21_code 38 = .ok (.iinc 5 1, 3) := by decide +kernel
theorem d62_41 : decode jdk_52_method_21_code 41 = .ok (.goto (-38), 3) := by decide +kernel
theorem d62_44 : decode jdk_52_method_21_code 44 = .ok (.iload 4, 2) := by decide +kernel
theorem d62_46 : decode jdk_52_method_21_code 46 = .ok (.ireturn, 1) := by decide +kernel
set_option maxRecDepth 65536 in
set_option maxHeartbeats 40000000 in
theorem rm62 (l : Launch) (Z : State) (a0 : Array Value) (hw : ∀ d ∈ tables_1, d.before a0 Z = true) (o0 : Addr) (i1 : Int32) (o2 : Addr) (i3 : Int32) (i4 : Int32) (kc : ClassId) (kb : ClassId) (ch0 : Int32) (ch1 : Int32) (h0 : Heap) (n0 : Nat) (Z0 : n0 ≤ h0.size) (V_o0 : Arv Z h0 o0 kc .char (2 : Int32) [(.int ch0), (.int ch1)] (.int (0 : Int32))) (V_o2 : Arv Z h0 o2 kb .byte (2 : Int32) [(.int (0 : Int32)), (.int (0 : Int32))] (.int (0 : Int32))) (g_o2 : n0 ≤ o2) (ne_o0_o2 : o0 ≠ o2) (h1 : i1 = (0 : Int32)) (h3 : i3 = (0 : Int32)) (h4 : i4 = (2 : Int32)) (hq0 : ¬ (255 : Int32) < ch0) (hq1 : ¬ (255 : Int32) < ch1) :
    Ctr l Z (⟨"java/lang/StringUTF16", "compress", "([CI[BII)I"⟩ : MethodName) jdk_52_method_21_code 7 (some .int) ({ frames := 0, cells := 0, slots := 0, locals := 0 } : Room) #[(.ref o0), (.int i1), (.ref o2), (.int i3), (.int i4)] h0 n0 (fun v h' => ∃ ws : List Value, v = some (.int (2 : Int32)) ∧ Keep h0 h' [o2] ∧ Arv Z h' o2 kb .byte (2 : Int32) ws (.int (0 : Int32))) := by
  refine Ctr.body (L := #[.val (.ref o0), .val (.int i1), .val (.ref o2), .val (.int i3), .val (.int i4), .unset, .unset]) (plainFor_of_name pn62) Z0 (fun m => ef62 m o0 i1 o2 i3 i4) ?_
  intro p e F m below meth c T0 C0
  have KP : Keep h0 h0 [o2] := Keep.refl h0 _
  subst h1
  subst h3
  subst h4
  refine C0.iconst (0 : Int32) d62_0 rfl rfl ?_
  refine C0.istore d62_1 rfl (L' := #[.val (.ref o0), .val (.int (0 : Int32)), .val (.ref o2), .val (.int (0 : Int32)), .val (.int (2 : Int32)), .val (.int (0 : Int32)), .unset]) rfl ?_
  refine C0.iload d62_3 rfl rfl ?_
  refine C0.iload d62_5 rfl rfl ?_
  refine C0.icmp_ge d62_7 (by decide) (by decide : _ = 44) rfl (fun q => absurd (by decide) q) (fun _ => ?_)
  refine C0.aloadN d62_10 rfl rfl rfl ?_
  refine C0.iloadN d62_11 rfl rfl ?_
  refine C0.caload (v := ch0) V_o0 ⟨by decide, by decide⟩ rfl d62_12 rfl ?_
  refine C0.istore d62_13 rfl (L' := #[.val (.ref o0), .val (.int (0 : Int32)), .val (.ref o2), .val (.int (0 : Int32)), .val (.int (2 : Int32)), .val (.int (0 : Int32)), .val (.int ch0)]) rfl ?_
  refine C0.iload d62_15 rfl rfl ?_
  refine C0.sipush (255 : Int32) d62_17 rfl rfl ?_
  refine C0.icmp_le d62_20 (by decide) (by decide : _ = 26) rfl (fun _ => ?_) (fun q => absurd q hq0)
  refine C0.aloadN d62_26 rfl rfl rfl ?_
  refine C0.iloadN d62_27 rfl rfl ?_
  refine C0.iload d62_28 rfl rfl ?_
  refine C0.i2b d62_30 rfl ?_
  refine C0.bastore V_o2 ⟨by decide, by decide⟩ (Nat.le_of_ble_eq_true rfl) g_o2 d62_31 rfl (fun T1 h1 C1 W1 Vn1 => ?_)
  have V_o0 := V_o0.other W1 ne_o0_o2
  have KP := KP.wr W1 (Or.inl (by simp))
  have V_o2 : Arv Z h1 o2 kb .byte (2 : Int32) [(.int (nar .byte (ch0.toInt8.toInt32))), (.int (0 : Int32))] (.int (0 : Int32)) := Vn1
  refine C1.iinc (1 : Int32) d62_32 rfl rfl rfl (L' := #[.val (.ref o0), .val (.int ((0 : Int32) + (1 : Int32))), .val (.ref o2), .val (.int (0 : Int32)), .val (.int (2 : Int32)), .val (.int (0 : Int32)), .val (.int ch0)]) rfl ?_
  rw [show ((0 : Int32) + (1 : Int32)) = (1 : Int32) from by decide]
  refine C1.iinc (1 : Int32) d62_35 rfl rfl rfl (L' := #[.val (.ref o0), .val (.int (1 : Int32)), .val (.ref o2), .val (.int ((0 : Int32) + (1 : Int32))), .val (.int (2 : Int32)), .val (.int (0 : Int32)), .val (.int ch0)]) rfl ?_
  rw [show ((0 : Int32) + (1 : Int32)) = (1 : Int32) from by decide]
  refine C1.iinc (1 : Int32) d62_38 rfl rfl rfl (L' := #[.val (.ref o0), .val (.int (1 : Int32)), .val (.ref o2), .val (.int (1 : Int32)), .val (.int (2 : Int32)), .val (.int ((0 : Int32) + (1 : Int32))), .val (.int ch0)]) rfl ?_
  rw [show ((0 : Int32) + (1 : Int32)) = (1 : Int32) from by decide]
  refine C1.goto d62_41 (by decide) (by decide : _ = 3) ?_
  refine C1.iload d62_3 rfl rfl ?_
  refine C1.iload d62_5 rfl rfl ?_
  refine C1.icmp_ge d62_7 (by decide) (by decide : _ = 44) rfl (fun q => absurd (by decide) q) (fun _ => ?_)
  refine C1.aloadN d62_10 rfl rfl rfl ?_
  refine C1.iloadN d62_11 rfl rfl ?_
  refine C1.caload (v := ch1) V_o0 ⟨by decide, by decide⟩ rfl d62_12 rfl ?_
  refine C1.istore d62_13 rfl (L' := #[.val (.ref o0), .val (.int (1 : Int32)), .val (.ref o2), .val (.int (1 : Int32)), .val (.int (2 : Int32)), .val (.int (1 : Int32)), .val (.int ch1)]) rfl ?_
  refine C1.iload d62_15 rfl rfl ?_
  refine C1.sipush (255 : Int32) d62_17 rfl rfl ?_
  refine C1.icmp_le d62_20 (by decide) (by decide : _ = 26) rfl (fun _ => ?_) (fun q => absurd q hq1)
  refine C1.aloadN d62_26 rfl rfl rfl ?_
  refine C1.iloadN d62_27 rfl rfl ?_
  refine C1.iload d62_28 rfl rfl ?_
  refine C1.i2b d62_30 rfl ?_
  refine C1.bastore V_o2 ⟨by decide, by decide⟩ (Nat.le_of_ble_eq_true rfl) g_o2 d62_31 rfl (fun T2 h2 C2 W2 Vn2 => ?_)
  have V_o0 := V_o0.other W2 ne_o0_o2
  have KP := KP.wr W2 (Or.inl (by simp))
  have V_o2 : Arv Z h2 o2 kb .byte (2 : Int32) [(.int (nar .byte (ch0.toInt8.toInt32))), (.int (nar .byte (ch1.toInt8.toInt32)))] (.int (0 : Int32)) := Vn2
  refine C2.iinc (1 : Int32) d62_32 rfl rfl rfl (L' := #[.val (.ref o0), .val (.int ((1 : Int32) + (1 : Int32))), .val (.ref o2), .val (.int (1 : Int32)), .val (.int (2 : Int32)), .val (.int (1 : Int32)), .val (.int ch1)]) rfl ?_
  rw [show ((1 : Int32) + (1 : Int32)) = (2 : Int32) from by decide]
  refine C2.iinc (1 : Int32) d62_35 rfl rfl rfl (L' := #[.val (.ref o0), .val (.int (2 : Int32)), .val (.ref o2), .val (.int ((1 : Int32) + (1 : Int32))), .val (.int (2 : Int32)), .val (.int (1 : Int32)), .val (.int ch1)]) rfl ?_
  rw [show ((1 : Int32) + (1 : Int32)) = (2 : Int32) from by decide]
  refine C2.iinc (1 : Int32) d62_38 rfl rfl rfl (L' := #[.val (.ref o0), .val (.int (2 : Int32)), .val (.ref o2), .val (.int (2 : Int32)), .val (.int (2 : Int32)), .val (.int ((1 : Int32) + (1 : Int32))), .val (.int ch1)]) rfl ?_
  rw [show ((1 : Int32) + (1 : Int32)) = (2 : Int32) from by decide]
  refine C2.goto d62_41 (by decide) (by decide : _ = 3) ?_
  refine C2.iload d62_3 rfl rfl ?_
  refine C2.iload d62_5 rfl rfl ?_
  refine C2.icmp_ge d62_7 (by decide) (by decide : _ = 44) rfl (fun _ => ?_) (fun q => absurd q (by decide))
  refine C2.iload d62_44 rfl rfl ?_
  exact C2.retI d62_46 rfl (by decide) (by decide) ⟨[(.int (nar .byte (ch0.toInt8.toInt32))), (.int (nar .byte (ch1.toInt8.toInt32)))], rfl, KP, V_o2⟩
theorem pn52 : plainName "java/lang/StringUTF16" = true := by first | (simp [plainName, overriddenIn]; done) | decide +kernel
theorem pd52 : parseMethodDescriptor "([CII)[B" = some ⟨[(.array .char), .int, .int], some (.array .byte)⟩ := by decide +kernel
theorem ef52 (m : MethodId) (o0 : Addr) (i1 : Int32) (i2 : Int32) : entryFrame m #[(.ref o0), (.int i1), (.int i2)] 6 = mkF m 0 #[.val (.ref o0), .val (.int i1), .val (.int i2), .unset, .unset, .unset] [] := by first | (simp [entryFrame, mkF, argsToLocals, Value.category]; done) | rfl
theorem d52_0 : decode jdk_52_method_16_code 0 = .ok (.iload_n 2, 1) := by decide +kernel
theorem d52_1 : decode jdk_52_method_16_code 1 = .ok (.newarray .byte, 2) := by decide +kernel
theorem d52_3 : decode jdk_52_method_16_code 3 = .ok (.astore_n 3, 1) := by decide +kernel
theorem d52_4 : decode jdk_52_method_16_code 4 = .ok (.aload_n 0, 1) := by decide +kernel
theorem d52_5 : decode jdk_52_method_16_code 5 = .ok (.iload_n 1, 1) := by decide +kernel
theorem d52_6 : decode jdk_52_method_16_code 6 = .ok (.aload_n 3, 1) := by decide +kernel
theorem d52_7 : decode jdk_52_method_16_code 7 = .ok (.iconst 0, 1) := by decide +kernel
theorem d52_8 : decode jdk_52_method_16_code 8 = .ok (.iload_n 2, 1) := by decide +kernel
theorem d52_9 : decode jdk_52_method_16_code 9 = .ok (.invokestatic 115, 3) := by decide +kernel
theorem d52_12 : decode jdk_52_method_16_code 12 = .ok (.istore 4, 2) := by decide +kernel
theorem d52_14 : decode jdk_52_method_16_code 14 = .ok (.iload 4, 2) := by decide +kernel
theorem d52_16 : decode jdk_52_method_16_code 16 = .ok (.iload_n 2, 1) := by decide +kernel
theorem d52_17 : decode jdk_52_method_16_code 17 = .ok (.if_icmp .eq 40, 3) := by decide +kernel
theorem d52_57 : decode jdk_52_method_16_code 57 = .ok (.aload_n 3, 1) := by decide +kernel
theorem d52_58 : decode jdk_52_method_16_code 58 = .ok (.areturn, 1) := by decide +kernel
set_option maxRecDepth 65536 in
set_option maxHeartbeats 40000000 in
theorem rm52 (l : Launch) (Z : State) (a0 : Array Value) (hw : ∀ d ∈ tables_1, d.before a0 Z = true) (o0 : Addr) (i1 : Int32) (i2 : Int32) (kc : ClassId) (ch0 : Int32) (ch1 : Int32) (h0 : Heap) (n0 : Nat) (Z0 : n0 ≤ h0.size) (V_o0 : Arv Z h0 o0 kc .char (2 : Int32) [(.int ch0), (.int ch1)] (.int (0 : Int32))) (h1 : i1 = (0 : Int32)) (h2 : i2 = (2 : Int32)) (hq0 : ¬ (255 : Int32) < ch0) (hq1 : ¬ (255 : Int32) < ch1) :
    Ctr l Z (⟨"java/lang/StringUTF16", "compress", "([CII)[B"⟩ : MethodName) jdk_52_method_16_code 6 (some (.array .byte)) ({ frames := 1, cells := 1, slots := 2, locals := 18 } : Room) #[(.ref o0), (.int i1), (.int i2)] h0 n0 (fun v h' => ∃ bo : Addr, ∃ ko : ClassId, ∃ ws : List Value, v = some (.ref bo) ∧ Keep h0 h' [] ∧ Arv Z h' bo ko .byte (2 : Int32) ws (.int (0 : Int32)) ∧ h0.size ≤ bo) := by
  refine Ctr.body (L := #[.val (.ref o0), .val (.int i1), .val (.int i2), .unset, .unset, .unset]) (plainFor_of_name pn52) Z0 (fun m => ef52 m o0 i1 i2) ?_
  intro p e F m below meth c T0 C0
  have KP : Keep h0 h0 [] := Keep.refl h0 _
  subst h1
  subst h2
  refine C0.iloadN d52_0 rfl rfl ?_
  refine C0.newarr (hw _ (List.mem_of_getElem? (i := 23) rfl)) 2 (by decide) (by decide) (by decide) (by decide) (by decide) d52_1 rfl (fun T1 h1 b1 k1 C1 e1 g_b1 E1 V_b1 => ?_)
  have ne_o0_b1 : o0 ≠ b1 := Nat.ne_of_lt (Nat.lt_of_lt_of_eq V_o0.lt e1.symm)
  have sz_b1 : h0.size ≤ b1 := Nat.le_trans KP.1 (Nat.le_of_eq e1.symm)
  have V_o0 := V_o0.ext E1
  have KP := KP.ext E1
  have V_b1 : Arv Z h1 b1 k1 .byte (2 : Int32) [(.int (0 : Int32)), (.int (0 : Int32))] (.int (0 : Int32)) := V_b1
  refine C1.astoreN d52_3 rfl rfl (L' := #[.val (.ref o0), .val (.int (0 : Int32)), .val (.int (2 : Int32)), .val (.ref b1), .unset, .unset]) rfl ?_
  refine C1.aloadN d52_4 rfl rfl rfl ?_
  refine C1.iloadN d52_5 rfl rfl ?_
  refine C1.aloadN d52_6 rfl rfl rfl ?_
  refine C1.iconst (0 : Int32) d52_7 rfl rfl ?_
  refine C1.iloadN d52_8 rfl rfl ?_
  refine C1.callS (hw _ (List.mem_of_getElem? (i := 24) rfl)) (hw _ (List.mem_of_getElem? (i := 25) rfl)) (hw _ (List.mem_of_getElem? (i := 21) rfl)) (hw _ (List.mem_of_getElem? (i := 26) rfl)) (by decide) (rm62 l Z a0 hw o0 (0 : Int32) b1 (0 : Int32) (2 : Int32) kc k1 ch0 ch1 h1 n0 C1.size V_o0 V_b1 g_b1 ne_o0_b1 rfl rfl rfl hq0 hq1) (argsL := [(.ref o0), (.int (0 : Int32)), (.ref b1), (.int (0 : Int32)), (.int (2 : Int32))]) pd62 rfl 0 (by decide) (by decide) (by decide) (by decide) (rest := []) rfl rfl (Nat.le_of_eq rfl) d52_9 rfl (fun v2 T2 h2 C2 qq2 => ?_)
  obtain ⟨ws2, rfl, K2, p2_0⟩ := qq2
  have V_o0 := V_o0.keep K2 (ninS ne_o0_b1 nin0)
  have KP := KP.trans K2 (allS (Or.inr sz_b1) (all0))
  have V_b1 := p2_0
  show Go p e below F n0 (fun v h' => ∃ bo : Addr, ∃ ko : ClassId, ∃ ws : List Value, v = some (.ref bo) ∧ Keep h0 h' [] ∧ Arv Z h' bo ko .byte (2 : Int32) ws (.int (0 : Int32)) ∧ h0.size ≤ bo) T2 (mkF m 12 #[.val (.ref o0), .val (.int (0 : Int32)), .val (.int (2 : Int32)), .val (.ref b1), .unset, .unset] [(.int (2 : Int32))])
  refine C2.istore d52_12 rfl (L' := #[.val (.ref o0), .val (.int (0 : Int32)), .val (.int (2 : Int32)), .val (.ref b1), .val (.int (2 : Int32)), .unset]) rfl ?_
  refine C2.iload d52_14 rfl rfl ?_
  refine C2.iloadN d52_16 rfl rfl ?_
  refine C2.icmp_eq d52_17 (by decide) (by decide : _ = 57) rfl (fun _ => ?_) (fun q => absurd (by decide) q)
  refine C2.aloadN d52_57 rfl rfl rfl ?_
  exact C2.retA d52_58 rfl rfl rfl (by decide) (by decide) ⟨b1, k1, ws2, rfl, KP, V_b1, sz_b1⟩
theorem pn32 : plainName "java/lang/String" = true := by first | (simp [plainName, overriddenIn]; done) | decide +kernel
theorem pd32 : parseMethodDescriptor "([CIILjava/lang/Void;)V" = some ⟨[(.array .char), .int, .int, (.object "java/lang/Void")], none⟩ := by decide +kernel
theorem ef32 (m : MethodId) (o0 : Addr) (o1 : Addr) (i2 : Int32) (i3 : Int32) (z4 : Value) (r_z4 : z4.isRef = true) : entryFrame m #[(.ref o0), (.ref o1), (.int i2), (.int i3), z4] 6 = mkF m 0 #[.val (.ref o0), .val (.ref o1), .val (.int i2), .val (.int i3), .val z4, .unset] [] := by rcases ref_cases r_z4 with rfl | ⟨_, rfl⟩ <;> first | (simp [entryFrame, mkF, argsToLocals, Value.category]; done) | rfl
theorem d32_0 : decode jdk_42_method_149_code 0 = .ok (.aload_n 0, 1) := by decide +kernel
theorem d32_1 : decode jdk_42_method_149_code 1 = .ok (.invokespecial 1, 3) := by decide +kernel
theorem d32_4 : decode jdk_42_method_149_code 4 = .ok (.iload_n 3, 1) := by decide +kernel
theorem d32_5 : decode jdk_42_method_149_code 5 = .ok (.ifCond .ne 22, 3) := by decide +kernel
theorem d32_27 : decode jdk_42_method_149_code 27 = .ok (.getstatic 38, 3) := by decide +kernel
theorem d32_30 : decode jdk_42_method_149_code 30 = .ok (.ifCond .eq 28, 3) := by decide +kernel
theorem d32_33 : decode jdk_42_method_149_code 33 = .ok (.aload_n 1, 1) := by decide +kernel
theorem d32_34 : decode jdk_42_method_149_code 34 = .ok (.iload_n 2, 1) := by decide +kernel
theorem d32_35 : decode jdk_42_method_149_code 35 = .ok (.iload_n 3, 1) := by decide +kernel
theorem d32_36 : decode jdk_42_method_149_code 36 = .ok (.invokestatic 177, 3) := by decide +kernel
theorem d32_39 : decode jdk_42_method_149_code 39 = .ok (.astore 5, 2) := by decide +kernel
theorem d32_41 : decode jdk_42_method_149_code 41 = .ok (.aload_n 0, 1) := by decide +kernel
theorem d32_42 : decode jdk_42_method_149_code 42 = .ok (.aload 5, 2) := by decide +kernel
theorem d32_44 : decode jdk_42_method_149_code 44 = .ok (.iload_n 3, 1) := by decide +kernel
theorem d32_45 : decode jdk_42_method_149_code 45 = .ok (.invokestatic 47, 3) := by decide +kernel
theorem d32_48 : decode jdk_42_method_149_code 48 = .ok (.putfield 15, 3) := by decide +kernel
theorem d32_51 : decode jdk_42_method_149_code 51 = .ok (.aload_n 0, 1) := by decide +kernel
theorem d32_52 : decode jdk_42_method_149_code 52 = .ok (.aload 5, 2) := by decide +kernel
theorem d32_54 : decode jdk_42_method_149_code 54 = .ok (.putfield 9, 3) := by decide +kernel
theorem d32_57 : decode jdk_42_method_149_code 57 = .ok (.return_, 1) := by decide +kernel
set_option maxRecDepth 65536 in
set_option maxHeartbeats 40000000 in
theorem rm32 (l : Launch) (Z : State) (a0 : Array Value) (hw : ∀ d ∈ tables_1, d.before a0 Z = true) (o0 : Addr) (o1 : Addr) (i2 : Int32) (i3 : Int32) (z4 : Value) (cs : Int32) (x0 : Value) (x1 : Value) (kc : ClassId) (ch0 : Int32) (ch1 : Int32) (h0 : Heap) (n0 : Nat) (Z0 : n0 ≤ h0.size) (r_z4 : z4.isRef = true) (E_o0 : Exa Z h0 o0 "java/lang/String") (F_o0_value : Fld Z h0 o0 "java/lang/String" "value" "[B" x0) (F_o0_coder : Fld Z h0 o0 "java/lang/String" "coder" "B" x1) (g_o0 : n0 ≤ o0) (V_o1 : Arv Z h0 o1 kc .char (2 : Int32) [(.int ch0), (.int ch1)] (.int (0 : Int32))) (h2 : i2 = (0 : Int32)) (h3 : i3 = (2 : Int32)) (hq0 : ¬ (255 : Int32) < ch0) (hq1 : ¬ (255 : Int32) < ch1) (S_COMPACT_STRINGS : Sta Z h0 "java/lang/String" "COMPACT_STRINGS" "Z" (.int cs)) (hcs : ¬ cs = (0 : Int32)) :
    Ctr l Z (⟨"java/lang/String", "<init>", "([CIILjava/lang/Void;)V"⟩ : MethodName) jdk_42_method_149_code 6 none ({ frames := 2, cells := 1, slots := 2, locals := 35 } : Room) #[(.ref o0), (.ref o1), (.int i2), (.int i3), z4] h0 n0 (fun v h' => v = none ∧ Keep h0 h' [o0] ∧ Exa Z h' o0 "java/lang/String") := by
  refine Ctr.body (L := #[.val (.ref o0), .val (.ref o1), .val (.int i2), .val (.int i3), .val z4, .unset]) (plainFor_of_name pn32) Z0 (fun m => ef32 m o0 o1 i2 i3 z4 r_z4) ?_
  intro p e F m below meth c T0 C0
  have KP : Keep h0 h0 [o0] := Keep.refl h0 _
  subst h2
  subst h3
  refine C0.aloadN d32_0 rfl rfl rfl ?_
  refine C0.initObj (hw _ (List.mem_of_getElem? (i := 15) rfl)) (hw _ (List.mem_of_getElem? (i := 16) rfl)) (hw _ (List.mem_of_getElem? (i := 17) rfl)) rfl (by decide) 0 (Nat.le_of_eq rfl) (by decide) d32_1 rfl (fun T1 C1 => ?_)
  refine C1.iloadN d32_4 rfl rfl ?_
  refine C1.if_ne d32_5 (by decide) (by decide : _ = 27) rfl (fun _ => ?_) (fun q => absurd q (by decide))
  refine C1.getS (host := "") (Or.inl (hw _ (List.mem_of_getElem? (i := 18) rfl))) Via.refl S_COMPACT_STRINGS d32_27 rfl (fun T2 C2 => ?_)
  refine C2.if_eq d32_30 (by decide) (by decide : _ = 58) rfl (fun q => absurd q hcs) (fun _ => ?_)
  refine C2.aloadN d32_33 rfl rfl rfl ?_
  refine C2.iloadN d32_34 rfl rfl ?_
  refine C2.iloadN d32_35 rfl rfl ?_
  refine C2.callS (hw _ (List.mem_of_getElem? (i := 19) rfl)) (hw _ (List.mem_of_getElem? (i := 20) rfl)) (hw _ (List.mem_of_getElem? (i := 21) rfl)) (hw _ (List.mem_of_getElem? (i := 22) rfl)) (by decide) (rm52 l Z a0 hw o1 (0 : Int32) (2 : Int32) kc ch0 ch1 h0 n0 C2.size V_o1 rfl rfl hq0 hq1) (argsL := [(.ref o1), (.int (0 : Int32)), (.int (2 : Int32))]) pd52 rfl 0 (by decide) (by decide) (by decide) (by decide) (rest := []) rfl rfl (Nat.le_of_eq rfl) d32_36 rfl (fun v3 T3 h3 C3 qq3 => ?_)
  obtain ⟨bo3, ko3, ws3, rfl, K3, p3_0, p3_1⟩ := qq3
  have ne_o0_bo3 : o0 ≠ bo3 := Nat.ne_of_lt (Nat.lt_of_lt_of_le E_o0.lt p3_1)
  have ne_o1_bo3 : o1 ≠ bo3 := Nat.ne_of_lt (Nat.lt_of_lt_of_le V_o1.lt p3_1)
  have sz_bo3 : h0.size ≤ bo3 := Nat.le_trans KP.1 p3_1
  have g_bo3 : n0 ≤ bo3 := Nat.le_trans C2.size p3_1
  have K3 := ext_keep K3
  have E_o0 := E_o0.ext K3
  have F_o0_value := F_o0_value.ext K3
  have F_o0_coder := F_o0_coder.ext K3
  have V_o1 := V_o1.ext K3
  have S_COMPACT_STRINGS := S_COMPACT_STRINGS.ext K3
  have KP := KP.ext K3
  have V_bo3 := p3_0
  show Go p e below F n0 (fun v h' => v = none ∧ Keep h0 h' [o0] ∧ Exa Z h' o0 "java/lang/String") T3 (mkF m 39 #[.val (.ref o0), .val (.ref o1), .val (.int (0 : Int32)), .val (.int (2 : Int32)), .val z4, .unset] [(.ref bo3)])
  refine C3.astore d32_39 rfl rfl (L' := #[.val (.ref o0), .val (.ref o1), .val (.int (0 : Int32)), .val (.int (2 : Int32)), .val z4, .val (.ref bo3)]) rfl ?_
  refine C3.aloadN d32_41 rfl rfl rfl ?_
  refine C3.aload d32_42 rfl rfl rfl ?_
  refine C3.iloadN d32_44 rfl rfl ?_
  refine C3.callS (hw _ (List.mem_of_getElem? (i := 27) rfl)) (hw _ (List.mem_of_getElem? (i := 28) rfl)) (hw _ (List.mem_of_getElem? (i := 21) rfl)) (hw _ (List.mem_of_getElem? (i := 29) rfl)) (by decide) (rm7 l Z a0 hw bo3 (2 : Int32) ko3 (2 : Int32) ws3 (.int (0 : Int32)) h3 n0 C3.size V_bo3) (argsL := [(.ref bo3), (.int (2 : Int32))]) pd7 rfl 1 (by decide) (by decide) (by decide) (by decide) (rest := [(.ref o0)]) rfl rfl (Nat.le_of_eq rfl) d32_45 rfl (fun v4 T4 h4 C4 qq4 => ?_)
  obtain ⟨rr4, rfl, hh4⟩ := qq4
  have hh4 := hh4.symm; subst hh4
  show Go p e below F n0 (fun v h' => v = none ∧ Keep h0 h' [o0] ∧ Exa Z h' o0 "java/lang/String") T4 (mkF m 48 #[.val (.ref o0), .val (.ref o1), .val (.int (0 : Int32)), .val (.int (2 : Int32)), .val z4, .val (.ref bo3)] [(.int rr4), (.ref o0)])
  refine C4.putFN (v' := (.int (nar .byte rr4))) (hw _ (List.mem_of_getElem? (i := 30) rfl)) Via.refl F_o0_coder E_o0 (Or.inr ⟨(hw _ (List.mem_of_getElem? (i := 31) rfl)), rfl, rfl⟩) (hw _ (List.mem_of_getElem? (i := 5) rfl)) (ty := .byte) (by decide) rfl (fits_nar_byte _) g_o0 d32_48 rfl (fun T5 h5 C5 W5 => ?_)
  have ne_o1_o0 : o1 ≠ o0 := (Ne.symm (own_nea E_o0 (hw _ (List.mem_of_getElem? (i := 5) rfl)) V_o1))
  have E_o0 := E_o0.wr W5
  have F_o0_value := F_o0_value.other W5 (Or.inr (slot_ne (Or.inr (hw _ (List.mem_of_getElem? (i := 33) rfl))) (Or.inr (hw _ (List.mem_of_getElem? (i := 31) rfl))) (by decide) (t := (.array .byte)) (t' := .byte) (by decide) (by decide)))
  have V_o1 := V_o1.other W5 ne_o1_o0
  have S_COMPACT_STRINGS := S_COMPACT_STRINGS.wr W5
  have V_bo3 := V_bo3.other W5 (Ne.symm ne_o0_bo3)
  have KP := KP.wr W5 (Or.inl (by simp))
  have F_o0_coder := F_o0_coder.same W5
  refine C5.aloadN d32_51 rfl rfl rfl ?_
  refine C5.aload d32_52 rfl rfl rfl ?_
  refine C5.putF (host := "") (Or.inl (hw _ (List.mem_of_getElem? (i := 32) rfl))) Via.refl F_o0_value E_o0 (Or.inr ⟨(hw _ (List.mem_of_getElem? (i := 33) rfl)), rfl, rfl⟩) (hw _ (List.mem_of_getElem? (i := 5) rfl)) (ty := (.array .byte)) (by decide) rfl rfl g_o0 d32_54 rfl (fun T6 h6 C6 W6 => ?_)
  have E_o0 := E_o0.wr W6
  have F_o0_coder := F_o0_coder.other W6 (Or.inr (slot_ne (Or.inr (hw _ (List.mem_of_getElem? (i := 31) rfl))) (Or.inr (hw _ (List.mem_of_getElem? (i := 33) rfl))) (by decide) (t := .byte) (t' := (.array .byte)) (by decide) (by decide)))
  have V_o1 := V_o1.other W6 ne_o1_o0
  have S_COMPACT_STRINGS := S_COMPACT_STRINGS.wr W6
  have V_bo3 := V_bo3.other W6 (Ne.symm ne_o0_bo3)
  have KP := KP.wr W6 (Or.inl (by simp))
  have F_o0_value := F_o0_value.same W6
  exact C6.retV d32_57 rfl (by decide) (by decide) ⟨rfl, KP, E_o0⟩
theorem pn22 : plainName "java/lang/String" = true := by first | (simp [plainName, overriddenIn]; done) | decide +kernel
theorem pd22 : parseMethodDescriptor "([C)V" = some ⟨[(.array .char)], none⟩ := by decide +kernel
theorem ef22 (m : MethodId) (o0 : Addr) (o1 : Addr) : entryFrame m #[(.ref o0), (.ref o1)] 2 = mkF m 0 #[.val (.ref o0), .val (.ref o1)] [] := by first | (simp [entryFrame, mkF, argsToLocals, Value.category]; done) | rfl
theorem d22_0 : decode jdk_42_method_3_code 0 = .ok (.aload_n 0, 1) := by decide +kernel
theorem d22_1 : decode jdk_42_method_3_code 1 = .ok (.aload_n 1, 1) := by decide +kernel
theorem d22_2 : decode jdk_42_method_3_code 2 = .ok (.iconst 0, 1) := by decide +kernel
theorem d22_3 : decode jdk_42_method_3_code 3 = .ok (.aload_n 1, 1) := by decide +kernel
theorem d22_4 : decode jdk_42_method_3_code 4 = .ok (.arraylength, 1) := by decide +kernel
theorem d22_5 : decode jdk_42_method_3_code 5 = .ok (.aconst_null, 1) := by decide +kernel
theorem d22_6 : decode jdk_42_method_3_code 6 = .ok (.invokespecial 27, 3) := by decide +kernel
theorem d22_9 : decode jdk_42_method_3_code 9 = .ok (.return_, 1) := by decide +kernel
set_option maxRecDepth 65536 in
set_option maxHeartbeats 40000000 in
theorem rm22 (l : Launch) (Z : State) (a0 : Array Value) (hw : ∀ d ∈ tables_1, d.before a0 Z = true) (o0 : Addr) (o1 : Addr) (cs : Int32) (x0 : Value) (x1 : Value) (kc : ClassId) (ch0 : Int32) (ch1 : Int32) (h0 : Heap) (n0 : Nat) (Z0 : n0 ≤ h0.size) (E_o0 : Exa Z h0 o0 "java/lang/String") (F_o0_value : Fld Z h0 o0 "java/lang/String" "value" "[B" x0) (F_o0_coder : Fld Z h0 o0 "java/lang/String" "coder" "B" x1) (g_o0 : n0 ≤ o0) (V_o1 : Arv Z h0 o1 kc .char (2 : Int32) [(.int ch0), (.int ch1)] (.int (0 : Int32))) (hq0 : ¬ (255 : Int32) < ch0) (hq1 : ¬ (255 : Int32) < ch1) (S_COMPACT_STRINGS : Sta Z h0 "java/lang/String" "COMPACT_STRINGS" "Z" (.int cs)) (hcs : ¬ cs = (0 : Int32)) :
    Ctr l Z (⟨"java/lang/String", "<init>", "([C)V"⟩ : MethodName) jdk_42_method_3_code 2 none ({ frames := 3, cells := 1, slots := 2, locals := 52 } : Room) #[(.ref o0), (.ref o1)] h0 n0 (fun v h' => v = none ∧ Keep h0 h' [o0] ∧ Exa Z h' o0 "java/lang/String") := by
  refine Ctr.body (L := #[.val (.ref o0), .val (.ref o1)]) (plainFor_of_name pn22) Z0 (fun m => ef22 m o0 o1) ?_
  intro p e F m below meth c T0 C0
  have KP : Keep h0 h0 [o0] := Keep.refl h0 _
  refine C0.aloadN d22_0 rfl rfl rfl ?_
  refine C0.aloadN d22_1 rfl rfl rfl ?_
  refine C0.iconst (0 : Int32) d22_2 rfl rfl ?_
  refine C0.aloadN d22_3 rfl rfl rfl ?_
  refine C0.arrlen V_o1 d22_4 rfl ?_
  refine C0.aconstNull d22_5 rfl ?_
  refine C0.callN rfl (hw _ (List.mem_of_getElem? (i := 11) rfl)) (hw _ (List.mem_of_getElem? (i := 12) rfl)) (hw _ (List.mem_of_getElem? (i := 6) rfl)) (hw _ (List.mem_of_getElem? (i := 14) rfl)) (by decide) (a := o0) (rm32 l Z a0 hw o0 o1 (0 : Int32) (2 : Int32) .null cs x0 x1 kc ch0 ch1 h0 n0 C0.size rfl E_o0 F_o0_value F_o0_coder g_o0 V_o1 rfl rfl hq0 hq1 S_COMPACT_STRINGS hcs) (argsL := [(.ref o1), (.int (0 : Int32)), (.int (2 : Int32)), .null]) pd32 rfl 0 (by decide) (by decide) (by decide) (by decide) (rest := []) rfl rfl (Nat.le_of_eq rfl) d22_6 rfl (fun v1 T1 h1 C1 qq1 => ?_)
  obtain ⟨rfl, K1, p1_0⟩ := qq1
  have ne_o1_o0 : o1 ≠ o0 := (Ne.symm (own_nea E_o0 (hw _ (List.mem_of_getElem? (i := 5) rfl)) V_o1))
  have S_COMPACT_STRINGS := own_stak S_COMPACT_STRINGS K1 (allS (own_plainE E_o0) (all0))
  have E_o0 := E_o0.keep K1
  have V_o1 := V_o1.keep K1 (ninS ne_o1_o0 nin0)
  have KP := KP.trans K1 (allS (Or.inl (by simp)) (all0))
  have E_o0 := p1_0
  show Go p e below F n0 (fun v h' => v = none ∧ Keep h0 h' [o0] ∧ Exa Z h' o0 "java/lang/String") T1 (mkF m 9 #[.val (.ref o0), .val (.ref o1)] [])
  exact C1.retV d22_9 rfl (by decide) (by decide) ⟨rfl, KP, E_o0⟩
theorem pn63 : plainName "java/lang/StringUTF16" = true := by first | (simp [plainName, overriddenIn]; done) | decide +kernel
theorem pd63 : parseMethodDescriptor "([CI[BII)I" = some ⟨[(.array .char), .int, (.array .byte), .int, .int], some .int⟩ := by decide +kernel
theorem ef63 (m : MethodId) (o0 : Addr) (i1 : Int32) (o2 : Addr) (i3 : Int32) (i4 : Int32) : entryFrame m #[(.ref o0), (.int i1), (.ref o2), (.int i3), (.int i4)] 7 = mkF m 0 #[.val (.ref o0), .val (.int i1), .val (.ref o2), .val (.int i3), .val (.int i4), .unset, .unset] [] := by first | (simp [entryFrame, mkF, argsToLocals, Value.category]; done) | rfl
theorem d63_0 : decode jdk_52_method_21_code 0 = .ok (.iconst 0, 1) := by decide +kernel
theorem d63_1 : decode jdk_52_method_21_code 1 = .ok (.istore 5, 2) := by decide +kernel
theorem d63_3 : decode jdk_52_method_21_code 3 = .ok (.iload 5, 2) := by decide +kernel
theorem d63_5 : decode jdk_52_method_21_code 5 = .ok (.iload 4, 2) := by decide +kernel
theorem d63_7 : decode jdk_52_method_21_code 7 = .ok (.if_icmp .ge 37, 3) := by decide +kernel
theorem d63_10 : decode jdk_52_method_21_code 10 = .ok (.aload_n 0, 1) := by decide +kernel
theorem d63_11 : decode jdk_52_method_21_code 11 = .ok (.iload_n 1, 1) := by decide +kernel
theorem d63_12 : decode jdk_52_method_21_code 12 = .ok (.caload, 1) := by decide +kernel
theorem d63_13 : decode jdk_52_method_21_code 13 = .ok (.istore 6, 2) := by decide +kernel
theorem d63_15 : decode jdk_52_method_21_code 15 = .ok (.iload 6, 2) := by decide +kernel
theorem d63_17 : decode jdk_52_method_21_code 17 = .ok (.sipush 255, 3) := by decide +kernel
theorem d63_20 : decode jdk_52_method_21_code 20 = .ok (.if_icmp .le 6, 3) := by decide +kernel
theorem d63_26 : decode jdk_52_method_21_code 26 = .ok (.aload_n 2, 1) := by decide +kernel
theorem d63_27 : decode jdk_52_method_21_code 27 = .ok (.iload_n 3, 1) := by decide +kernel
theorem d63_28 : decode jdk_52_method_21_code 28 = .ok (.iload 6, 2) := by decide +kernel
theorem d63_30 : decode jdk_52_method_21_code 30 = .ok (.i2b, 1) := by decide +kernel
theorem d63_31 : decode jdk_52_method_21_code 31 = .ok (.bastore, 1) := by decide +kernel
theorem d63_32 : decode jdk_52_method_21_code 32 = .ok (.iinc 1 1, 3) := by decide +kernel
theorem d63_35 : decode jdk_52_method_21_code 35 = .ok (.iinc 3 1, 3) := by decide +kernel
theorem d63_38 : decode jdk_52_method_21_code 38 = .ok (.iinc 5 1, 3) := by decide +kernel
theorem d63_41 : decode jdk_52_method_21_code 41 = .ok (.goto (-38), 3) := by decide +kernel
theorem d63_44 : decode jdk_52_method_21_code 44 = .ok (.iload 4, 2) := by decide +kernel
theorem d63_46 : decode jdk_52_method_21_code 46 = .ok (.ireturn, 1) := by decide +kernel
set_option maxRecDepth 65536 in
set_option maxHeartbeats 40000000 in
theorem rm63 (l : Launch) (Z : State) (a0 : Array Value) (hw : ∀ d ∈ tables_1, d.before a0 Z = true) (o0 : Addr) (i1 : Int32) (o2 : Addr) (i3 : Int32) (i4 : Int32) (kc : ClassId) (kb : ClassId) (ch0 : Int32) (ch1 : Int32) (ch2 : Int32) (h0 : Heap) (n0 : Nat) (Z0 : n0 ≤ h0.size) (V_o0 : Arv Z h0 o0 kc .char (3 : Int32) [(.int ch0), (.int ch1), (.int ch2)] (.int (0 : Int32))) (V_o2 : Arv Z h0 o2 kb .byte (3 : Int32) [(.int (0 : Int32)), (.int (0 : Int32)), (.int (0 : Int32))] (.int (0 : Int32))) (g_o2 : n0 ≤ o2) (ne_o0_o2 : o0 ≠ o2) (h1 : i1 = (0 : Int32)) (h3 : i3 = (0 : Int32)) (h4 : i4 = (3 : Int32)) (hq0 : ¬ (255 : Int32) < ch0) (hq1 : ¬ (255 : Int32) < ch1) (hq2 : ¬ (255 : Int32) < ch2) :
    Ctr l Z (⟨"java/lang/StringUTF16", "compress", "([CI[BII)I"⟩ : MethodName) jdk_52_method_21_code 7 (some .int) ({ frames := 0, cells := 0, slots := 0, locals := 0 } : Room) #[(.ref o0), (.int i1), (.ref o2), (.int i3), (.int i4)] h0 n0 (fun v h' => ∃ ws : List Value, v = some (.int (3 : Int32)) ∧ Keep h0 h' [o2] ∧ Arv Z h' o2 kb .byte (3 : Int32) ws (.int (0 : Int32))) := by
  refine Ctr.body (L := #[.val (.ref o0), .val (.int i1), .val (.ref o2), .val (.int i3), .val (.int i4), .unset, .unset]) (plainFor_of_name pn63) Z0 (fun m => ef63 m o0 i1 o2 i3 i4) ?_
  intro p e F m below meth c T0 C0
  have KP : Keep h0 h0 [o2] := Keep.refl h0 _
  subst h1
  subst h3
  subst h4
  refine C0.iconst (0 : Int32) d63_0 rfl rfl ?_
  refine C0.istore d63_1 rfl (L' := #[.val (.ref o0), .val (.int (0 : Int32)), .val (.ref o2), .val (.int (0 : Int32)), .val (.int (3 : Int32)), .val (.int (0 : Int32)), .unset]) rfl ?_
  refine C0.iload d63_3 rfl rfl ?_
  refine C0.iload d63_5 rfl rfl ?_
  refine C0.icmp_ge d63_7 (by decide) (by decide : _ = 44) rfl (fun q => absurd (by decide) q) (fun _ => ?_)
  refine C0.aloadN d63_10 rfl rfl rfl ?_
  refine C0.iloadN d63_11 rfl rfl ?_
  refine C0.caload (v := ch0) V_o0 ⟨by decide, by decide⟩ rfl d63_12 rfl ?_
  refine C0.istore d63_13 rfl (L' := #[.val (.ref o0), .val (.int (0 : Int32)), .val (.ref o2), .val (.int (0 : Int32)), .val (.int (3 : Int32)), .val (.int (0 : Int32)), .val (.int ch0)]) rfl ?_
  refine C0.iload d63_15 rfl rfl ?_
  refine C0.sipush (255 : Int32) d63_17 rfl rfl ?_
  refine C0.icmp_le d63_20 (by decide) (by decide : _ = 26) rfl (fun _ => ?_) (fun q => absurd q hq0)
  refine C0.aloadN d63_26 rfl rfl rfl ?_
  refine C0.iloadN d63_27 rfl rfl ?_
  refine C0.iload d63_28 rfl rfl ?_
  refine C0.i2b d63_30 rfl ?_
  refine C0.bastore V_o2 ⟨by decide, by decide⟩ (Nat.le_of_ble_eq_true rfl) g_o2 d63_31 rfl (fun T1 h1 C1 W1 Vn1 => ?_)
  have V_o0 := V_o0.other W1 ne_o0_o2
  have KP := KP.wr W1 (Or.inl (by simp))
  have V_o2 : Arv Z h1 o2 kb .byte (3 : Int32) [(.int (nar .byte (ch0.toInt8.toInt32))), (.int (0 : Int32)), (.int (0 : Int32))] (.int (0 : Int32)) := Vn1
  refine C1.iinc (1 : Int32) d63_32 rfl rfl rfl (L' := #[.val (.ref o0), .val (.int ((0 : Int32) + (1 : Int32))), .val (.ref o2), .val (.int (0 : Int32)), .val (.int (3 : Int32)), .val (.int (0 : Int32)), .val (.int ch0)]) rfl ?_
  rw [show ((0 : Int32) + (1 : Int32)) = (1 : Int32) from by decide]
  refine C1.iinc (1 : Int32) d63_35 rfl rfl rfl (L' := #[.val (.ref o0), .val (.int (1 : Int32)), .val (.ref o2), .val (.int ((0 : Int32) + (1 : Int32))), .val (.int (3 : Int32)), .val (.int (0 : Int32)), .val (.int ch0)]) rfl ?_
  rw [show ((0 : Int32) + (1 : Int32)) = (1 : Int32) from by decide]
  refine C1.iinc (1 : Int32) d63_38 rfl rfl rfl (L' := #[.val (.ref o0), .val (.int (1 : Int32)), .val (.ref o2), .val (.int (1 : Int32)), .val (.int (3 : Int32)), .val (.int ((0 : Int32) + (1 : Int32))), .val (.int ch0)]) rfl ?_
  rw [show ((0 : Int32) + (1 : Int32)) = (1 : Int32) from by decide]
  refine C1.goto d63_41 (by decide) (by decide : _ = 3) ?_
  refine C1.iload d63_3 rfl rfl ?_
  refine C1.iload d63_5 rfl rfl ?_
  refine C1.icmp_ge d63_7 (by decide) (by decide : _ = 44) rfl (fun q => absurd (by decide) q) (fun _ => ?_)
  refine C1.aloadN d63_10 rfl rfl rfl ?_
  refine C1.iloadN d63_11 rfl rfl ?_
  refine C1.caload (v := ch1) V_o0 ⟨by decide, by decide⟩ rfl d63_12 rfl ?_
  refine C1.istore d63_13 rfl (L' := #[.val (.ref o0), .val (.int (1 : Int32)), .val (.ref o2), .val (.int (1 : Int32)), .val (.int (3 : Int32)), .val (.int (1 : Int32)), .val (.int ch1)]) rfl ?_
  refine C1.iload d63_15 rfl rfl ?_
  refine C1.sipush (255 : Int32) d63_17 rfl rfl ?_
  refine C1.icmp_le d63_20 (by decide) (by decide : _ = 26) rfl (fun _ => ?_) (fun q => absurd q hq1)
  refine C1.aloadN d63_26 rfl rfl rfl ?_
  refine C1.iloadN d63_27 rfl rfl ?_
  refine C1.iload d63_28 rfl rfl ?_
  refine C1.i2b d63_30 rfl ?_
  refine C1.bastore V_o2 ⟨by decide, by decide⟩ (Nat.le_of_ble_eq_true rfl) g_o2 d63_31 rfl (fun T2 h2 C2 W2 Vn2 => ?_)
  have V_o0 := V_o0.other W2 ne_o0_o2
  have KP := KP.wr W2 (Or.inl (by simp))
  have V_o2 : Arv Z h2 o2 kb .byte (3 : Int32) [(.int (nar .byte (ch0.toInt8.toInt32))), (.int (nar .byte (ch1.toInt8.toInt32))), (.int (0 : Int32))] (.int (0 : Int32)) := Vn2
  refine C2.iinc (1 : Int32) d63_32 rfl rfl rfl (L' := #[.val (.ref o0), .val (.int ((1 : Int32) + (1 : Int32))), .val (.ref o2), .val (.int (1 : Int32)), .val (.int (3 : Int32)), .val (.int (1 : Int32)), .val (.int ch1)]) rfl ?_
  rw [show ((1 : Int32) + (1 : Int32)) = (2 : Int32) from by decide]
  refine C2.iinc (1 : Int32) d63_35 rfl rfl rfl (L' := #[.val (.ref o0), .val (.int (2 : Int32)), .val (.ref o2), .val (.int ((1 : Int32) + (1 : Int32))), .val (.int (3 : Int32)), .val (.int (1 : Int32)), .val (.int ch1)]) rfl ?_
  rw [show ((1 : Int32) + (1 : Int32)) = (2 : Int32) from by decide]
  refine C2.iinc (1 : Int32) d63_38 rfl rfl rfl (L' := #[.val (.ref o0), .val (.int (2 : Int32)), .val (.ref o2), .val (.int (2 : Int32)), .val (.int (3 : Int32)), .val (.int ((1 : Int32) + (1 : Int32))), .val (.int ch1)]) rfl ?_
  rw [show ((1 : Int32) + (1 : Int32)) = (2 : Int32) from by decide]
  refine C2.goto d63_41 (by decide) (by decide : _ = 3) ?_
  refine C2.iload d63_3 rfl rfl ?_
  refine C2.iload d63_5 rfl rfl ?_
  refine C2.icmp_ge d63_7 (by decide) (by decide : _ = 44) rfl (fun q => absurd (by decide) q) (fun _ => ?_)
  refine C2.aloadN d63_10 rfl rfl rfl ?_
  refine C2.iloadN d63_11 rfl rfl ?_
  refine C2.caload (v := ch2) V_o0 ⟨by decide, by decide⟩ rfl d63_12 rfl ?_
  refine C2.istore d63_13 rfl (L' := #[.val (.ref o0), .val (.int (2 : Int32)), .val (.ref o2), .val (.int (2 : Int32)), .val (.int (3 : Int32)), .val (.int (2 : Int32)), .val (.int ch2)]) rfl ?_
  refine C2.iload d63_15 rfl rfl ?_
  refine C2.sipush (255 : Int32) d63_17 rfl rfl ?_
  refine C2.icmp_le d63_20 (by decide) (by decide : _ = 26) rfl (fun _ => ?_) (fun q => absurd q hq2)
  refine C2.aloadN d63_26 rfl rfl rfl ?_
  refine C2.iloadN d63_27 rfl rfl ?_
  refine C2.iload d63_28 rfl rfl ?_
  refine C2.i2b d63_30 rfl ?_
  refine C2.bastore V_o2 ⟨by decide, by decide⟩ (Nat.le_of_ble_eq_true rfl) g_o2 d63_31 rfl (fun T3 h3 C3 W3 Vn3 => ?_)
  have V_o0 := V_o0.other W3 ne_o0_o2
  have KP := KP.wr W3 (Or.inl (by simp))
  have V_o2 : Arv Z h3 o2 kb .byte (3 : Int32) [(.int (nar .byte (ch0.toInt8.toInt32))), (.int (nar .byte (ch1.toInt8.toInt32))), (.int (nar .byte (ch2.toInt8.toInt32)))] (.int (0 : Int32)) := Vn3
  refine C3.iinc (1 : Int32) d63_32 rfl rfl rfl (L' := #[.val (.ref o0), .val (.int ((2 : Int32) + (1 : Int32))), .val (.ref o2), .val (.int (2 : Int32)), .val (.int (3 : Int32)), .val (.int (2 : Int32)), .val (.int ch2)]) rfl ?_
  rw [show ((2 : Int32) + (1 : Int32)) = (3 : Int32) from by decide]
  refine C3.iinc (1 : Int32) d63_35 rfl rfl rfl (L' := #[.val (.ref o0), .val (.int (3 : Int32)), .val (.ref o2), .val (.int ((2 : Int32) + (1 : Int32))), .val (.int (3 : Int32)), .val (.int (2 : Int32)), .val (.int ch2)]) rfl ?_
  rw [show ((2 : Int32) + (1 : Int32)) = (3 : Int32) from by decide]
  refine C3.iinc (1 : Int32) d63_38 rfl rfl rfl (L' := #[.val (.ref o0), .val (.int (3 : Int32)), .val (.ref o2), .val (.int (3 : Int32)), .val (.int (3 : Int32)), .val (.int ((2 : Int32) + (1 : Int32))), .val (.int ch2)]) rfl ?_
  rw [show ((2 : Int32) + (1 : Int32)) = (3 : Int32) from by decide]
  refine C3.goto d63_41 (by decide) (by decide : _ = 3) ?_
  refine C3.iload d63_3 rfl rfl ?_
  refine C3.iload d63_5 rfl rfl ?_
  refine C3.icmp_ge d63_7 (by decide) (by decide : _ = 44) rfl (fun _ => ?_) (fun q => absurd q (by decide))
  refine C3.iload d63_44 rfl rfl ?_
  exact C3.retI d63_46 rfl (by decide) (by decide) ⟨[(.int (nar .byte (ch0.toInt8.toInt32))), (.int (nar .byte (ch1.toInt8.toInt32))), (.int (nar .byte (ch2.toInt8.toInt32)))], rfl, KP, V_o2⟩
theorem pn53 : plainName "java/lang/StringUTF16" = true := by first | (simp [plainName, overriddenIn]; done) | decide +kernel
theorem pd53 : parseMethodDescriptor "([CII)[B" = some ⟨[(.array .char), .int, .int], some (.array .byte)⟩ := by decide +kernel
theorem ef53 (m : MethodId) (o0 : Addr) (i1 : Int32) (i2 : Int32) : entryFrame m #[(.ref o0), (.int i1), (.int i2)] 6 = mkF m 0 #[.val (.ref o0), .val (.int i1), .val (.int i2), .unset, .unset, .unset] [] := by first | (simp [entryFrame, mkF, argsToLocals, Value.category]; done) | rfl
theorem d53_0 : decode jdk_52_method_16_code 0 = .ok (.iload_n 2, 1) := by decide +kernel
theorem d53_1 : decode jdk_52_method_16_code 1 = .ok (.newarray .byte, 2) := by decide +kernel
theorem d53_3 : decode jdk_52_method_16_code 3 = .ok (.astore_n 3, 1) := by decide +kernel
theorem d53_4 : decode jdk_52_method_16_code 4 = .ok (.aload_n 0, 1) := by decide +kernel
theorem d53_5 : decode jdk_52_method_16_code 5 = .ok (.iload_n 1, 1) := by decide +kernel
theorem d53_6 : decode jdk_52_method_16_code 6 = .ok (.aload_n 3, 1) := by decide +kernel
theorem d53_7 : decode jdk_52_method_16_code 7 = .ok (.iconst 0, 1) := by decide +kernel
theorem d53_8 : decode jdk_52_method_16_code 8 = .ok (.iload_n 2, 1) := by decide +kernel
theorem d53_9 : decode jdk_52_method_16_code 9 = .ok (.invokestatic 115, 3) := by decide +kernel
theorem d53_12 : decode jdk_52_method_16_code 12 = .ok (.istore 4, 2) := by decide +kernel
theorem d53_14 : decode jdk_52_method_16_code 14 = .ok (.iload 4, 2) := by decide +kernel
theorem d53_16 : decode jdk_52_method_16_code 16 = .ok (.iload_n 2, 1) := by decide +kernel
theorem d53_17 : decode jdk_52_method_16_code 17 = .ok (.if_icmp .eq 40, 3) := by decide +kernel
theorem d53_57 : decode jdk_52_method_16_code 57 = .ok (.aload_n 3, 1) := by decide +kernel
theorem d53_58 : decode jdk_52_method_16_code 58 = .ok (.areturn, 1) := by decide +kernel
set_option maxRecDepth 65536 in
set_option maxHeartbeats 40000000 in
theorem rm53 (l : Launch) (Z : State) (a0 : Array Value) (hw : ∀ d ∈ tables_1, d.before a0 Z = true) (o0 : Addr) (i1 : Int32) (i2 : Int32) (kc : ClassId) (ch0 : Int32) (ch1 : Int32) (ch2 : Int32) (h0 : Heap) (n0 : Nat) (Z0 : n0 ≤ h0.size) (V_o0 : Arv Z h0 o0 kc .char (3 : Int32) [(.int ch0), (.int ch1), (.int ch2)] (.int (0 : Int32))) (h1 : i1 = (0 : Int32)) (h2 : i2 = (3 : Int32)) (hq0 : ¬ (255 : Int32) < ch0) (hq1 : ¬ (255 : Int32) < ch1) (hq2 : ¬ (255 : Int32) < ch2) :
    Ctr l Z (⟨"java/lang/StringUTF16", "compress", "([CII)[B"⟩ : MethodName) jdk_52_method_16_code 6 (some (.array .byte)) ({ frames := 1, cells := 1, slots := 3, locals := 18 } : Room) #[(.ref o0), (.int i1), (.int i2)] h0 n0 (fun v h' => ∃ bo : Addr, ∃ ko : ClassId, ∃ ws : List Value, v = some (.ref bo) ∧ Keep h0 h' [] ∧ Arv Z h' bo ko .byte (3 : Int32) ws (.int (0 : Int32)) ∧ h0.size ≤ bo) := by
  refine Ctr.body (L := #[.val (.ref o0), .val (.int i1), .val (.int i2), .unset, .unset, .unset]) (plainFor_of_name pn53) Z0 (fun m => ef53 m o0 i1 i2) ?_
  intro p e F m below meth c T0 C0
  have KP : Keep h0 h0 [] := Keep.refl h0 _
  subst h1
  subst h2
  refine C0.iloadN d53_0 rfl rfl ?_
  refine C0.newarr (hw _ (List.mem_of_getElem? (i := 23) rfl)) 3 (by decide) (by decide) (by decide) (by decide) (by decide) d53_1 rfl (fun T1 h1 b1 k1 C1 e1 g_b1 E1 V_b1 => ?_)
  have ne_o0_b1 : o0 ≠ b1 := Nat.ne_of_lt (Nat.lt_of_lt_of_eq V_o0.lt e1.symm)
  have sz_b1 : h0.size ≤ b1 := Nat.le_trans KP.1 (Nat.le_of_eq e1.symm)
  have V_o0 := V_o0.ext E1
  have KP := KP.ext E1
  have V_b1 : Arv Z h1 b1 k1 .byte (3 : Int32) [(.int (0 : Int32)), (.int (0 : Int32)), (.int (0 : Int32))] (.int (0 : Int32)) := V_b1
  refine C1.astoreN d53_3 rfl rfl (L' := #[.val (.ref o0), .val (.int (0 : Int32)), .val (.int (3 : Int32)), .val (.ref b1), .unset, .unset]) rfl ?_
  refine C1.aloadN d53_4 rfl rfl rfl ?_
  refine C1.iloadN d53_5 rfl rfl ?_
  refine C1.aloadN d53_6 rfl rfl rfl ?_
  refine C1.iconst (0 : Int32) d53_7 rfl rfl ?_
  refine C1.iloadN d53_8 rfl rfl ?_
  refine C1.callS (hw _ (List.mem_of_getElem? (i := 24) rfl)) (hw _ (List.mem_of_getElem? (i := 25) rfl)) (hw _ (List.mem_of_getElem? (i := 21) rfl)) (hw _ (List.mem_of_getElem? (i := 26) rfl)) (by decide) (rm63 l Z a0 hw o0 (0 : Int32) b1 (0 : Int32) (3 : Int32) kc k1 ch0 ch1 ch2 h1 n0 C1.size V_o0 V_b1 g_b1 ne_o0_b1 rfl rfl rfl hq0 hq1 hq2) (argsL := [(.ref o0), (.int (0 : Int32)), (.ref b1), (.int (0 : Int32)), (.int (3 : Int32))]) pd63 rfl 0 (by decide) (by decide) (by decide) (by decide) (rest := []) rfl rfl (Nat.le_of_eq rfl) d53_9 rfl (fun v2 T2 h2 C2 qq2 => ?_)
  obtain ⟨ws2, rfl, K2, p2_0⟩ := qq2
  have V_o0 := V_o0.keep K2 (ninS ne_o0_b1 nin0)
  have KP := KP.trans K2 (allS (Or.inr sz_b1) (all0))
  have V_b1 := p2_0
  show Go p e below F n0 (fun v h' => ∃ bo : Addr, ∃ ko : ClassId, ∃ ws : List Value, v = some (.ref bo) ∧ Keep h0 h' [] ∧ Arv Z h' bo ko .byte (3 : Int32) ws (.int (0 : Int32)) ∧ h0.size ≤ bo) T2 (mkF m 12 #[.val (.ref o0), .val (.int (0 : Int32)), .val (.int (3 : Int32)), .val (.ref b1), .unset, .unset] [(.int (3 : Int32))])
  refine C2.istore d53_12 rfl (L' := #[.val (.ref o0), .val (.int (0 : Int32)), .val (.int (3 : Int32)), .val (.ref b1), .val (.int (3 : Int32)), .unset]) rfl ?_
  refine C2.iload d53_14 rfl rfl ?_
  refine C2.iloadN d53_16 rfl rfl ?_
  refine C2.icmp_eq d53_17 (by decide) (by decide : _ = 57) rfl (fun _ => ?_) (fun q => absurd (by decide) q)
  refine C2.aloadN d53_57 rfl rfl rfl ?_
  exact C2.retA d53_58 rfl rfl rfl (by decide) (by decide) ⟨b1, k1, ws2, rfl, KP, V_b1, sz_b1⟩
theorem pn33 : plainName "java/lang/String" = true := by first | (simp [plainName, overriddenIn]; done) | decide +kernel
theorem pd33 : parseMethodDescriptor "([CIILjava/lang/Void;)V" = some ⟨[(.array .char), .int, .int, (.object "java/lang/Void")], none⟩ := by decide +kernel
theorem ef33 (m : MethodId) (o0 : Addr) (o1 : Addr) (i2 : Int32) (i3 : Int32) (z4 : Value) (r_z4 : z4.isRef = true) : entryFrame m #[(.ref o0), (.ref o1), (.int i2), (.int i3), z4] 6 = mkF m 0 #[.val (.ref o0), .val (.ref o1), .val (.int i2), .val (.int i3), .val z4, .unset] [] := by rcases ref_cases r_z4 with rfl | ⟨_, rfl⟩ <;> first | (simp [entryFrame, mkF, argsToLocals, Value.category]; done) | rfl
theorem d33_0 : decode jdk_42_method_149_code 0 = .ok (.aload_n 0, 1) := by decide +kernel
theorem d33_1 : decode jdk_42_method_149_code 1 = .ok (.invokespecial 1, 3) := by decide +kernel
theorem d33_4 : decode jdk_42_method_149_code 4 = .ok (.iload_n 3, 1) := by decide +kernel
theorem d33_5 : decode jdk_42_method_149_code 5 = .ok (.ifCond .ne 22, 3) := by decide +kernel
theorem d33_27 : decode jdk_42_method_149_code 27 = .ok (.getstatic 38, 3) := by decide +kernel
theorem d33_30 : decode jdk_42_method_149_code 30 = .ok (.ifCond .eq 28, 3) := by decide +kernel
theorem d33_33 : decode jdk_42_method_149_code 33 = .ok (.aload_n 1, 1) := by decide +kernel
theorem d33_34 : decode jdk_42_method_149_code 34 = .ok (.iload_n 2, 1) := by decide +kernel
theorem d33_35 : decode jdk_42_method_149_code 35 = .ok (.iload_n 3, 1) := by decide +kernel
theorem d33_36 : decode jdk_42_method_149_code 36 = .ok (.invokestatic 177, 3) := by decide +kernel
theorem d33_39 : decode jdk_42_method_149_code 39 = .ok (.astore 5, 2) := by decide +kernel
theorem d33_41 : decode jdk_42_method_149_code 41 = .ok (.aload_n 0, 1) := by decide +kernel
theorem d33_42 : decode jdk_42_method_149_code 42 = .ok (.aload 5, 2) := by decide +kernel
theorem d33_44 : decode jdk_42_method_149_code 44 = .ok (.iload_n 3, 1) := by decide +kernel
theorem d33_45 : decode jdk_42_method_149_code 45 = .ok (.invokestatic 47, 3) := by decide +kernel
theorem d33_48 : decode jdk_42_method_149_code 48 = .ok (.putfield 15, 3) := by decide +kernel
theorem d33_51 : decode jdk_42_method_149_code 51 = .ok (.aload_n 0, 1) := by decide +kernel
theorem d33_52 : decode jdk_42_method_149_code 52 = .ok (.aload 5, 2) := by decide +kernel
theorem d33_54 : decode jdk_42_method_149_code 54 = .ok (.putfield 9, 3) := by decide +kernel
theorem d33_57 : decode jdk_42_method_149_code 57 = .ok (.return_, 1) := by decide +kernel
set_option maxRecDepth 65536 in
set_option maxHeartbeats 40000000 in
theorem rm33 (l : Launch) (Z : State) (a0 : Array Value) (hw : ∀ d ∈ tables_1, d.before a0 Z = true) (o0 : Addr) (o1 : Addr) (i2 : Int32) (i3 : Int32) (z4 : Value) (cs : Int32) (x0 : Value) (x1 : Value) (kc : ClassId) (ch0 : Int32) (ch1 : Int32) (ch2 : Int32) (h0 : Heap) (n0 : Nat) (Z0 : n0 ≤ h0.size) (r_z4 : z4.isRef = true) (E_o0 : Exa Z h0 o0 "java/lang/String") (F_o0_value : Fld Z h0 o0 "java/lang/String" "value" "[B" x0) (F_o0_coder : Fld Z h0 o0 "java/lang/String" "coder" "B" x1) (g_o0 : n0 ≤ o0) (V_o1 : Arv Z h0 o1 kc .char (3 : Int32) [(.int ch0), (.int ch1), (.int ch2)] (.int (0 : Int32))) (h2 : i2 = (0 : Int32)) (h3 : i3 = (3 : Int32)) (hq0 : ¬ (255 : Int32) < ch0) (hq1 : ¬ (255 : Int32) < ch1) (hq2 : ¬ (255 : Int32) < ch2) (S_COMPACT_STRINGS : Sta Z h0 "java/lang/String" "COMPACT_STRINGS" "Z" (.int cs)) (hcs : ¬ cs = (0 : Int32)) :
    Ctr l Z (⟨"java/lang/String", "<init>", "([CIILjava/lang/Void;)V"⟩ : MethodName) jdk_42_method_149_code 6 none ({ frames := 2, cells := 1, slots := 3, locals := 35 } : Room) #[(.ref o0), (.ref o1), (.int i2), (.int i3), z4] h0 n0 (fun v h' => v = none ∧ Keep h0 h' [o0] ∧ Exa Z h' o0 "java/lang/String") := by
  refine Ctr.body (L := #[.val (.ref o0), .val (.ref o1), .val (.int i2), .val (.int i3), .val z4, .unset]) (plainFor_of_name pn33) Z0 (fun m => ef33 m o0 o1 i2 i3 z4 r_z4) ?_
  intro p e F m below meth c T0 C0
  have KP : Keep h0 h0 [o0] := Keep.refl h0 _
  subst h2
  subst h3
  refine C0.aloadN d33_0 rfl rfl rfl ?_
  refine C0.initObj (hw _ (List.mem_of_getElem? (i := 15) rfl)) (hw _ (List.mem_of_getElem? (i := 16) rfl)) (hw _ (List.mem_of_getElem? (i := 17) rfl)) rfl (by decide) 0 (Nat.le_of_eq rfl) (by decide) d33_1 rfl (fun T1 C1 => ?_)
  refine C1.iloadN d33_4 rfl rfl ?_
  refine C1.if_ne d33_5 (by decide) (by decide : _ = 27) rfl (fun _ => ?_) (fun q => absurd q (by decide))
  refine C1.getS (host := "") (Or.inl (hw _ (List.mem_of_getElem? (i := 18) rfl))) Via.refl S_COMPACT_STRINGS d33_27 rfl (fun T2 C2 => ?_)
  refine C2.if_eq d33_30 (by decide) (by decide : _ = 58) rfl (fun q => absurd q hcs) (fun _ => ?_)
  refine C2.aloadN d33_33 rfl rfl rfl ?_
  refine C2.iloadN d33_34 rfl rfl ?_
  refine C2.iloadN d33_35 rfl rfl ?_
  refine C2.callS (hw _ (List.mem_of_getElem? (i := 19) rfl)) (hw _ (List.mem_of_getElem? (i := 20) rfl)) (hw _ (List.mem_of_getElem? (i := 21) rfl)) (hw _ (List.mem_of_getElem? (i := 22) rfl)) (by decide) (rm53 l Z a0 hw o1 (0 : Int32) (3 : Int32) kc ch0 ch1 ch2 h0 n0 C2.size V_o1 rfl rfl hq0 hq1 hq2) (argsL := [(.ref o1), (.int (0 : Int32)), (.int (3 : Int32))]) pd53 rfl 0 (by decide) (by decide) (by decide) (by decide) (rest := []) rfl rfl (Nat.le_of_eq rfl) d33_36 rfl (fun v3 T3 h3 C3 qq3 => ?_)
  obtain ⟨bo3, ko3, ws3, rfl, K3, p3_0, p3_1⟩ := qq3
  have ne_o0_bo3 : o0 ≠ bo3 := Nat.ne_of_lt (Nat.lt_of_lt_of_le E_o0.lt p3_1)
  have ne_o1_bo3 : o1 ≠ bo3 := Nat.ne_of_lt (Nat.lt_of_lt_of_le V_o1.lt p3_1)
  have sz_bo3 : h0.size ≤ bo3 := Nat.le_trans KP.1 p3_1
  have g_bo3 : n0 ≤ bo3 := Nat.le_trans C2.size p3_1
  have K3 := ext_keep K3
  have E_o0 := E_o0.ext K3
  have F_o0_value := F_o0_value.ext K3
  have F_o0_coder := F_o0_coder.ext K3
  have V_o1 := V_o1.ext K3
  have S_COMPACT_STRINGS := S_COMPACT_STRINGS.ext K3
  have KP := KP.ext K3
  have V_bo3 := p3_0
  show Go p e below F n0 (fun v h' => v = none ∧ Keep h0 h' [o0] ∧ Exa Z h' o0 "java/lang/String") T3 (mkF m 39 #[.val (.ref o0), .val (.ref o1), .val (.int (0 : Int32)), .val (.int (3 : Int32)), .val z4, .unset] [(.ref bo3)])
  refine C3.astore d33_39 rfl rfl (L' := #[.val (.ref o0), .val (.ref o1), .val (.int (0 : Int32)), .val (.int (3 : Int32)), .val z4, .val (.ref bo3)]) rfl ?_
  refine C3.aloadN d33_41 rfl rfl rfl ?_
  refine C3.aload d33_42 rfl rfl rfl ?_
  refine C3.iloadN d33_44 rfl rfl ?_
  refine C3.callS (hw _ (List.mem_of_getElem? (i := 27) rfl)) (hw _ (List.mem_of_getElem? (i := 28) rfl)) (hw _ (List.mem_of_getElem? (i := 21) rfl)) (hw _ (List.mem_of_getElem? (i := 29) rfl)) (by decide) (rm7 l Z a0 hw bo3 (3 : Int32) ko3 (3 : Int32) ws3 (.int (0 : Int32)) h3 n0 C3.size V_bo3) (argsL := [(.ref bo3), (.int (3 : Int32))]) pd7 rfl 1 (by decide) (by decide) (by decide) (by decide) (rest := [(.ref o0)]) rfl rfl (Nat.le_of_eq rfl) d33_45 rfl (fun v4 T4 h4 C4 qq4 => ?_)
  obtain ⟨rr4, rfl, hh4⟩ := qq4
  have hh4 := hh4.symm; subst hh4
  show Go p e below F n0 (fun v h' => v = none ∧ Keep h0 h' [o0] ∧ Exa Z h' o0 "java/lang/String") T4 (mkF m 48 #[.val (.ref o0), .val (.ref o1), .val (.int (0 : Int32)), .val (.int (3 : Int32)), .val z4, .val (.ref bo3)] [(.int rr4), (.ref o0)])
  refine C4.putFN (v' := (.int (nar .byte rr4))) (hw _ (List.mem_of_getElem? (i := 30) rfl)) Via.refl F_o0_coder E_o0 (Or.inr ⟨(hw _ (List.mem_of_getElem? (i := 31) rfl)), rfl, rfl⟩) (hw _ (List.mem_of_getElem? (i := 5) rfl)) (ty := .byte) (by decide) rfl (fits_nar_byte _) g_o0 d33_48 rfl (fun T5 h5 C5 W5 => ?_)
  have ne_o1_o0 : o1 ≠ o0 := (Ne.symm (own_nea E_o0 (hw _ (List.mem_of_getElem? (i := 5) rfl)) V_o1))
  have E_o0 := E_o0.wr W5
  have F_o0_value := F_o0_value.other W5 (Or.inr (slot_ne (Or.inr (hw _ (List.mem_of_getElem? (i := 33) rfl))) (Or.inr (hw _ (List.mem_of_getElem? (i := 31) rfl))) (by decide) (t := (.array .byte)) (t' := .byte) (by decide) (by decide)))
  have V_o1 := V_o1.other W5 ne_o1_o0
  have S_COMPACT_STRINGS := S_COMPACT_STRINGS.wr W5
  have V_bo3 := V_bo3.other W5 (Ne.symm ne_o0_bo3)
  have KP := KP.wr W5 (Or.inl (by simp))
  have F_o0_coder := F_o0_coder.same W5
  refine C5.aloadN d33_51 rfl rfl rfl ?_
  refine C5.aload d33_52 rfl rfl rfl ?_
  refine C5.putF (host := "") (Or.inl (hw _ (List.mem_of_getElem? (i := 32) rfl))) Via.refl F_o0_value E_o0 (Or.inr ⟨(hw _ (List.mem_of_getElem? (i := 33) rfl)), rfl, rfl⟩) (hw _ (List.mem_of_getElem? (i := 5) rfl)) (ty := (.array .byte)) (by decide) rfl rfl g_o0 d33_54 rfl (fun T6 h6 C6 W6 => ?_)
  have E_o0 := E_o0.wr W6
  have F_o0_coder := F_o0_coder.other W6 (Or.inr (slot_ne (Or.inr (hw _ (List.mem_of_getElem? (i := 31) rfl))) (Or.inr (hw _ (List.mem_of_getElem? (i := 33) rfl))) (by decide) (t := .byte) (t' := (.array .byte)) (by decide) (by decide)))
  have V_o1 := V_o1.other W6 ne_o1_o0
  have S_COMPACT_STRINGS := S_COMPACT_STRINGS.wr W6
  have V_bo3 := V_bo3.other W6 (Ne.symm ne_o0_bo3)
  have KP := KP.wr W6 (Or.inl (by simp))
  have F_o0_value := F_o0_value.same W6
  exact C6.retV d33_57 rfl (by decide) (by decide) ⟨rfl, KP, E_o0⟩
theorem pn23 : plainName "java/lang/String" = true := by first | (simp [plainName, overriddenIn]; done) | decide +kernel
theorem pd23 : parseMethodDescriptor "([C)V" = some ⟨[(.array .char)], none⟩ := by decide +kernel
theorem ef23 (m : MethodId) (o0 : Addr) (o1 : Addr) : entryFrame m #[(.ref o0), (.ref o1)] 2 = mkF m 0 #[.val (.ref o0), .val (.ref o1)] [] := by first | (simp [entryFrame, mkF, argsToLocals, Value.category]; done) | rfl
theorem d23_0 : decode jdk_42_method_3_code 0 = .ok (.aload_n 0, 1) := by decide +kernel
theorem d23_1 : decode jdk_42_method_3_code 1 = .ok (.aload_n 1, 1) := by decide +kernel
theorem d23_2 : decode jdk_42_method_3_code 2 = .ok (.iconst 0, 1) := by decide +kernel
theorem d23_3 : decode jdk_42_method_3_code 3 = .ok (.aload_n 1, 1) := by decide +kernel
theorem d23_4 : decode jdk_42_method_3_code 4 = .ok (.arraylength, 1) := by decide +kernel
theorem d23_5 : decode jdk_42_method_3_code 5 = .ok (.aconst_null, 1) := by decide +kernel
theorem d23_6 : decode jdk_42_method_3_code 6 = .ok (.invokespecial 27, 3) := by decide +kernel
theorem d23_9 : decode jdk_42_method_3_code 9 = .ok (.return_, 1) := by decide +kernel
set_option maxRecDepth 65536 in
set_option maxHeartbeats 40000000 in
theorem rm23 (l : Launch) (Z : State) (a0 : Array Value) (hw : ∀ d ∈ tables_1, d.before a0 Z = true) (o0 : Addr) (o1 : Addr) (cs : Int32) (x0 : Value) (x1 : Value) (kc : ClassId) (ch0 : Int32) (ch1 : Int32) (ch2 : Int32) (h0 : Heap) (n0 : Nat) (Z0 : n0 ≤ h0.size) (E_o0 : Exa Z h0 o0 "java/lang/String") (F_o0_value : Fld Z h0 o0 "java/lang/String" "value" "[B" x0) (F_o0_coder : Fld Z h0 o0 "java/lang/String" "coder" "B" x1) (g_o0 : n0 ≤ o0) (V_o1 : Arv Z h0 o1 kc .char (3 : Int32) [(.int ch0), (.int ch1), (.int ch2)] (.int (0 : Int32))) (hq0 : ¬ (255 : Int32) < ch0) (hq1 : ¬ (255 : Int32) < ch1) (hq2 : ¬ (255 : Int32) < ch2) (S_COMPACT_STRINGS : Sta Z h0 "java/lang/String" "COMPACT_STRINGS" "Z" (.int cs)) (hcs : ¬ cs = (0 : Int32)) :
    Ctr l Z (⟨"java/lang/String", "<init>", "([C)V"⟩ : MethodName) jdk_42_method_3_code 2 none ({ frames := 3, cells := 1, slots := 3, locals := 52 } : Room) #[(.ref o0), (.ref o1)] h0 n0 (fun v h' => v = none ∧ Keep h0 h' [o0] ∧ Exa Z h' o0 "java/lang/String") := by
  refine Ctr.body (L := #[.val (.ref o0), .val (.ref o1)]) (plainFor_of_name pn23) Z0 (fun m => ef23 m o0 o1) ?_
  intro p e F m below meth c T0 C0
  have KP : Keep h0 h0 [o0] := Keep.refl h0 _
  refine C0.aloadN d23_0 rfl rfl rfl ?_
  refine C0.aloadN d23_1 rfl rfl rfl ?_
  refine C0.iconst (0 : Int32) d23_2 rfl rfl ?_
  refine C0.aloadN d23_3 rfl rfl rfl ?_
  refine C0.arrlen V_o1 d23_4 rfl ?_
  refine C0.aconstNull d23_5 rfl ?_
  refine C0.callN rfl (hw _ (List.mem_of_getElem? (i := 11) rfl)) (hw _ (List.mem_of_getElem? (i := 12) rfl)) (hw _ (List.mem_of_getElem? (i := 6) rfl)) (hw _ (List.mem_of_getElem? (i := 14) rfl)) (by decide) (a := o0) (rm33 l Z a0 hw o0 o1 (0 : Int32) (3 : Int32) .null cs x0 x1 kc ch0 ch1 ch2 h0 n0 C0.size rfl E_o0 F_o0_value F_o0_coder g_o0 V_o1 rfl rfl hq0 hq1 hq2 S_COMPACT_STRINGS hcs) (argsL := [(.ref o1), (.int (0 : Int32)), (.int (3 : Int32)), .null]) pd33 rfl 0 (by decide) (by decide) (by decide) (by decide) (rest := []) rfl rfl (Nat.le_of_eq rfl) d23_6 rfl (fun v1 T1 h1 C1 qq1 => ?_)
  obtain ⟨rfl, K1, p1_0⟩ := qq1
  have ne_o1_o0 : o1 ≠ o0 := (Ne.symm (own_nea E_o0 (hw _ (List.mem_of_getElem? (i := 5) rfl)) V_o1))
  have S_COMPACT_STRINGS := own_stak S_COMPACT_STRINGS K1 (allS (own_plainE E_o0) (all0))
  have E_o0 := E_o0.keep K1
  have V_o1 := V_o1.keep K1 (ninS ne_o1_o0 nin0)
  have KP := KP.trans K1 (allS (Or.inl (by simp)) (all0))
  have E_o0 := p1_0
  show Go p e below F n0 (fun v h' => v = none ∧ Keep h0 h' [o0] ∧ Exa Z h' o0 "java/lang/String") T1 (mkF m 9 #[.val (.ref o0), .val (.ref o1)] [])
  exact C1.retV d23_9 rfl (by decide) (by decide) ⟨rfl, KP, E_o0⟩
theorem pn30 : plainName "java/lang/String" = true := by first | (simp [plainName, overriddenIn]; done) | decide +kernel
theorem pd30 : parseMethodDescriptor "([CIILjava/lang/Void;)V" = some ⟨[(.array .char), .int, .int, (.object "java/lang/Void")], none⟩ := by decide +kernel
theorem ef30 (m : MethodId) (o0 : Addr) (o1 : Addr) (i2 : Int32) (i3 : Int32) (z4 : Value) (r_z4 : z4.isRef = true) : entryFrame m #[(.ref o0), (.ref o1), (.int i2), (.int i3), z4] 6 = mkF m 0 #[.val (.ref o0), .val (.ref o1), .val (.int i2), .val (.int i3), .val z4, .unset] [] := by rcases ref_cases r_z4 with rfl | ⟨_, rfl⟩ <;> first | (simp [entryFrame, mkF, argsToLocals, Value.category]; done) | rfl
theorem d30_0 : decode jdk_42_method_149_code 0 = .ok (.aload_n 0, 1) := by decide +kernel
theorem d30_1 : decode jdk_42_method_149_code 1 = .ok (.invokespecial 1, 3) := by decide +kernel
theorem d30_4 : decode jdk_42_method_149_code 4 = .ok (.iload_n 3, 1) := by decide +kernel
theorem d30_5 : decode jdk_42_method_149_code 5 = .ok (.ifCond .ne 22, 3) := by decide +kernel
theorem d30_8 : decode jdk_42_method_149_code 8 = .ok (.aload_n 0, 1) := by decide +kernel
theorem d30_9 : decode jdk_42_method_149_code 9 = .ok (.ldc 7, 2) := by decide +kernel
theorem d30_11 : decode jdk_42_method_149_code 11 = .ok (.getfield 9, 3) := by decide +kernel
theorem d30_14 : decode jdk_42_method_149_code 14 = .ok (.putfield 9, 3) := by decide +kernel
theorem d30_17 : decode jdk_42_method_149_code 17 = .ok (.aload_n 0, 1) := by decide +kernel
theorem d30_18 : decode jdk_42_method_149_code 18 = .ok (.ldc 7, 2) := by decide +kernel
theorem d30_20 : decode jdk_42_method_149_code 20 = .ok (.getfield 15, 3) := by decide +kernel
theorem d30_23 : decode jdk_42_method_149_code 23 = .ok (.putfield 15, 3) := by decide +kernel
theorem d30_26 : decode jdk_42_method_149_code 26 = .ok (.return_, 1) := by decide +kernel
set_option maxRecDepth 65536 in
set_option maxHeartbeats 40000000 in
theorem rm30 (l : Launch) (Z : State) (a0 : Array Value) (hw : ∀ d ∈ tables_1, d.before a0 Z = true) (o0 : Addr) (o1 : Addr) (i2 : Int32) (i3 : Int32) (z4 : Value) (x1 : Value) (kc : ClassId) (h0 : Heap) (n0 : Nat) (Z0 : n0 ≤ h0.size) (r_z4 : z4.isRef = true) (E_o0 : Exa Z h0 o0 "java/lang/String") (F_o0_value : Fld Z h0 o0 "java/lang/String" "value" "[B" .null) (F_o0_coder : Fld Z h0 o0 "java/lang/String" "coder" "B" x1) (g_o0 : n0 ≤ o0) (V_o1 : Arv Z h0 o1 kc .char (0 : Int32) [] (.int (0 : Int32))) (h2 : i2 = (0 : Int32)) (h3 : i3 = (0 : Int32)) (X_Z : Ext Z.heap h0) (hheld : Jvm.Lit.constHeld Z "java/lang/String" 7) (hcw : Jvm.Lit.compactW.before a0 Z = true) :
    CtrW l Z (⟨"java/lang/String", "<init>", "([CIILjava/lang/Void;)V"⟩ : MethodName) jdk_42_method_149_code 6 none ({ frames := 1, cells := 2, slots := 4, locals := 12 } : Room) #[(.ref o0), (.ref o1), (.int i2), (.int i3), z4] h0 n0 (fun v h' => v = none ∧ Keep h0 h' [o0] ∧ Exa Z h' o0 "java/lang/String") := by
  refine CtrW.body (L := #[.val (.ref o0), .val (.ref o1), .val (.int i2), .val (.int i3), .val z4, .unset]) (plainFor_of_name pn30) Z0 (fun m => ef30 m o0 o1 i2 i3 z4 r_z4) ?_
  intro p e F m below meth c T0 C0
  have KP : Keep h0 h0 [o0] := Keep.refl h0 _
  have D0 := C0.cx
  subst h2
  subst h3
  refine D0.aloadN d30_0 rfl rfl rfl ?_
  refine C0.initObj (hw _ (List.mem_of_getElem? (i := 15) rfl)) (hw _ (List.mem_of_getElem? (i := 16) rfl)) (hw _ (List.mem_of_getElem? (i := 17) rfl)) rfl (by decide) 0 (Nat.le_of_eq rfl) (by decide) d30_1 rfl (fun T1 C1 => ?_)
  have D1 := C1.cx
  refine D1.iloadN d30_4 rfl rfl ?_
  refine D1.if_ne d30_5 (by decide) (by decide : _ = 27) rfl (fun q => absurd (by decide) q) (fun _ => ?_)
  refine D1.aloadN d30_8 rfl rfl rfl ?_
  refine C1.ldcHeld (text := "") (vs := []) (z := (0 : Int32)) (hw _ (List.mem_of_getElem? (i := 101) rfl)) (own_wS hw) hheld hcw X_Z ⟨(fun c hc => absurd hc (by first | simp | decide)), (by first | rfl | simp)⟩ (by decide) rfl 0 (by decide) (by decide) (by decide) (by decide) d30_9 rfl (fun sa2 sb2 T2 h2 C2 E2 Ea2 Fc2 Fv2 => ?_)
  have X_Z := ext_trans X_Z E2
  have E_o0 := E_o0.ext E2
  have F_o0_value := F_o0_value.ext E2
  have F_o0_coder := F_o0_coder.ext E2
  have V_o1 := V_o1.ext E2
  have KP := KP.ext E2
  have E_sa2 := Ea2
  have F_sa2_coder := Fc2
  have F_sa2_value := Fv2
  have ne_sa2_o0 : sa2 ≠ o0 := Fld.ne F_sa2_value F_o0_value (fun q => by cases q)
  refine C2.getF (host := "") (Or.inl (hw _ (List.mem_of_getElem? (i := 32) rfl))) Via.refl F_sa2_value d30_11 rfl (fun T3 C3 => ?_)
  refine C3.putF (host := "") (Or.inl (hw _ (List.mem_of_getElem? (i := 32) rfl))) Via.refl F_o0_value E_o0 (Or.inr ⟨(hw _ (List.mem_of_getElem? (i := 33) rfl)), rfl, rfl⟩) (hw _ (List.mem_of_getElem? (i := 5) rfl)) (ty := (.array .byte)) (by decide) rfl rfl g_o0 d30_14 rfl (fun T4 h4 C4 W4 => ?_)
  have ne_o1_o0 : o1 ≠ o0 := (Ne.symm (own_nea E_o0 (hw _ (List.mem_of_getElem? (i := 5) rfl)) V_o1))
  have E_o0 := E_o0.wr W4
  have F_o0_coder := F_o0_coder.other W4 (Or.inr (slot_ne (Or.inr (hw _ (List.mem_of_getElem? (i := 31) rfl))) (Or.inr (hw _ (List.mem_of_getElem? (i := 33) rfl))) (by decide) (t := .byte) (t' := (.array .byte)) (by decide) (by decide)))
  have V_o1 := V_o1.other W4 ne_o1_o0
  have E_sa2 := E_sa2.wr W4
  have F_sa2_coder := F_sa2_coder.other W4 (Or.inl ne_sa2_o0)
  have F_sa2_value := F_sa2_value.other W4 (Or.inl ne_sa2_o0)
  have KP := KP.wr W4 (Or.inl (by simp))
  have F_o0_value := F_o0_value.same W4
  refine C4.aloadN d30_17 rfl rfl rfl ?_
  refine C4.ldcLit (text := "") (hw _ (List.mem_of_getElem? (i := 101) rfl)) d30_18 rfl ?_
  refine C4.getF (host := "") (Or.inl (hw _ (List.mem_of_getElem? (i := 30) rfl))) Via.refl F_sa2_coder d30_20 rfl (fun T5 C5 => ?_)
  refine C5.putFN (v' := (.int (0 : Int32))) (hw _ (List.mem_of_getElem? (i := 30) rfl)) Via.refl F_o0_coder E_o0 (Or.inr ⟨(hw _ (List.mem_of_getElem? (i := 31) rfl)), rfl, rfl⟩) (hw _ (List.mem_of_getElem? (i := 5) rfl)) (ty := .byte) (by decide) rfl rfl g_o0 d30_23 rfl (fun T6 h6 C6 W6 => ?_)
  have E_o0 := E_o0.wr W6
  have F_o0_value := F_o0_value.other W6 (Or.inr (slot_ne (Or.inr (hw _ (List.mem_of_getElem? (i := 33) rfl))) (Or.inr (hw _ (List.mem_of_getElem? (i := 31) rfl))) (by decide) (t := (.array .byte)) (t' := .byte) (by decide) (by decide)))
  have V_o1 := V_o1.other W6 ne_o1_o0
  have E_sa2 := E_sa2.wr W6
  have F_sa2_coder := F_sa2_coder.other W6 (Or.inl ne_sa2_o0)
  have F_sa2_value := F_sa2_value.other W6 (Or.inl ne_sa2_o0)
  have KP := KP.wr W6 (Or.inl (by simp))
  have F_o0_coder := F_o0_coder.same W6
  exact C6.retV d30_26 rfl (by decide) (by decide) ⟨rfl, KP, E_o0⟩
theorem pn20 : plainName "java/lang/String" = true := by first | (simp [plainName, overriddenIn]; done) | decide +kernel
theorem pd20 : parseMethodDescriptor "([C)V" = some ⟨[(.array .char)], none⟩ := by decide +kernel
theorem ef20 (m : MethodId) (o0 : Addr) (o1 : Addr) : entryFrame m #[(.ref o0), (.ref o1)] 2 = mkF m 0 #[.val (.ref o0), .val (.ref o1)] [] := by first | (simp [entryFrame, mkF, argsToLocals, Value.category]; done) | rfl
theorem d20_0 : decode jdk_42_method_3_code 0 = .ok (.aload_n 0, 1) := by decide +kernel
theorem d20_1 : decode jdk_42_method_3_code 1 = .ok (.aload_n 1, 1) := by decide +kernel
theorem d20_2 : decode jdk_42_method_3_code 2 = .ok (.iconst 0, 1) := by decide +kernel
theorem d20_3 : decode jdk_42_method_3_code 3 = .ok (.aload_n 1, 1) := by decide +kernel
theorem d20_4 : decode jdk_42_method_3_code 4 = .ok (.arraylength, 1) := by decide +kernel
theorem d20_5 : decode jdk_42_method_3_code 5 = .ok (.aconst_null, 1) := by decide +kernel
theorem d20_6 : decode jdk_42_method_3_code 6 = .ok (.invokespecial 27, 3) := by decide +kernel
theorem d20_9 : decode jdk_42_method_3_code 9 = .ok (.return_, 1) := by decide +kernel
set_option maxRecDepth 65536 in
set_option maxHeartbeats 40000000 in
theorem rm20 (l : Launch) (Z : State) (a0 : Array Value) (hw : ∀ d ∈ tables_1, d.before a0 Z = true) (o0 : Addr) (o1 : Addr) (x1 : Value) (kc : ClassId) (h0 : Heap) (n0 : Nat) (Z0 : n0 ≤ h0.size) (E_o0 : Exa Z h0 o0 "java/lang/String") (F_o0_value : Fld Z h0 o0 "java/lang/String" "value" "[B" .null) (F_o0_coder : Fld Z h0 o0 "java/lang/String" "coder" "B" x1) (g_o0 : n0 ≤ o0) (V_o1 : Arv Z h0 o1 kc .char (0 : Int32) [] (.int (0 : Int32))) (X_Z : Ext Z.heap h0) (hheld : Jvm.Lit.constHeld Z "java/lang/String" 7) (hcw : Jvm.Lit.compactW.before a0 Z = true) :
    CtrW l Z (⟨"java/lang/String", "<init>", "([C)V"⟩ : MethodName) jdk_42_method_3_code 2 none ({ frames := 2, cells := 2, slots := 4, locals := 29 } : Room) #[(.ref o0), (.ref o1)] h0 n0 (fun v h' => v = none ∧ Keep h0 h' [o0] ∧ Exa Z h' o0 "java/lang/String") := by
  refine CtrW.body (L := #[.val (.ref o0), .val (.ref o1)]) (plainFor_of_name pn20) Z0 (fun m => ef20 m o0 o1) ?_
  intro p e F m below meth c T0 C0
  have KP : Keep h0 h0 [o0] := Keep.refl h0 _
  have D0 := C0.cx
  refine D0.aloadN d20_0 rfl rfl rfl ?_
  refine D0.aloadN d20_1 rfl rfl rfl ?_
  refine D0.iconst (0 : Int32) d20_2 rfl rfl ?_
  refine D0.aloadN d20_3 rfl rfl rfl ?_
  refine D0.arrlen V_o1 d20_4 rfl ?_
  refine D0.aconstNull d20_5 rfl ?_
  refine D0.callNW rfl (hw _ (List.mem_of_getElem? (i := 11) rfl)) (hw _ (List.mem_of_getElem? (i := 12) rfl)) (hw _ (List.mem_of_getElem? (i := 6) rfl)) (hw _ (List.mem_of_getElem? (i := 14) rfl)) (by decide) (a := o0) (rm30 l Z a0 hw o0 o1 (0 : Int32) (0 : Int32) .null x1 kc h0 n0 D0.size rfl E_o0 F_o0_value F_o0_coder g_o0 V_o1 rfl rfl X_Z hheld hcw) (argsL := [(.ref o1), (.int (0 : Int32)), (.int (0 : Int32)), .null]) pd30 rfl 0 (by decide) (by decide) (by decide) (by decide) (rest := []) rfl rfl (Nat.le_of_eq rfl) d20_6 rfl (fun v1 T1 h1 C1 qq1 => ?_)
  obtain ⟨rfl, K1, p1_0⟩ := qq1
  have ne_o1_o0 : o1 ≠ o0 := (Ne.symm (own_nea E_o0 (hw _ (List.mem_of_getElem? (i := 5) rfl)) V_o1))
  have E_o0 := E_o0.keep K1
  have V_o1 := V_o1.keep K1 (ninS ne_o1_o0 nin0)
  have KP := KP.trans K1 (allS (Or.inl (by simp)) (all0))
  have E_o0 := p1_0
  show Go p e below F n0 (fun v h' => v = none ∧ Keep h0 h' [o0] ∧ Exa Z h' o0 "java/lang/String") T1 (mkF m 9 #[.val (.ref o0), .val (.ref o1)] [])
  exact C1.retV d20_9 rfl (by decide) (by decide) ⟨rfl, KP, E_o0⟩
theorem pn1 : plainName "com/example/bouncer/bouncer/cli/ArgumentsRequiredOutputPinLaw" = true := by first | (simp [plainName, overriddenIn]; done) | decide +kernel
theorem pd1 : parseMethodDescriptor "(ICCC)Ljava/lang/String;" = some ⟨[.int, .char, .char, .char], some (.object "java/lang/String")⟩ := by decide +kernel
theorem ef1 (m : MethodId) (i0 : Int32) (i1 : Int32) (i2 : Int32) (i3 : Int32) : entryFrame m #[(.int i0), (.int i1), (.int i2), (.int i3)] 4 = mkF m 0 #[.val (.int i0), .val (.int i1), .val (.int i2), .val (.int i3)] [] := by first | (simp [entryFrame, mkF, argsToLocals, Value.category]; done) | rfl
theorem d1_0 : decode method_2_code 0 = .ok (.iload_n 0, 1) := by decide +kernel
theorem d1_1 : decode method_2_code 1 = .ok (.ifCond .ne 14, 3) := by decide +kernel
theorem d1_4 : decode method_2_code 4 = .ok (.new 7, 3) := by decide +kernel
theorem d1_7 : decode method_2_code 7 = .ok (.dup, 1) := by decide +kernel
theorem d1_8 : decode method_2_code 8 = .ok (.iconst 0, 1) := by decide +kernel
theorem d1_9 : decode method_2_code 9 = .ok (.newarray .char, 2) := by decide +kernel
theorem d1_11 : decode method_2_code 11 = .ok (.invokespecial 9, 3) := by decide +kernel
theorem d1_14 : decode method_2_code 14 = .ok (.areturn, 1) := by decide +kernel
theorem d1_15 : decode method_2_code 15 = .ok (.iload_n 0, 1) := by decide +kernel
theorem d1_16 : decode method_2_code 16 = .ok (.iconst 1, 1) := by decide +kernel
theorem d1_17 : decode method_2_code 17 = .ok (.if_icmp .ne 18, 3) := by decide +kernel
theorem d1_20 : decode method_2_code 20 = .ok (.new 7, 3) := by decide +kernel
theorem d1_23 : decode method_2_code 23 = .ok (.dup, 1) := by decide +kernel
theorem d1_24 : decode method_2_code 24 = .ok (.iconst 1, 1) := by decide +kernel
theorem d1_25 : decode method_2_code 25 = .ok (.newarray .char, 2) := by decide +kernel
theorem d1_27 : decode method_2_code 27 = .ok (.dup, 1) := by decide +kernel
theorem d1_28 : decode method_2_code 28 = .ok (.iconst 0, 1) := by decide +kernel
theorem d1_29 : decode method_2_code 29 = .ok (.iload_n 1, 1) := by decide +kernel
theorem d1_30 : decode method_2_code 30 = .ok (.castore, 1) := by decide +kernel
theorem d1_31 : decode method_2_code 31 = .ok (.invokespecial 9, 3) := by decide +kernel
theorem d1_34 : decode method_2_code 34 = .ok (.areturn, 1) := by decide +kernel
theorem d1_35 : decode method_2_code 35 = .ok (.iload_n 0, 1) := by decide +kernel
theorem d1_36 : decode method_2_code 36 = .ok (.iconst 2, 1) := by decide +kernel
theorem d1_37 : decode method_2_code 37 = .ok (.if_icmp .ne 22, 3) := by decide +kernel
theorem d1_40 : decode method_2_code 40 = .ok (.new 7, 3) := by decide +kernel
theorem d1_43 : decode method_2_code 43 = .ok (.dup, 1) := by decide +kernel
theorem d1_44 : decode method_2_code 44 = .ok (.iconst 2, 1) := by decide +kernel
theorem d1_45 : decode method_2_code 45 = .ok (.newarray .char, 2) := by decide +kernel
theorem d1_47 : decode method_2_code 47 = .ok (.dup, 1) := by decide +kernel
theorem d1_48 : decode method_2_code 48 = .ok (.iconst 0, 1) := by decide +kernel
theorem d1_49 : decode method_2_code 49 = .ok (.iload_n 1, 1) := by decide +kernel
theorem d1_50 : decode method_2_code 50 = .ok (.castore, 1) := by decide +kernel
theorem d1_51 : decode method_2_code 51 = .ok (.dup, 1) := by decide +kernel
theorem d1_52 : decode method_2_code 52 = .ok (.iconst 1, 1) := by decide +kernel
theorem d1_53 : decode method_2_code 53 = .ok (.iload_n 2, 1) := by decide +kernel
theorem d1_54 : decode method_2_code 54 = .ok (.castore, 1) := by decide +kernel
theorem d1_55 : decode method_2_code 55 = .ok (.invokespecial 9, 3) := by decide +kernel
theorem d1_58 : decode method_2_code 58 = .ok (.areturn, 1) := by decide +kernel
theorem d1_59 : decode method_2_code 59 = .ok (.new 7, 3) := by decide +kernel
theorem d1_62 : decode method_2_code 62 = .ok (.dup, 1) := by decide +kernel
theorem d1_63 : decode method_2_code 63 = .ok (.iconst 3, 1) := by decide +kernel
theorem d1_64 : decode method_2_code 64 = .ok (.newarray .char, 2) := by decide +kernel
theorem d1_66 : decode method_2_code 66 = .ok (.dup, 1) := by decide +kernel
theorem d1_67 : decode method_2_code 67 = .ok (.iconst 0, 1) := by decide +kernel
theorem d1_68 : decode method_2_code 68 = .ok (.iload_n 1, 1) := by decide +kernel
theorem d1_69 : decode method_2_code 69 = .ok (.castore, 1) := by decide +kernel
theorem d1_70 : decode method_2_code 70 = .ok (.dup, 1) := by decide +kernel
theorem d1_71 : decode method_2_code 71 = .ok (.iconst 1, 1) := by decide +kernel
theorem d1_72 : decode method_2_code 72 = .ok (.iload_n 2, 1) := by decide +kernel
theorem d1_73 : decode method_2_code 73 = .ok (.castore, 1) := by decide +kernel
theorem d1_74 : decode method_2_code 74 = .ok (.dup, 1) := by decide +kernel
theorem d1_75 : decode method_2_code 75 = .ok (.iconst 2, 1) := by decide +kernel
theorem d1_76 : decode method_2_code 76 = .ok (.iload_n 3, 1) := by decide +kernel
theorem d1_77 : decode method_2_code 77 = .ok (.castore, 1) := by decide +kernel
theorem d1_78 : decode method_2_code 78 = .ok (.invokespecial 9, 3) := by decide +kernel
theorem d1_81 : decode method_2_code 81 = .ok (.areturn, 1) := by decide +kernel
set_option maxRecDepth 65536 in
set_option maxHeartbeats 40000000 in
theorem rm1 (l : Launch) (Z : State) (a0 : Array Value) (hw : ∀ d ∈ tables_1, d.before a0 Z = true) (i0 : Int32) (i1 : Int32) (i2 : Int32) (i3 : Int32) (cs : Int32) (h0 : Heap) (n0 : Nat) (Z0 : n0 ≤ h0.size) (S_COMPACT_STRINGS : Sta Z h0 "java/lang/String" "COMPACT_STRINGS" "Z" (.int cs)) (hcs : ¬ cs = (0 : Int32)) (X_Z : Ext Z.heap h0) (hheld : Jvm.Lit.constHeld Z "java/lang/String" 7) (hcw : Jvm.Lit.compactW.before a0 Z = true) (hc1 : ¬ (255 : Int32) < (nar .char i1)) (hc2 : ¬ (255 : Int32) < (nar .char i2)) (hc3 : ¬ (255 : Int32) < (nar .char i3)) :
    CtrW l Z (⟨"com/example/bouncer/bouncer/cli/ArgumentsRequiredOutputPinLaw", "str", "(ICCC)Ljava/lang/String;"⟩ : MethodName) method_2_code 4 (some (.object "java/lang/String")) ({ frames := 4, cells := 4, slots := 10, locals := 66 } : Room) #[(.int i0), (.int i1), (.int i2), (.int i3)] h0 n0 (fun v h' => ∃ bz : Addr, v = some (.ref bz) ∧ Keep h0 h' [] ∧ Exa Z h' bz "java/lang/String" ∧ n0 ≤ bz) := by
  refine CtrW.body (L := #[.val (.int i0), .val (.int i1), .val (.int i2), .val (.int i3)]) (plainFor_of_name pn1) Z0 (fun m => ef1 m i0 i1 i2 i3) ?_
  intro p e F m below meth c T0 C0
  have KP : Keep h0 h0 [] := Keep.refl h0 _
  have D0 := C0.cx
  refine D0.iloadN d1_0 rfl rfl ?_
  refine D0.if_ne d1_1 (by decide) (by decide : _ = 15) rfl (fun c1 => ?_) (fun c1 => ?_)
  · refine D0.iloadN d1_15 rfl rfl ?_
    refine D0.iconst (1 : Int32) d1_16 rfl rfl ?_
    refine D0.icmp_ne d1_17 (by decide) (by decide : _ = 35) rfl (fun c17 => ?_) (fun c17 => ?_)
    · refine D0.iloadN d1_35 rfl rfl ?_
      refine D0.iconst (2 : Int32) d1_36 rfl rfl ?_
      refine D0.icmp_ne d1_37 (by decide) (by decide : _ = 59) rfl (fun c37 => ?_) (fun c37 => ?_)
      · refine D0.new (hw _ (List.mem_of_getElem? (i := 4) rfl)) (hw _ (List.mem_of_getElem? (i := 5) rfl)) (hw _ (List.mem_of_getElem? (i := 6) rfl)) d1_59 rfl (by decide) (by decide) (fun T1 h1 b1 C1 e1 g_b1 E1 E_b1 D1 => ?_)
        have sz_b1 : h0.size ≤ b1 := Nat.le_trans KP.1 (Nat.le_of_eq e1.symm)
        have X_Z := ext_trans X_Z E1
        have S_COMPACT_STRINGS := S_COMPACT_STRINGS.ext E1
        have KP := KP.ext E1
        have F_b1_coder : Fld Z h1 b1 "java/lang/String" "coder" "B" (.int (0 : Int32)) := D1 (Or.inr (hw _ (List.mem_of_getElem? (i := 31) rfl))) (ty := .byte) (by decide)
        have F_b1_value : Fld Z h1 b1 "java/lang/String" "value" "[B" .null := D1 (Or.inr (hw _ (List.mem_of_getElem? (i := 33) rfl))) (ty := (.array .byte)) (by decide)
        refine C1.dup d1_62 rfl rfl ?_
        refine C1.iconst (3 : Int32) d1_63 rfl rfl ?_
        refine C1.newarr (hw _ (List.mem_of_getElem? (i := 7) rfl)) 3 (by decide) (by decide) (by decide) (by decide) (by decide) d1_64 rfl (fun T2 h2 b2 k2 C2 e2 g_b2 E2 V_b2 => ?_)
        have ne_b1_b2 : b1 ≠ b2 := Nat.ne_of_lt (Nat.lt_of_lt_of_eq E_b1.lt e2.symm)
        have sz_b2 : h0.size ≤ b2 := Nat.le_trans KP.1 (Nat.le_of_eq e2.symm)
        have X_Z := ext_trans X_Z E2
        have S_COMPACT_STRINGS := S_COMPACT_STRINGS.ext E2
        have E_b1 := E_b1.ext E2
        have F_b1_coder := F_b1_coder.ext E2
        have F_b1_value := F_b1_value.ext E2
        have KP := KP.ext E2
        have V_b2 : Arv Z h2 b2 k2 .char (3 : Int32) [(.int (0 : Int32)), (.int (0 : Int32)), (.int (0 : Int32))] (.int (0 : Int32)) := V_b2
        refine C2.dup d1_66 rfl rfl ?_
        refine C2.iconst (0 : Int32) d1_67 rfl rfl ?_
        refine C2.iloadN d1_68 rfl rfl ?_
        refine C2.castore V_b2 ⟨by decide, by decide⟩ (Nat.le_of_ble_eq_true rfl) g_b2 d1_69 rfl (fun T3 h3 C3 W3 Vn3 => ?_)
        have S_COMPACT_STRINGS := S_COMPACT_STRINGS.wr W3
        have E_b1 := E_b1.wr W3
        have F_b1_coder := F_b1_coder.other W3 (Or.inl ne_b1_b2)
        have F_b1_value := F_b1_value.other W3 (Or.inl ne_b1_b2)
        have KP := KP.wr W3 (Or.inr sz_b2)
        have V_b2 : Arv Z h3 b2 k2 .char (3 : Int32) [(.int (nar .char i1)), (.int (0 : Int32)), (.int (0 : Int32))] (.int (0 : Int32)) := Vn3
        refine C3.dup d1_70 rfl rfl ?_
        refine C3.iconst (1 : Int32) d1_71 rfl rfl ?_
        refine C3.iloadN d1_72 rfl rfl ?_
        refine C3.castore V_b2 ⟨by decide, by decide⟩ (Nat.le_of_ble_eq_true rfl) g_b2 d1_73 rfl (fun T4 h4 C4 W4 Vn4 => ?_)
        have S_COMPACT_STRINGS := S_COMPACT_STRINGS.wr W4
        have E_b1 := E_b1.wr W4
        have F_b1_coder := F_b1_coder.other W4 (Or.inl ne_b1_b2)
        have F_b1_value := F_b1_value.other W4 (Or.inl ne_b1_b2)
        have KP := KP.wr W4 (Or.inr sz_b2)
        have V_b2 : Arv Z h4 b2 k2 .char (3 : Int32) [(.int (nar .char i1)), (.int (nar .char i2)), (.int (0 : Int32))] (.int (0 : Int32)) := Vn4
        refine C4.dup d1_74 rfl rfl ?_
        refine C4.iconst (2 : Int32) d1_75 rfl rfl ?_
        refine C4.iloadN d1_76 rfl rfl ?_
        refine C4.castore V_b2 ⟨by decide, by decide⟩ (Nat.le_of_ble_eq_true rfl) g_b2 d1_77 rfl (fun T5 h5 C5 W5 Vn5 => ?_)
        have S_COMPACT_STRINGS := S_COMPACT_STRINGS.wr W5
        have E_b1 := E_b1.wr W5
        have F_b1_coder := F_b1_coder.other W5 (Or.inl ne_b1_b2)
        have F_b1_value := F_b1_value.other W5 (Or.inl ne_b1_b2)
        have KP := KP.wr W5 (Or.inr sz_b2)
        have V_b2 : Arv Z h5 b2 k2 .char (3 : Int32) [(.int (nar .char i1)), (.int (nar .char i2)), (.int (nar .char i3))] (.int (0 : Int32)) := Vn5
        refine C5.callN rfl (hw _ (List.mem_of_getElem? (i := 8) rfl)) (hw _ (List.mem_of_getElem? (i := 9) rfl)) (hw _ (List.mem_of_getElem? (i := 6) rfl)) (hw _ (List.mem_of_getElem? (i := 10) rfl)) (by decide) (a := b1) (rm23 l Z a0 hw b1 b2 cs .null (.int (0 : Int32)) k2 (nar .char i1) (nar .char i2) (nar .char i3) h5 n0 C5.size E_b1 F_b1_value F_b1_coder g_b1 V_b2 hc1 hc2 hc3 S_COMPACT_STRINGS hcs) (argsL := [(.ref b2)]) pd23 rfl 1 (by decide) (by decide) (by decide) (by decide) (rest := [(.ref b1)]) rfl rfl (Nat.le_of_eq rfl) d1_78 rfl (fun v6 T6 h6 C6 qq6 => ?_)
        obtain ⟨rfl, K6, p6_0⟩ := qq6
        have S_COMPACT_STRINGS := own_stak S_COMPACT_STRINGS K6 (allS (own_plainE E_b1) (all0))
        have E_b1 := E_b1.keep K6
        have V_b2 := V_b2.keep K6 (ninS (Ne.symm ne_b1_b2) nin0)
        have KP := KP.trans K6 (allS (Or.inr sz_b1) (all0))
        have E_b1 := p6_0
        show Go p e below F n0 (fun v h' => ∃ bz : Addr, v = some (.ref bz) ∧ Keep h0 h' [] ∧ Exa Z h' bz "java/lang/String" ∧ n0 ≤ bz) T6 (mkF m 81 #[.val (.int i0), .val (.int i1), .val (.int i2), .val (.int i3)] [(.ref b1)])
        exact C6.retA d1_81 rfl rfl rfl (by decide) (by decide) ⟨b1, rfl, KP, E_b1, g_b1⟩
      · refine D0.new (hw _ (List.mem_of_getElem? (i := 4) rfl)) (hw _ (List.mem_of_getElem? (i := 5) rfl)) (hw _ (List.mem_of_getElem? (i := 6) rfl)) d1_40 rfl (by decide) (by decide) (fun T7 h7 b7 C7 e7 g_b7 E7 E_b7 D7 => ?_)
        have sz_b7 : h0.size ≤ b7 := Nat.le_trans KP.1 (Nat.le_of_eq e7.symm)
        have X_Z := ext_trans X_Z E7
        have S_COMPACT_STRINGS := S_COMPACT_STRINGS.ext E7
        have KP := KP.ext E7
        have F_b7_coder : Fld Z h7 b7 "java/lang/String" "coder" "B" (.int (0 : Int32)) := D7 (Or.inr (hw _ (List.mem_of_getElem? (i := 31) rfl))) (ty := .byte) (by decide)
        have F_b7_value : Fld Z h7 b7 "java/lang/String" "value" "[B" .null := D7 (Or.inr (hw _ (List.mem_of_getElem? (i := 33) rfl))) (ty := (.array .byte)) (by decide)
        refine C7.dup d1_43 rfl rfl ?_
        refine C7.iconst (2 : Int32) d1_44 rfl rfl ?_
        refine C7.newarr (hw _ (List.mem_of_getElem? (i := 7) rfl)) 2 (by decide) (by decide) (by decide) (by decide) (by decide) d1_45 rfl (fun T8 h8 b8 k8 C8 e8 g_b8 E8 V_b8 => ?_)
        have ne_b7_b8 : b7 ≠ b8 := Nat.ne_of_lt (Nat.lt_of_lt_of_eq E_b7.lt e8.symm)
        have sz_b8 : h0.size ≤ b8 := Nat.le_trans KP.1 (Nat.le_of_eq e8.symm)
        have X_Z := ext_trans X_Z E8
        have S_COMPACT_STRINGS := S_COMPACT_STRINGS.ext E8
        have E_b7 := E_b7.ext E8
        have F_b7_coder := F_b7_coder.ext E8
        have F_b7_value := F_b7_value.ext E8
        have KP := KP.ext E8
        have V_b8 : Arv Z h8 b8 k8 .char (2 : Int32) [(.int (0 : Int32)), (.int (0 : Int32))] (.int (0 : Int32)) := V_b8
        refine C8.dup d1_47 rfl rfl ?_
        refine C8.iconst (0 : Int32) d1_48 rfl rfl ?_
        refine C8.iloadN d1_49 rfl rfl ?_
        refine C8.castore V_b8 ⟨by decide, by decide⟩ (Nat.le_of_ble_eq_true rfl) g_b8 d1_50 rfl (fun T9 h9 C9 W9 Vn9 => ?_)
        have S_COMPACT_STRINGS := S_COMPACT_STRINGS.wr W9
        have E_b7 := E_b7.wr W9
        have F_b7_coder := F_b7_coder.other W9 (Or.inl ne_b7_b8)
        have F_b7_value := F_b7_value.other W9 (Or.inl ne_b7_b8)
        have KP := KP.wr W9 (Or.inr sz_b8)
        have V_b8 : Arv Z h9 b8 k8 .char (2 : Int32) [(.int (nar .char i1)), (.int (0 : Int32))] (.int (0 : Int32)) := Vn9
        refine C9.dup d1_51 rfl rfl ?_
        refine C9.iconst (1 : Int32) d1_52 rfl rfl ?_
        refine C9.iloadN d1_53 rfl rfl ?_
        refine C9.castore V_b8 ⟨by decide, by decide⟩ (Nat.le_of_ble_eq_true rfl) g_b8 d1_54 rfl (fun T10 h10 C10 W10 Vn10 => ?_)
        have S_COMPACT_STRINGS := S_COMPACT_STRINGS.wr W10
        have E_b7 := E_b7.wr W10
        have F_b7_coder := F_b7_coder.other W10 (Or.inl ne_b7_b8)
        have F_b7_value := F_b7_value.other W10 (Or.inl ne_b7_b8)
        have KP := KP.wr W10 (Or.inr sz_b8)
        have V_b8 : Arv Z h10 b8 k8 .char (2 : Int32) [(.int (nar .char i1)), (.int (nar .char i2))] (.int (0 : Int32)) := Vn10
        refine C10.callN rfl (hw _ (List.mem_of_getElem? (i := 8) rfl)) (hw _ (List.mem_of_getElem? (i := 9) rfl)) (hw _ (List.mem_of_getElem? (i := 6) rfl)) (hw _ (List.mem_of_getElem? (i := 10) rfl)) (by decide) (a := b7) (rm22 l Z a0 hw b7 b8 cs .null (.int (0 : Int32)) k8 (nar .char i1) (nar .char i2) h10 n0 C10.size E_b7 F_b7_value F_b7_coder g_b7 V_b8 hc1 hc2 S_COMPACT_STRINGS hcs) (argsL := [(.ref b8)]) pd22 rfl 1 (by decide) (by decide) (by decide) (by decide) (rest := [(.ref b7)]) rfl rfl (Nat.le_of_eq rfl) d1_55 rfl (fun v11 T11 h11 C11 qq11 => ?_)
        obtain ⟨rfl, K11, p11_0⟩ := qq11
        have S_COMPACT_STRINGS := own_stak S_COMPACT_STRINGS K11 (allS (own_plainE E_b7) (all0))
        have E_b7 := E_b7.keep K11
        have V_b8 := V_b8.keep K11 (ninS (Ne.symm ne_b7_b8) nin0)
        have KP := KP.trans K11 (allS (Or.inr sz_b7) (all0))
        have E_b7 := p11_0
        show Go p e below F n0 (fun v h' => ∃ bz : Addr, v = some (.ref bz) ∧ Keep h0 h' [] ∧ Exa Z h' bz "java/lang/String" ∧ n0 ≤ bz) T11 (mkF m 58 #[.val (.int i0), .val (.int i1), .val (.int i2), .val (.int i3)] [(.ref b7)])
        exact C11.retA d1_58 rfl rfl rfl (by decide) (by decide) ⟨b7, rfl, KP, E_b7, g_b7⟩
    · refine D0.new (hw _ (List.mem_of_getElem? (i := 4) rfl)) (hw _ (List.mem_of_getElem? (i := 5) rfl)) (hw _ (List.mem_of_getElem? (i := 6) rfl)) d1_20 rfl (by decide) (by decide) (fun T12 h12 b12 C12 e12 g_b12 E12 E_b12 D12 => ?_)
      have sz_b12 : h0.size ≤ b12 := Nat.le_trans KP.1 (Nat.le_of_eq e12.symm)
      have X_Z := ext_trans X_Z E12
      have S_COMPACT_STRINGS := S_COMPACT_STRINGS.ext E12
      have KP := KP.ext E12
      have F_b12_coder : Fld Z h12 b12 "java/lang/String" "coder" "B" (.int (0 : Int32)) := D12 (Or.inr (hw _ (List.mem_of_getElem? (i := 31) rfl))) (ty := .byte) (by decide)
      have F_b12_value : Fld Z h12 b12 "java/lang/String" "value" "[B" .null := D12 (Or.inr (hw _ (List.mem_of_getElem? (i := 33) rfl))) (ty := (.array .byte)) (by decide)
      refine C12.dup d1_23 rfl rfl ?_
      refine C12.iconst (1 : Int32) d1_24 rfl rfl ?_
      refine C12.newarr (hw _ (List.mem_of_getElem? (i := 7) rfl)) 1 (by decide) (by decide) (by decide) (by decide) (by decide) d1_25 rfl (fun T13 h13 b13 k13 C13 e13 g_b13 E13 V_b13 => ?_)
      have ne_b12_b13 : b12 ≠ b13 := Nat.ne_of_lt (Nat.lt_of_lt_of_eq E_b12.lt e13.symm)
      have sz_b13 : h0.size ≤ b13 := Nat.le_trans KP.1 (Nat.le_of_eq e13.symm)
      have X_Z := ext_trans X_Z E13
      have S_COMPACT_STRINGS := S_COMPACT_STRINGS.ext E13
      have E_b12 := E_b12.ext E13
      have F_b12_coder := F_b12_coder.ext E13
      have F_b12_value := F_b12_value.ext E13
      have KP := KP.ext E13
      have V_b13 : Arv Z h13 b13 k13 .char (1 : Int32) [(.int (0 : Int32))] (.int (0 : Int32)) := V_b13
      refine C13.dup d1_27 rfl rfl ?_
      refine C13.iconst (0 : Int32) d1_28 rfl rfl ?_
      refine C13.iloadN d1_29 rfl rfl ?_
      refine C13.castore V_b13 ⟨by decide, by decide⟩ (Nat.le_of_ble_eq_true rfl) g_b13 d1_30 rfl (fun T14 h14 C14 W14 Vn14 => ?_)
      have S_COMPACT_STRINGS := S_COMPACT_STRINGS.wr W14
      have E_b12 := E_b12.wr W14
      have F_b12_coder := F_b12_coder.other W14 (Or.inl ne_b12_b13)
      have F_b12_value := F_b12_value.other W14 (Or.inl ne_b12_b13)
      have KP := KP.wr W14 (Or.inr sz_b13)
      have V_b13 : Arv Z h14 b13 k13 .char (1 : Int32) [(.int (nar .char i1))] (.int (0 : Int32)) := Vn14
      refine C14.callN rfl (hw _ (List.mem_of_getElem? (i := 8) rfl)) (hw _ (List.mem_of_getElem? (i := 9) rfl)) (hw _ (List.mem_of_getElem? (i := 6) rfl)) (hw _ (List.mem_of_getElem? (i := 10) rfl)) (by decide) (a := b12) (rm21 l Z a0 hw b12 b13 cs .null (.int (0 : Int32)) k13 (nar .char i1) h14 n0 C14.size E_b12 F_b12_value F_b12_coder g_b12 V_b13 hc1 S_COMPACT_STRINGS hcs) (argsL := [(.ref b13)]) pd21 rfl 1 (by decide) (by decide) (by decide) (by decide) (rest := [(.ref b12)]) rfl rfl (Nat.le_of_eq rfl) d1_31 rfl (fun v15 T15 h15 C15 qq15 => ?_)
      obtain ⟨rfl, K15, p15_0⟩ := qq15
      have S_COMPACT_STRINGS := own_stak S_COMPACT_STRINGS K15 (allS (own_plainE E_b12) (all0))
      have E_b12 := E_b12.keep K15
      have V_b13 := V_b13.keep K15 (ninS (Ne.symm ne_b12_b13) nin0)
      have KP := KP.trans K15 (allS (Or.inr sz_b12) (all0))
      have E_b12 := p15_0
      show Go p e below F n0 (fun v h' => ∃ bz : Addr, v = some (.ref bz) ∧ Keep h0 h' [] ∧ Exa Z h' bz "java/lang/String" ∧ n0 ≤ bz) T15 (mkF m 34 #[.val (.int i0), .val (.int i1), .val (.int i2), .val (.int i3)] [(.ref b12)])
      exact C15.retA d1_34 rfl rfl rfl (by decide) (by decide) ⟨b12, rfl, KP, E_b12, g_b12⟩
  · refine D0.new (hw _ (List.mem_of_getElem? (i := 4) rfl)) (hw _ (List.mem_of_getElem? (i := 5) rfl)) (hw _ (List.mem_of_getElem? (i := 6) rfl)) d1_4 rfl (by decide) (by decide) (fun T16 h16 b16 C16 e16 g_b16 E16 E_b16 D16 => ?_)
    have sz_b16 : h0.size ≤ b16 := Nat.le_trans KP.1 (Nat.le_of_eq e16.symm)
    have X_Z := ext_trans X_Z E16
    have S_COMPACT_STRINGS := S_COMPACT_STRINGS.ext E16
    have KP := KP.ext E16
    have F_b16_coder : Fld Z h16 b16 "java/lang/String" "coder" "B" (.int (0 : Int32)) := D16 (Or.inr (hw _ (List.mem_of_getElem? (i := 31) rfl))) (ty := .byte) (by decide)
    have F_b16_value : Fld Z h16 b16 "java/lang/String" "value" "[B" .null := D16 (Or.inr (hw _ (List.mem_of_getElem? (i := 33) rfl))) (ty := (.array .byte)) (by decide)
    refine C16.dup d1_7 rfl rfl ?_
    refine C16.iconst (0 : Int32) d1_8 rfl rfl ?_
    refine C16.newarr (hw _ (List.mem_of_getElem? (i := 7) rfl)) 0 (by decide) (by decide) (by decide) (by decide) (by decide) d1_9 rfl (fun T17 h17 b17 k17 C17 e17 g_b17 E17 V_b17 => ?_)
    have ne_b16_b17 : b16 ≠ b17 := Nat.ne_of_lt (Nat.lt_of_lt_of_eq E_b16.lt e17.symm)
    have sz_b17 : h0.size ≤ b17 := Nat.le_trans KP.1 (Nat.le_of_eq e17.symm)
    have X_Z := ext_trans X_Z E17
    have S_COMPACT_STRINGS := S_COMPACT_STRINGS.ext E17
    have E_b16 := E_b16.ext E17
    have F_b16_coder := F_b16_coder.ext E17
    have F_b16_value := F_b16_value.ext E17
    have KP := KP.ext E17
    have V_b17 : Arv Z h17 b17 k17 .char (0 : Int32) [] (.int (0 : Int32)) := V_b17
    refine C17.callNW rfl (hw _ (List.mem_of_getElem? (i := 8) rfl)) (hw _ (List.mem_of_getElem? (i := 9) rfl)) (hw _ (List.mem_of_getElem? (i := 6) rfl)) (hw _ (List.mem_of_getElem? (i := 10) rfl)) (by decide) (a := b16) (rm20 l Z a0 hw b16 b17 (.int (0 : Int32)) k17 h17 n0 C17.size E_b16 F_b16_value F_b16_coder g_b16 V_b17 X_Z hheld hcw) (argsL := [(.ref b17)]) pd20 rfl 1 (by decide) (by decide) (by decide) (by decide) (rest := [(.ref b16)]) rfl rfl (Nat.le_of_eq rfl) d1_11 rfl (fun v18 T18 h18 C18 qq18 => ?_)
    obtain ⟨rfl, K18, p18_0⟩ := qq18
    have S_COMPACT_STRINGS := own_stak S_COMPACT_STRINGS K18 (allS (own_plainE E_b16) (all0))
    have E_b16 := E_b16.keep K18
    have V_b17 := V_b17.keep K18 (ninS (Ne.symm ne_b16_b17) nin0)
    have KP := KP.trans K18 (allS (Or.inr sz_b16) (all0))
    have E_b16 := p18_0
    show Go p e below F n0 (fun v h' => ∃ bz : Addr, v = some (.ref bz) ∧ Keep h0 h' [] ∧ Exa Z h' bz "java/lang/String" ∧ n0 ≤ bz) T18 (mkF m 14 #[.val (.int i0), .val (.int i1), .val (.int i2), .val (.int i3)] [(.ref b16)])
    exact C18.retA d1_14 rfl rfl rfl (by decide) (by decide) ⟨b16, rfl, KP, E_b16, g_b16⟩
theorem pn8 : plainName "com/example/bouncer/bouncer/cli/Arguments" = true := by first | (simp [plainName, overriddenIn]; done) | decide +kernel
theorem pd8 : parseMethodDescriptor "(Ljava/lang/String;Ljava/lang/String;[Ljava/lang/String;I)V" = some ⟨[(.object "java/lang/String"), (.object "java/lang/String"), (.array (.object "java/lang/String")), .int], none⟩ := by decide +kernel
theorem ef8 (m : MethodId) (o0 : Addr) (o1 : Addr) (o2 : Addr) (o3 : Addr) (i4 : Int32) : entryFrame m #[(.ref o0), (.ref o1), (.ref o2), (.ref o3), (.int i4)] 5 = mkF m 0 #[.val (.ref o0), .val (.ref o1), .val (.ref o2), .val (.ref o3), .val (.int i4)] [] := by first | (simp [entryFrame, mkF, argsToLocals, Value.category]; done) | rfl
theorem d8_0 : decode prog_26_method_1_code 0 = .ok (.aload_n 0, 1) := by decide +kernel
theorem d8_1 : decode prog_26_method_1_code 1 = .ok (.invokespecial 1, 3) := by decide +kernel
theorem d8_4 : decode prog_26_method_1_code 4 = .ok (.aload_n 0, 1) := by decide +kernel
theorem d8_5 : decode prog_26_method_1_code 5 = .ok (.new 7, 3) := by decide +kernel
theorem d8_8 : decode prog_26_method_1_code 8 = .ok (.dup, 1) := by decide +kernel
theorem d8_9 : decode prog_26_method_1_code 9 = .ok (.invokespecial 9, 3) := by decide +kernel
theorem d8_12 : decode prog_26_method_1_code 12 = .ok (.putfield 10, 3) := by decide +kernel
theorem d8_15 : decode prog_26_method_1_code 15 = .ok (.aload_n 0, 1) := by decide +kernel
theorem d8_16 : decode prog_26_method_1_code 16 = .ok (.aload_n 1, 1) := by decide +kernel
theorem d8_17 : decode prog_26_method_1_code 17 = .ok (.putfield 16, 3) := by decide +kernel
theorem d8_20 : decode prog_26_method_1_code 20 = .ok (.aload_n 0, 1) := by decide +kernel
theorem d8_21 : decode prog_26_method_1_code 21 = .ok (.aload_n 2, 1) := by decide +kernel
theorem d8_22 : decode prog_26_method_1_code 22 = .ok (.putfield 20, 3) := by decide +kernel
theorem d8_25 : decode prog_26_method_1_code 25 = .ok (.aload_n 0, 1) := by decide +kernel
theorem d8_26 : decode prog_26_method_1_code 26 = .ok (.aload_n 3, 1) := by decide +kernel
theorem d8_27 : decode prog_26_method_1_code 27 = .ok (.invokevirtual 23, 3) := by decide +kernel
theorem d8_30 : decode prog_26_method_1_code 30 = .ok (.checkcast 24, 3) := by decide +kernel
theorem d8_33 : decode prog_26_method_1_code 33 = .ok (.putfield 29, 3) := by decide +kernel
theorem d8_36 : decode prog_26_method_1_code 36 = .ok (.aload_n 0, 1) := by decide +kernel
theorem d8_37 : decode prog_26_method_1_code 37 = .ok (.iload 4, 2) := by decide +kernel
theorem d8_39 : decode prog_26_method_1_code 39 = .ok (.putfield 32, 3) := by decide +kernel
theorem d8_42 : decode prog_26_method_1_code 42 = .ok (.return_, 1) := by decide +kernel
set_option maxRecDepth 65536 in
set_option maxHeartbeats 40000000 in
theorem rm8 (l : Launch) (Z : State) (a0 : Array Value) (hw : ∀ d ∈ tables_1, d.before a0 Z = true) (o0 : Addr) (o1 : Addr) (o2 : Addr) (o3 : Addr) (i4 : Int32) (de : Addr) (x0 : Value) (x1 : Value) (x2 : Value) (x3 : Value) (x4 : Value) (k1 : ClassId) (n1 : Int32) (vs : List Value) (dv : Value) (h0 : Heap) (n0 : Nat) (Z0 : n0 ≤ h0.size) (E_o0 : Exa Z h0 o0 "com/example/bouncer/bouncer/cli/Arguments") (F_o0_operands : Fld Z h0 o0 "com/example/bouncer/bouncer/cli/Arguments" "operands" "Ljava/util/List;" x0) (F_o0_command : Fld Z h0 o0 "com/example/bouncer/bouncer/cli/Arguments" "command" "Ljava/lang/String;" x1) (F_o0_usage : Fld Z h0 o0 "com/example/bouncer/bouncer/cli/Arguments" "usage" "Ljava/lang/String;" x2) (F_o0_arguments : Fld Z h0 o0 "com/example/bouncer/bouncer/cli/Arguments" "arguments" "[Ljava/lang/String;" x3) (F_o0_maxOperands : Fld Z h0 o0 "com/example/bouncer/bouncer/cli/Arguments" "maxOperands" "I" x4) (F_o0_next : Fld Z h0 o0 "com/example/bouncer/bouncer/cli/Arguments" "next" "I" (.int (0 : Int32))) (g_o0 : n0 ≤ o0) (S_DEFAULTCAPACITY_EMPTY_ELEMENTDATA : Sta Z h0 "java/util/ArrayList" "DEFAULTCAPACITY_EMPTY_ELEMENTDATA" "[Ljava/lang/Object;" (.ref de)) (E_o3 : Exa Z h0 o3 "[Ljava/lang/String;") (V_o3 : Arv Z h0 o3 k1 (.object "java/lang/String") n1 vs dv) (hc3 : (n1).toNatClampNeg ≤ 3) :
    Ctr l Z (⟨"com/example/bouncer/bouncer/cli/Arguments", "<init>", "(Ljava/lang/String;Ljava/lang/String;[Ljava/lang/String;I)V"⟩ : MethodName) prog_26_method_1_code 5 none ({ frames := 4, cells := 2, slots := 6, locals := 50 } : Room) #[(.ref o0), (.ref o1), (.ref o2), (.ref o3), (.int i4)] h0 n0 (fun v h' => ∃ bc : Addr, v = none ∧ Keep h0 h' [o0] ∧ Exa Z h' o0 "com/example/bouncer/bouncer/cli/Arguments" ∧ Fld Z h' o0 "com/example/bouncer/bouncer/cli/Arguments" "arguments" "[Ljava/lang/String;" (.ref bc) ∧ Fld Z h' o0 "com/example/bouncer/bouncer/cli/Arguments" "next" "I" (.int (0 : Int32)) ∧ Exa Z h' bc "[Ljava/lang/String;" ∧ Arv Z h' bc k1 (.object "java/lang/String") n1 vs dv ∧ n0 ≤ bc) := by
  refine Ctr.body (L := #[.val (.ref o0), .val (.ref o1), .val (.ref o2), .val (.ref o3), .val (.int i4)]) (plainFor_of_name pn8) Z0 (fun m => ef8 m o0 o1 o2 o3 i4) ?_
  intro p e F m below meth c T0 C0
  have KP : Keep h0 h0 [o0] := Keep.refl h0 _
  refine C0.aloadN d8_0 rfl rfl rfl ?_
  refine C0.initObj (hw _ (List.mem_of_getElem? (i := 45) rfl)) (hw _ (List.mem_of_getElem? (i := 16) rfl)) (hw _ (List.mem_of_getElem? (i := 17) rfl)) rfl (by decide) 0 (Nat.le_of_eq rfl) (by decide) d8_1 rfl (fun T1 C1 => ?_)
  refine C1.aloadN d8_4 rfl rfl rfl ?_
  refine C1.new (hw _ (List.mem_of_getElem? (i := 46) rfl)) (hw _ (List.mem_of_getElem? (i := 47) rfl)) (hw _ (List.mem_of_getElem? (i := 48) rfl)) d8_5 rfl (by decide) (by decide) (fun T2 h2 b2 C2 e2 g_b2 E2 E_b2 D2 => ?_)
  have ne_o0_b2 : o0 ≠ b2 := Nat.ne_of_lt (Nat.lt_of_lt_of_eq E_o0.lt e2.symm)
  have ne_o3_b2 : o3 ≠ b2 := Nat.ne_of_lt (Nat.lt_of_lt_of_eq E_o3.lt e2.symm)
  have sz_b2 : h0.size ≤ b2 := Nat.le_trans KP.1 (Nat.le_of_eq e2.symm)
  have E_o0 := E_o0.ext E2
  have F_o0_operands := F_o0_operands.ext E2
  have F_o0_command := F_o0_command.ext E2
  have F_o0_usage := F_o0_usage.ext E2
  have F_o0_arguments := F_o0_arguments.ext E2
  have F_o0_maxOperands := F_o0_maxOperands.ext E2
  have F_o0_next := F_o0_next.ext E2
  have S_DEFAULTCAPACITY_EMPTY_ELEMENTDATA := S_DEFAULTCAPACITY_EMPTY_ELEMENTDATA.ext E2
  have E_o3 := E_o3.ext E2
  have V_o3 := V_o3.ext E2
  have KP := KP.ext E2
  have F_b2_modCount : Fld Z h2 b2 "java/util/AbstractList" "modCount" "I" (.int (0 : Int32)) := D2 (Or.inl (hw _ (List.mem_of_getElem? (i := 66) rfl))) (ty := .int) (by decide)
  have F_b2_elementData : Fld Z h2 b2 "java/util/ArrayList" "elementData" "[Ljava/lang/Object;" .null := D2 (Or.inl (hw _ (List.mem_of_getElem? (i := 69) rfl))) (ty := (.array (.object "java/lang/Object"))) (by decide)
  refine C2.dup d8_8 rfl rfl ?_
  refine C2.callN rfl (hw _ (List.mem_of_getElem? (i := 49) rfl)) (hw _ (List.mem_of_getElem? (i := 50) rfl)) (hw _ (List.mem_of_getElem? (i := 48) rfl)) (hw _ (List.mem_of_getElem? (i := 51) rfl)) (by decide) (a := b2) (rm9 l Z a0 hw b2 de (.int (0 : Int32)) .null h2 n0 C2.size E_b2 F_b2_modCount F_b2_elementData g_b2 S_DEFAULTCAPACITY_EMPTY_ELEMENTDATA) (argsL := []) pd9 rfl 2 (by decide) (by decide) (by decide) (by decide) (rest := [(.ref b2), (.ref o0)]) rfl rfl (Nat.le_of_eq rfl) d8_9 rfl (fun v3 T3 h3 C3 qq3 => ?_)
  obtain ⟨rfl, K3, p3_0⟩ := qq3
  have S_DEFAULTCAPACITY_EMPTY_ELEMENTDATA := own_stak S_DEFAULTCAPACITY_EMPTY_ELEMENTDATA K3 (allS (own_plainE E_b2) (all0))
  have E_o0 := E_o0.keep K3
  have F_o0_operands := F_o0_operands.keep K3 (ninS ne_o0_b2 nin0)
  have F_o0_command := F_o0_command.keep K3 (ninS ne_o0_b2 nin0)
  have F_o0_usage := F_o0_usage.keep K3 (ninS ne_o0_b2 nin0)
  have F_o0_arguments := F_o0_arguments.keep K3 (ninS ne_o0_b2 nin0)
  have F_o0_maxOperands := F_o0_maxOperands.keep K3 (ninS ne_o0_b2 nin0)
  have F_o0_next := F_o0_next.keep K3 (ninS ne_o0_b2 nin0)
  have E_o3 := E_o3.keep K3
  have V_o3 := V_o3.keep K3 (ninS ne_o3_b2 nin0)
  have E_b2 := E_b2.keep K3
  have KP := KP.trans K3 (allS (Or.inr sz_b2) (all0))
  have E_b2 := p3_0
  show Go p e below F n0 (fun v h' => ∃ bc : Addr, v = none ∧ Keep h0 h' [o0] ∧ Exa Z h' o0 "com/example/bouncer/bouncer/cli/Arguments" ∧ Fld Z h' o0 "com/example/bouncer/bouncer/cli/Arguments" "arguments" "[Ljava/lang/String;" (.ref bc) ∧ Fld Z h' o0 "com/example/bouncer/bouncer/cli/Arguments" "next" "I" (.int (0 : Int32)) ∧ Exa Z h' bc "[Ljava/lang/String;" ∧ Arv Z h' bc k1 (.object "java/lang/String") n1 vs dv ∧ n0 ≤ bc) T3 (mkF m 12 #[.val (.ref o0), .val (.ref o1), .val (.ref o2), .val (.ref o3), .val (.int i4)] [(.ref b2), (.ref o0)])
  refine C3.putF (host := "") (Or.inl (hw _ (List.mem_of_getElem? (i := 70) rfl))) Via.refl F_o0_operands E_o0 (Or.inr ⟨(hw _ (List.mem_of_getElem? (i := 71) rfl)), rfl, rfl⟩) (hw _ (List.mem_of_getElem? (i := 36) rfl)) (ty := (.object "java/util/List")) (by decide) rfl rfl g_o0 d8_12 rfl (fun T4 h4 C4 W4 => ?_)
  have ne_o3_o0 : o3 ≠ o0 := (ne_exa E_o3 E_o0 (by decide))
  have E_o0 := E_o0.wr W4
  have F_o0_command := F_o0_command.other W4 (Or.inr (slot_ne (Or.inr (hw _ (List.mem_of_getElem? (i := 73) rfl))) (Or.inr (hw _ (List.mem_of_getElem? (i := 71) rfl))) (by decide) (t := (.object "java/lang/String")) (t' := (.object "java/util/List")) (by decide) (by decide)))
  have F_o0_usage := F_o0_usage.other W4 (Or.inr (slot_ne (Or.inr (hw _ (List.mem_of_getElem? (i := 75) rfl))) (Or.inr (hw _ (List.mem_of_getElem? (i := 71) rfl))) (by decide) (t := (.object "java/lang/String")) (t' := (.object "java/util/List")) (by decide) (by decide)))
  have F_o0_arguments := F_o0_arguments.other W4 (Or.inr (slot_ne (Or.inr (hw _ (List.mem_of_getElem? (i := 86) rfl))) (Or.inr (hw _ (List.mem_of_getElem? (i := 71) rfl))) (by decide) (t := (.array (.object "java/lang/String"))) (t' := (.object "java/util/List")) (by decide) (by decide)))
  have F_o0_maxOperands := F_o0_maxOperands.other W4 (Or.inr (slot_ne (Or.inr (hw _ (List.mem_of_getElem? (i := 88) rfl))) (Or.inr (hw _ (List.mem_of_getElem? (i := 71) rfl))) (by decide) (t := .int) (t' := (.object "java/util/List")) (by decide) (by decide)))
  have F_o0_next := F_o0_next.other W4 (Or.inr (slot_ne (Or.inl (hw _ (List.mem_of_getElem? (i := 95) rfl))) (Or.inr (hw _ (List.mem_of_getElem? (i := 71) rfl))) (by decide) (t := .int) (t' := (.object "java/util/List")) (by decide) (by decide)))
  have S_DEFAULTCAPACITY_EMPTY_ELEMENTDATA := S_DEFAULTCAPACITY_EMPTY_ELEMENTDATA.wr W4
  have E_o3 := E_o3.wr W4
  have V_o3 := V_o3.other W4 ne_o3_o0
  have E_b2 := E_b2.wr W4
  have KP := KP.wr W4 (Or.inl (by simp))
  have F_o0_operands := F_o0_operands.same W4
  refine C4.aloadN d8_15 rfl rfl rfl ?_
  refine C4.aloadN d8_16 rfl rfl rfl ?_
  refine C4.putF (host := "") (Or.inl (hw _ (List.mem_of_getElem? (i := 72) rfl))) Via.refl F_o0_command E_o0 (Or.inr ⟨(hw _ (List.mem_of_getElem? (i := 73) rfl)), rfl, rfl⟩) (hw _ (List.mem_of_getElem? (i := 36) rfl)) (ty := (.object "java/lang/String")) (by decide) rfl rfl g_o0 d8_17 rfl (fun T5 h5 C5 W5 => ?_)
  have E_o0 := E_o0.wr W5
  have F_o0_operands := F_o0_operands.other W5 (Or.inr (slot_ne (Or.inr (hw _ (List.mem_of_getElem? (i := 71) rfl))) (Or.inr (hw _ (List.mem_of_getElem? (i := 73) rfl))) (by decide) (t := (.object "java/util/List")) (t' := (.object "java/lang/String")) (by decide) (by decide)))
  have F_o0_usage := F_o0_usage.other W5 (Or.inr (slot_ne (Or.inr (hw _ (List.mem_of_getElem? (i := 75) rfl))) (Or.inr (hw _ (List.mem_of_getElem? (i := 73) rfl))) (by decide) (t := (.object "java/lang/String")) (t' := (.object "java/lang/String")) (by decide) (by decide)))
  have F_o0_arguments := F_o0_arguments.other W5 (Or.inr (slot_ne (Or.inr (hw _ (List.mem_of_getElem? (i := 86) rfl))) (Or.inr (hw _ (List.mem_of_getElem? (i := 73) rfl))) (by decide) (t := (.array (.object "java/lang/String"))) (t' := (.object "java/lang/String")) (by decide) (by decide)))
  have F_o0_maxOperands := F_o0_maxOperands.other W5 (Or.inr (slot_ne (Or.inr (hw _ (List.mem_of_getElem? (i := 88) rfl))) (Or.inr (hw _ (List.mem_of_getElem? (i := 73) rfl))) (by decide) (t := .int) (t' := (.object "java/lang/String")) (by decide) (by decide)))
  have F_o0_next := F_o0_next.other W5 (Or.inr (slot_ne (Or.inl (hw _ (List.mem_of_getElem? (i := 95) rfl))) (Or.inr (hw _ (List.mem_of_getElem? (i := 73) rfl))) (by decide) (t := .int) (t' := (.object "java/lang/String")) (by decide) (by decide)))
  have S_DEFAULTCAPACITY_EMPTY_ELEMENTDATA := S_DEFAULTCAPACITY_EMPTY_ELEMENTDATA.wr W5
  have E_o3 := E_o3.wr W5
  have V_o3 := V_o3.other W5 ne_o3_o0
  have E_b2 := E_b2.wr W5
  have KP := KP.wr W5 (Or.inl (by simp))
  have F_o0_command := F_o0_command.same W5
  refine C5.aloadN d8_20 rfl rfl rfl ?_
  refine C5.aloadN d8_21 rfl rfl rfl ?_
  refine C5.putF (host := "") (Or.inl (hw _ (List.mem_of_getElem? (i := 74) rfl))) Via.refl F_o0_usage E_o0 (Or.inr ⟨(hw _ (List.mem_of_getElem? (i := 75) rfl)), rfl, rfl⟩) (hw _ (List.mem_of_getElem? (i := 36) rfl)) (ty := (.object "java/lang/String")) (by decide) rfl rfl g_o0 d8_22 rfl (fun T6 h6 C6 W6 => ?_)
  have E_o0 := E_o0.wr W6
  have F_o0_operands := F_o0_operands.other W6 (Or.inr (slot_ne (Or.inr (hw _ (List.mem_of_getElem? (i := 71) rfl))) (Or.inr (hw _ (List.mem_of_getElem? (i := 75) rfl))) (by decide) (t := (.object "java/util/List")) (t' := (.object "java/lang/String")) (by decide) (by decide)))
  have F_o0_command := F_o0_command.other W6 (Or.inr (slot_ne (Or.inr (hw _ (List.mem_of_getElem? (i := 73) rfl))) (Or.inr (hw _ (List.mem_of_getElem? (i := 75) rfl))) (by decide) (t := (.object "java/lang/String")) (t' := (.object "java/lang/String")) (by decide) (by decide)))
  have F_o0_arguments := F_o0_arguments.other W6 (Or.inr (slot_ne (Or.inr (hw _ (List.mem_of_getElem? (i := 86) rfl))) (Or.inr (hw _ (List.mem_of_getElem? (i := 75) rfl))) (by decide) (t := (.array (.object "java/lang/String"))) (t' := (.object "java/lang/String")) (by decide) (by decide)))
  have F_o0_maxOperands := F_o0_maxOperands.other W6 (Or.inr (slot_ne (Or.inr (hw _ (List.mem_of_getElem? (i := 88) rfl))) (Or.inr (hw _ (List.mem_of_getElem? (i := 75) rfl))) (by decide) (t := .int) (t' := (.object "java/lang/String")) (by decide) (by decide)))
  have F_o0_next := F_o0_next.other W6 (Or.inr (slot_ne (Or.inl (hw _ (List.mem_of_getElem? (i := 95) rfl))) (Or.inr (hw _ (List.mem_of_getElem? (i := 75) rfl))) (by decide) (t := .int) (t' := (.object "java/lang/String")) (by decide) (by decide)))
  have S_DEFAULTCAPACITY_EMPTY_ELEMENTDATA := S_DEFAULTCAPACITY_EMPTY_ELEMENTDATA.wr W6
  have E_o3 := E_o3.wr W6
  have V_o3 := V_o3.other W6 ne_o3_o0
  have E_b2 := E_b2.wr W6
  have KP := KP.wr W6 (Or.inl (by simp))
  have F_o0_usage := F_o0_usage.same W6
  refine C6.aloadN d8_25 rfl rfl rfl ?_
  refine C6.aloadN d8_26 rfl rfl rfl ?_
  refine C6.clonearr (hw _ (List.mem_of_getElem? (i := 76) rfl)) (hw _ (List.mem_of_getElem? (i := 77) rfl)) (hw _ (List.mem_of_getElem? (i := 81) rfl)) (hw _ (List.mem_of_getElem? (i := 79) rfl)) (hw _ (List.mem_of_getElem? (i := 80) rfl)) (hw _ (List.mem_of_getElem? (i := 82) rfl)) V_o3 E_o3 rfl (by decide) 1 (Nat.le_of_eq rfl) (by decide) 3 hc3 (by decide) (by decide) d8_27 rfl (fun T7 h7 b7 C7 e7 g_b7 E7 V_b7 E_b7 => ?_)
  have ne_o0_b7 : o0 ≠ b7 := Nat.ne_of_lt (Nat.lt_of_lt_of_eq E_o0.lt e7.symm)
  have ne_o3_b7 : o3 ≠ b7 := Nat.ne_of_lt (Nat.lt_of_lt_of_eq E_o3.lt e7.symm)
  have ne_b2_b7 : b2 ≠ b7 := Nat.ne_of_lt (Nat.lt_of_lt_of_eq E_b2.lt e7.symm)
  have sz_b7 : h0.size ≤ b7 := Nat.le_trans KP.1 (Nat.le_of_eq e7.symm)
  have E_o0 := E_o0.ext E7
  have F_o0_operands := F_o0_operands.ext E7
  have F_o0_command := F_o0_command.ext E7
  have F_o0_usage := F_o0_usage.ext E7
  have F_o0_arguments := F_o0_arguments.ext E7
  have F_o0_maxOperands := F_o0_maxOperands.ext E7
  have F_o0_next := F_o0_next.ext E7
  have S_DEFAULTCAPACITY_EMPTY_ELEMENTDATA := S_DEFAULTCAPACITY_EMPTY_ELEMENTDATA.ext E7
  have E_o3 := E_o3.ext E7
  have V_o3 := V_o3.ext E7
  have E_b2 := E_b2.ext E7
  have KP := KP.ext E7
  refine C7.castY (hw _ (List.mem_of_getElem? (i := 83) rfl)) (Ins.self E_b7) d8_30 rfl (fun T8 C8 => ?_)
  refine C8.putF (host := "") (Or.inl (hw _ (List.mem_of_getElem? (i := 85) rfl))) Via.refl F_o0_arguments E_o0 (Or.inr ⟨(hw _ (List.mem_of_getElem? (i := 86) rfl)), rfl, rfl⟩) (hw _ (List.mem_of_getElem? (i := 36) rfl)) (ty := (.array (.object "java/lang/String"))) (by decide) rfl rfl g_o0 d8_33 rfl (fun T9 h9 C9 W9 => ?_)
  have E_o0 := E_o0.wr W9
  have F_o0_operands := F_o0_operands.other W9 (Or.inr (slot_ne (Or.inr (hw _ (List.mem_of_getElem? (i := 71) rfl))) (Or.inr (hw _ (List.mem_of_getElem? (i := 86) rfl))) (by decide) (t := (.object "java/util/List")) (t' := (.array (.object "java/lang/String"))) (by decide) (by decide)))
  have F_o0_command := F_o0_command.other W9 (Or.inr (slot_ne (Or.inr (hw _ (List.mem_of_getElem? (i := 73) rfl))) (Or.inr (hw _ (List.mem_of_getElem? (i := 86) rfl))) (by decide) (t := (.object "java/lang/String")) (t' := (.array (.object "java/lang/String"))) (by decide) (by decide)))
  have F_o0_usage := F_o0_usage.other W9 (Or.inr (slot_ne (Or.inr (hw _ (List.mem_of_getElem? (i := 75) rfl))) (Or.inr (hw _ (List.mem_of_getElem? (i := 86) rfl))) (by decide) (t := (.object "java/lang/String")) (t' := (.array (.object "java/lang/String"))) (by decide) (by decide)))
  have F_o0_maxOperands := F_o0_maxOperands.other W9 (Or.inr (slot_ne (Or.inr (hw _ (List.mem_of_getElem? (i := 88) rfl))) (Or.inr (hw _ (List.mem_of_getElem? (i := 86) rfl))) (by decide) (t := .int) (t' := (.array (.object "java/lang/String"))) (by decide) (by decide)))
  have F_o0_next := F_o0_next.other W9 (Or.inr (slot_ne (Or.inl (hw _ (List.mem_of_getElem? (i := 95) rfl))) (Or.inr (hw _ (List.mem_of_getElem? (i := 86) rfl))) (by decide) (t := .int) (t' := (.array (.object "java/lang/String"))) (by decide) (by decide)))
  have S_DEFAULTCAPACITY_EMPTY_ELEMENTDATA := S_DEFAULTCAPACITY_EMPTY_ELEMENTDATA.wr W9
  have E_o3 := E_o3.wr W9
  have V_o3 := V_o3.other W9 ne_o3_o0
  have E_b2 := E_b2.wr W9
  have V_b7 := V_b7.other W9 (Ne.symm ne_o0_b7)
  have E_b7 := E_b7.wr W9
  have KP := KP.wr W9 (Or.inl (by simp))
  have F_o0_arguments := F_o0_arguments.same W9
  refine C9.aloadN d8_36 rfl rfl rfl ?_
  refine C9.iload d8_37 rfl rfl ?_
  refine C9.putF (host := "") (Or.inl (hw _ (List.mem_of_getElem? (i := 87) rfl))) Via.refl F_o0_maxOperands E_o0 (Or.inr ⟨(hw _ (List.mem_of_getElem? (i := 88) rfl)), rfl, rfl⟩) (hw _ (List.mem_of_getElem? (i := 36) rfl)) (ty := .int) (by decide) rfl rfl g_o0 d8_39 rfl (fun T10 h10 C10 W10 => ?_)
  have E_o0 := E_o0.wr W10
  have F_o0_operands := F_o0_operands.other W10 (Or.inr (slot_ne (Or.inr (hw _ (List.mem_of_getElem? (i := 71) rfl))) (Or.inr (hw _ (List.mem_of_getElem? (i := 88) rfl))) (by decide) (t := (.object "java/util/List")) (t' := .int) (by decide) (by decide)))
  have F_o0_command := F_o0_command.other W10 (Or.inr (slot_ne (Or.inr (hw _ (List.mem_of_getElem? (i := 73) rfl))) (Or.inr (hw _ (List.mem_of_getElem? (i := 88) rfl))) (by decide) (t := (.object "java/lang/String")) (t' := .int) (by decide) (by decide)))
  have F_o0_usage := F_o0_usage.other W10 (Or.inr (slot_ne (Or.inr (hw _ (List.mem_of_getElem? (i := 75) rfl))) (Or.inr (hw _ (List.mem_of_getElem? (i := 88) rfl))) (by decide) (t := (.object "java/lang/String")) (t' := .int) (by decide) (by decide)))
  have F_o0_arguments := F_o0_arguments.other W10 (Or.inr (slot_ne (Or.inr (hw _ (List.mem_of_getElem? (i := 86) rfl))) (Or.inr (hw _ (List.mem_of_getElem? (i := 88) rfl))) (by decide) (t := (.array (.object "java/lang/String"))) (t' := .int) (by decide) (by decide)))
  have F_o0_next := F_o0_next.other W10 (Or.inr (slot_ne (Or.inl (hw _ (List.mem_of_getElem? (i := 95) rfl))) (Or.inr (hw _ (List.mem_of_getElem? (i := 88) rfl))) (by decide) (t := .int) (t' := .int) (by decide) (by decide)))
  have S_DEFAULTCAPACITY_EMPTY_ELEMENTDATA := S_DEFAULTCAPACITY_EMPTY_ELEMENTDATA.wr W10
  have E_o3 := E_o3.wr W10
  have V_o3 := V_o3.other W10 ne_o3_o0
  have E_b2 := E_b2.wr W10
  have V_b7 := V_b7.other W10 (Ne.symm ne_o0_b7)
  have E_b7 := E_b7.wr W10
  have KP := KP.wr W10 (Or.inl (by simp))
  have F_o0_maxOperands := F_o0_maxOperands.same W10
  exact C10.retV d8_42 rfl (by decide) (by decide) ⟨b7, rfl, KP, E_o0, F_o0_arguments, F_o0_next, E_b7, V_b7, g_b7⟩
def f12 (y0 : Int32) (n1 : Int32) : Int32 := if y0 < n1 then (1 : Int32) else ((0 : Int32))
theorem pn12 : plainName "com/example/bouncer/bouncer/cli/Arguments" = true := by first | (simp [plainName, overriddenIn]; done) | decide +kernel
theorem pd12 : parseMethodDescriptor "()Z" = some ⟨[], some .boolean⟩ := by decide +kernel
theorem ef12 (m : MethodId) (o0 : Addr) : entryFrame m #[(.ref o0)] 1 = mkF m 0 #[.val (.ref o0)] [] := by first | (simp [entryFrame, mkF, argsToLocals, Value.category]; done) | rfl
theorem d12_0 : decode prog_26_method_2_code 0 = .ok (.aload_n 0, 1) := by decide +kernel
theorem d12_1 : decode prog_26_method_2_code 1 = .ok (.getfield 36, 3) := by decide +kernel
theorem d12_4 : decode prog_26_method_2_code 4 = .ok (.aload_n 0, 1) := by decide +kernel
theorem d12_5 : decode prog_26_method_2_code 5 = .ok (.getfield 29, 3) := by decide +kernel
theorem d12_8 : decode prog_26_method_2_code 8 = .ok (.arraylength, 1) := by decide +kernel
theorem d12_9 : decode prog_26_method_2_code 9 = .ok (.if_icmp .ge 7, 3) := by decide +kernel
theorem d12_12 : decode prog_26_method_2_code 12 = .ok (.iconst 1, 1) := by decide +kernel
theorem d12_13 : decode prog_26_method_2_code 13 = .ok (.goto 4, 3) := by decide +kernel
theorem d12_16 : decode prog_26_method_2_code 16 = .ok (.iconst 0, 1) := by decide +kernel
theorem d12_17 : decode prog_26_method_2_code 17 = .ok (.ireturn, 1) := by decide +kernel
set_option maxRecDepth 65536 in
set_option maxHeartbeats 40000000 in
theorem rm12 (l : Launch) (Z : State) (a0 : Array Value) (hw : ∀ d ∈ tables_1, d.before a0 Z = true) (o0 : Addr) (a1 : Addr) (y0 : Int32) (k1 : ClassId) (n1 : Int32) (vs : List Value) (dv : Value) (h0 : Heap) (n0 : Nat) (Z0 : n0 ≤ h0.size) (F_o0_arguments : Fld Z h0 o0 "com/example/bouncer/bouncer/cli/Arguments" "arguments" "[Ljava/lang/String;" (.ref a1)) (F_o0_next : Fld Z h0 o0 "com/example/bouncer/bouncer/cli/Arguments" "next" "I" (.int y0)) (V_a1 : Arv Z h0 a1 k1 (.object "java/lang/String") n1 vs dv) :
    Ctr l Z (⟨"com/example/bouncer/bouncer/cli/Arguments", "hasNext", "()Z"⟩ : MethodName) prog_26_method_2_code 1 (some .boolean) ({ frames := 0, cells := 0, slots := 0, locals := 0 } : Room) #[(.ref o0)] h0 n0 (fun v h' => v = some (.int (f12 y0 n1)) ∧ h' = h0) := by
  refine Ctr.body (L := #[.val (.ref o0)]) (plainFor_of_name pn12) Z0 (fun m => ef12 m o0) ?_
  intro p e F m below meth c T0 C0
  refine C0.aloadN d12_0 rfl rfl rfl ?_
  refine C0.getF (host := "") (Or.inl (hw _ (List.mem_of_getElem? (i := 94) rfl))) Via.refl F_o0_next d12_1 rfl (fun T1 C1 => ?_)
  refine C1.aloadN d12_4 rfl rfl rfl ?_
  refine C1.getF (host := "") (Or.inl (hw _ (List.mem_of_getElem? (i := 85) rfl))) Via.refl F_o0_arguments d12_5 rfl (fun T2 C2 => ?_)
  refine C2.arrlen V_a1 d12_8 rfl ?_
  refine C2.icmp_ge d12_9 (by decide) (by decide : _ = 16) rfl (fun c9 => ?_) (fun c9 => ?_)
  · refine C2.iconst (0 : Int32) d12_16 rfl rfl ?_
    exact C2.retN (t := .boolean) d12_17 rfl (by simp) (by decide) (by decide) (w := (0 : Int32)) rfl ⟨by rw [f12, if_neg c9], rfl⟩
  · refine C2.iconst (1 : Int32) d12_12 rfl rfl ?_
    refine C2.goto d12_13 (by decide) (by decide : _ = 17) ?_
    exact C2.retN (t := .boolean) d12_17 rfl (by simp) (by decide) (by decide) (w := (1 : Int32)) rfl ⟨by rw [f12, if_pos c9], rfl⟩
theorem pn13 : plainName "com/example/bouncer/bouncer/cli/Arguments" = true := by first | (simp [plainName, overriddenIn]; done) | decide +kernel
theorem pd13 : parseMethodDescriptor "(Ljava/lang/String;)Ljava/lang/String;" = some ⟨[(.object "java/lang/String")], some (.object "java/lang/String")⟩ := by decide +kernel
theorem ef13 (m : MethodId) (o0 : Addr) (o1 : Addr) : entryFrame m #[(.ref o0), (.ref o1)] 2 = mkF m 0 #[.val (.ref o0), .val (.ref o1)] [] := by first | (simp [entryFrame, mkF, argsToLocals, Value.category]; done) | rfl
theorem d13_0 : decode prog_26_method_14_code 0 = .ok (.aload_n 1, 1) := by decide +kernel
theorem d13_1 : decode prog_26_method_14_code 1 = .ok (.ifnonnull 10, 3) := by decide +kernel
theorem d13_11 : decode prog_26_method_14_code 11 = .ok (.aload_n 1, 1) := by decide +kernel
theorem d13_12 : decode prog_26_method_14_code 12 = .ok (.areturn, 1) := by decide +kernel
set_option maxRecDepth 65536 in
set_option maxHeartbeats 40000000 in
theorem rm13 (l : Launch) (Z : State) (a0 : Array Value) (hw : ∀ d ∈ tables_1, d.before a0 Z = true) (o0 : Addr) (o1 : Addr) (h0 : Heap) (n0 : Nat) (Z0 : n0 ≤ h0.size) :
    Ctr l Z (⟨"com/example/bouncer/bouncer/cli/Arguments", "requiredOutput", "(Ljava/lang/String;)Ljava/lang/String;"⟩ : MethodName) prog_26_method_14_code 2 (some (.object "java/lang/String")) ({ frames := 0, cells := 0, slots := 0, locals := 0 } : Room) #[(.ref o0), (.ref o1)] h0 n0 (fun v h' => v = some (.ref o1) ∧ h' = h0) := by
  refine Ctr.body (L := #[.val (.ref o0), .val (.ref o1)]) (plainFor_of_name pn13) Z0 (fun m => ef13 m o0 o1) ?_
  intro p e F m below meth c T0 C0
  refine C0.aloadN d13_0 rfl rfl rfl ?_
  refine C0.ifnonnullYes d13_1 (by decide) (by decide : _ = 11) ?_
  refine C0.aloadN d13_11 rfl rfl rfl ?_
  exact C0.retA d13_12 rfl rfl rfl (by decide) (by decide) ⟨rfl, rfl⟩

theorem pn0 : plainName "com/example/bouncer/bouncer/cli/ArgumentsRequiredOutputPinLaw" = true := by first | (simp [plainName, overriddenIn]; done) | decide +kernel
theorem ef0 (m : MethodId) (i0 : Int32) (i1 : Int32) (i2 : Int32) (i3 : Int32) : entryFrame m #[(.int i0), (.int i1), (.int i2), (.int i3)] maxLocals = mkF m 0 #[.val (.int i0), .val (.int i1), .val (.int i2), .val (.int i3), .unset, .unset, .unset, .unset, .unset, .unset] [] := by first | (simp [entryFrame, mkF, argsToLocals, Value.category, maxLocals]; done) | rfl
set_option maxRecDepth 65536 in
set_option maxHeartbeats 40000000 in
theorem rm0 (l : Launch) (Z : State) (a0 : Array Value) (hw : ∀ d ∈ tables_1, d.before a0 Z = true) (i0 : Int32) (i1 : Int32) (i2 : Int32) (i3 : Int32) (cs : Int32) (de : Addr) (h0 : Heap) (n0 : Nat) (Z0 : n0 ≤ h0.size) (S_COMPACT_STRINGS : Sta Z h0 "java/lang/String" "COMPACT_STRINGS" "Z" (.int cs)) (hcs : ¬ cs = (0 : Int32)) (S_DEFAULTCAPACITY_EMPTY_ELEMENTDATA : Sta Z h0 "java/util/ArrayList" "DEFAULTCAPACITY_EMPTY_ELEMENTDATA" "[Ljava/lang/Object;" (.ref de)) (X_Z : Ext Z.heap h0) (hheld : Jvm.Lit.constHeld Z "java/lang/String" 7) (hcw : Jvm.Lit.compactW.before a0 Z = true) :
    CtrW l Z x code maxLocals ret room_1 #[(.int i0), (.int i1), (.int i2), (.int i3)] h0 n0 (fun v _ => v = some (.int (1 : Int32))) := by
  refine CtrW.body (L := #[.val (.int i0), .val (.int i1), .val (.int i2), .val (.int i3), .unset, .unset, .unset, .unset, .unset, .unset]) (plainFor_of_name pn0) Z0 (fun m => ef0 m i0 i1 i2 i3) ?_
  intro p e F m below meth c T0 C0
  have D0 := C0.cx
  refine D0.iloadN at_0 rfl rfl ?_
  refine D0.iconst (3 : Int32) at_1 rfl rfl ?_
  refine D0.iand at_2 rfl ?_
  refine D0.istore at_3 rfl (L' := #[.val (.int i0), .val (.int i1), .val (.int i2), .val (.int i3), .val (.int (i3 &&& (3 : Int32))), .unset, .unset, .unset, .unset, .unset]) rfl ?_
  refine D0.iload at_5 rfl rfl ?_
  refine D0.iloadN at_7 rfl rfl ?_
  refine D0.sipush (255 : Int32) at_8 rfl rfl ?_
  refine D0.iand at_11 rfl ?_
  refine D0.i2c at_12 rfl ?_
  refine D0.iloadN at_13 rfl rfl ?_
  refine D0.sipush (255 : Int32) at_14 rfl rfl ?_
  refine D0.iand at_17 rfl ?_
  refine D0.i2c at_18 rfl ?_
  refine D0.iloadN at_19 rfl rfl ?_
  refine D0.sipush (255 : Int32) at_20 rfl rfl ?_
  refine D0.iand at_23 rfl ?_
  refine D0.i2c at_24 rfl ?_
  refine D0.callSW (hw _ (List.mem_of_getElem? (i := 0) rfl)) (hw _ (List.mem_of_getElem? (i := 1) rfl)) (hw _ (List.mem_of_getElem? (i := 2) rfl)) (hw _ (List.mem_of_getElem? (i := 3) rfl)) (by decide) (rm1 l Z a0 hw (i3 &&& (3 : Int32)) ((i0 &&& (255 : Int32)).toUInt32.toUInt16.toUInt32.toInt32) ((i1 &&& (255 : Int32)).toUInt32.toUInt16.toUInt32.toInt32) ((i2 &&& (255 : Int32)).toUInt32.toUInt16.toUInt32.toInt32) cs h0 n0 D0.size S_COMPACT_STRINGS hcs X_Z hheld hcw (own_ch _) (own_ch _) (own_ch _)) (argsL := [(.int (i3 &&& (3 : Int32))), (.int ((i0 &&& (255 : Int32)).toUInt32.toUInt16.toUInt32.toInt32)), (.int ((i1 &&& (255 : Int32)).toUInt32.toUInt16.toUInt32.toInt32)), (.int ((i2 &&& (255 : Int32)).toUInt32.toUInt16.toUInt32.toInt32))]) pd1 rfl 0 (by decide) (by decide) (by decide) (by decide) (rest := []) rfl rfl (Nat.le_of_eq rfl) at_25 rfl (fun v1 T1 h1 C1 qq1 => ?_)
  obtain ⟨bz1, rfl, K1, p1_0, p1_1⟩ := qq1
  have K1 := ext_keep K1
  have X_Z := ext_trans X_Z K1
  have S_COMPACT_STRINGS := S_COMPACT_STRINGS.ext K1
  have S_DEFAULTCAPACITY_EMPTY_ELEMENTDATA := S_DEFAULTCAPACITY_EMPTY_ELEMENTDATA.ext K1
  have E_bz1 := p1_0
  have g_bz1 := p1_1
  show Go p e below F n0 (fun v _ => v = some (.int (1 : Int32))) T1 (mkF m 28 #[.val (.int i0), .val (.int i1), .val (.int i2), .val (.int i3), .val (.int (i3 &&& (3 : Int32))), .unset, .unset, .unset, .unset, .unset] [(.ref bz1)])
  refine C1.astore at_28 rfl rfl (L' := #[.val (.int i0), .val (.int i1), .val (.int i2), .val (.int i3), .val (.int (i3 &&& (3 : Int32))), .val (.ref bz1), .unset, .unset, .unset, .unset]) rfl ?_
  refine C1.iloadN at_30 rfl rfl ?_
  refine C1.iconst (2 : Int32) at_31 rfl rfl ?_
  refine C1.ishr at_32 rfl ?_
  refine C1.iconst (1 : Int32) at_33 rfl rfl ?_
  refine C1.iand at_34 rfl ?_
  refine C1.if_eq at_35 (by decide) (by decide : _ = 50) rfl (fun c35 => ?_) (fun c35 => ?_)
  · refine C1.iconst (0 : Int32) at_50 rfl rfl ?_
    refine C1.newrefs (hw _ (List.mem_of_getElem? (i := 4) rfl)) (hw _ (List.mem_of_getElem? (i := 34) rfl)) 0 (by decide) (by decide) (by decide) (by decide) (by decide) (ad := "[Ljava/lang/String;") rfl at_51 rfl (fun T2 h2 b2 k2 C2 e2 g_b2 E2 V_b2 E_b2 O_k2 => ?_)
    have ne_bz1_b2 : bz1 ≠ b2 := Nat.ne_of_lt (Nat.lt_of_lt_of_eq E_bz1.lt e2.symm)
    have X_Z := ext_trans X_Z E2
    have S_COMPACT_STRINGS := S_COMPACT_STRINGS.ext E2
    have S_DEFAULTCAPACITY_EMPTY_ELEMENTDATA := S_DEFAULTCAPACITY_EMPTY_ELEMENTDATA.ext E2
    have E_bz1 := E_bz1.ext E2
    have V_b2 : Arv Z h2 b2 k2 (.object "java/lang/String") (0 : Int32) ([] : List Value) .null := V_b2
    refine C2.astore at_54 rfl rfl (L' := #[.val (.int i0), .val (.int i1), .val (.int i2), .val (.int i3), .val (.int (i3 &&& (3 : Int32))), .val (.ref bz1), .val (.ref b2), .unset, .unset, .unset]) rfl ?_
    refine C2.new (hw _ (List.mem_of_getElem? (i := 35) rfl)) (hw _ (List.mem_of_getElem? (i := 36) rfl)) (hw _ (List.mem_of_getElem? (i := 37) rfl)) at_56 rfl (by decide) (by decide) (fun T3 h3 b3 C3 e3 g_b3 E3 E_b3 D3 => ?_)
    have ne_bz1_b3 : bz1 ≠ b3 := Nat.ne_of_lt (Nat.lt_of_lt_of_eq E_bz1.lt e3.symm)
    have ne_b2_b3 : b2 ≠ b3 := Nat.ne_of_lt (Nat.lt_of_lt_of_eq V_b2.lt e3.symm)
    have X_Z := ext_trans X_Z E3
    have S_COMPACT_STRINGS := S_COMPACT_STRINGS.ext E3
    have S_DEFAULTCAPACITY_EMPTY_ELEMENTDATA := S_DEFAULTCAPACITY_EMPTY_ELEMENTDATA.ext E3
    have E_bz1 := E_bz1.ext E3
    have V_b2 := V_b2.ext E3
    have E_b2 := E_b2.ext E3
    have F_b3_operands : Fld Z h3 b3 "com/example/bouncer/bouncer/cli/Arguments" "operands" "Ljava/util/List;" .null := D3 (Or.inr (hw _ (List.mem_of_getElem? (i := 71) rfl))) (ty := (.object "java/util/List")) (by decide)
    have F_b3_command : Fld Z h3 b3 "com/example/bouncer/bouncer/cli/Arguments" "command" "Ljava/lang/String;" .null := D3 (Or.inr (hw _ (List.mem_of_getElem? (i := 73) rfl))) (ty := (.object "java/lang/String")) (by decide)
    have F_b3_usage : Fld Z h3 b3 "com/example/bouncer/bouncer/cli/Arguments" "usage" "Ljava/lang/String;" .null := D3 (Or.inr (hw _ (List.mem_of_getElem? (i := 75) rfl))) (ty := (.object "java/lang/String")) (by decide)
    have F_b3_arguments : Fld Z h3 b3 "com/example/bouncer/bouncer/cli/Arguments" "arguments" "[Ljava/lang/String;" .null := D3 (Or.inr (hw _ (List.mem_of_getElem? (i := 86) rfl))) (ty := (.array (.object "java/lang/String"))) (by decide)
    have F_b3_maxOperands : Fld Z h3 b3 "com/example/bouncer/bouncer/cli/Arguments" "maxOperands" "I" (.int (0 : Int32)) := D3 (Or.inr (hw _ (List.mem_of_getElem? (i := 88) rfl))) (ty := .int) (by decide)
    have F_b3_next : Fld Z h3 b3 "com/example/bouncer/bouncer/cli/Arguments" "next" "I" (.int (0 : Int32)) := D3 (Or.inl (hw _ (List.mem_of_getElem? (i := 95) rfl))) (ty := .int) (by decide)
    refine C3.dup at_59 rfl rfl ?_
    refine C3.ldcStr (hw _ (List.mem_of_getElem? (i := 38) rfl)) (own_wS hw) 12 (by decide) (by decide) (by decide) (by decide) at_60 rfl (fun s4 T4 h4 C4 E4 => ?_)
    have X_Z := ext_trans X_Z E4
    have S_COMPACT_STRINGS := S_COMPACT_STRINGS.ext E4
    have S_DEFAULTCAPACITY_EMPTY_ELEMENTDATA := S_DEFAULTCAPACITY_EMPTY_ELEMENTDATA.ext E4
    have E_bz1 := E_bz1.ext E4
    have V_b2 := V_b2.ext E4
    have E_b2 := E_b2.ext E4
    have E_b3 := E_b3.ext E4
    have F_b3_operands := F_b3_operands.ext E4
    have F_b3_command := F_b3_command.ext E4
    have F_b3_usage := F_b3_usage.ext E4
    have F_b3_arguments := F_b3_arguments.ext E4
    have F_b3_maxOperands := F_b3_maxOperands.ext E4
    have F_b3_next := F_b3_next.ext E4
    refine C4.ldcStr (hw _ (List.mem_of_getElem? (i := 41) rfl)) (own_wS hw) 68 (by decide) (by decide) (by decide) (by decide) at_62 rfl (fun s5 T5 h5 C5 E5 => ?_)
    have X_Z := ext_trans X_Z E5
    have S_COMPACT_STRINGS := S_COMPACT_STRINGS.ext E5
    have S_DEFAULTCAPACITY_EMPTY_ELEMENTDATA := S_DEFAULTCAPACITY_EMPTY_ELEMENTDATA.ext E5
    have E_bz1 := E_bz1.ext E5
    have V_b2 := V_b2.ext E5
    have E_b2 := E_b2.ext E5
    have E_b3 := E_b3.ext E5
    have F_b3_operands := F_b3_operands.ext E5
    have F_b3_command := F_b3_command.ext E5
    have F_b3_usage := F_b3_usage.ext E5
    have F_b3_arguments := F_b3_arguments.ext E5
    have F_b3_maxOperands := F_b3_maxOperands.ext E5
    have F_b3_next := F_b3_next.ext E5
    refine C5.aload at_64 rfl rfl rfl ?_
    refine C5.iloadN at_66 rfl rfl ?_
    refine C5.iconst (3 : Int32) at_67 rfl rfl ?_
    refine C5.ishr at_68 rfl ?_
    refine C5.iconst (3 : Int32) at_69 rfl rfl ?_
    refine C5.iand at_70 rfl ?_
    refine C5.callN rfl (hw _ (List.mem_of_getElem? (i := 42) rfl)) (hw _ (List.mem_of_getElem? (i := 43) rfl)) (hw _ (List.mem_of_getElem? (i := 37) rfl)) (hw _ (List.mem_of_getElem? (i := 44) rfl)) (by decide) (a := b3) (rm8 l Z a0 hw b3 s4 s5 b2 ((i3 >>> ((3 : Int32) &&& 31)) &&& (3 : Int32)) de .null .null .null .null (.int (0 : Int32)) k2 (0 : Int32) [] .null h5 n0 C5.size E_b3 F_b3_operands F_b3_command F_b3_usage F_b3_arguments F_b3_maxOperands F_b3_next g_b3 S_DEFAULTCAPACITY_EMPTY_ELEMENTDATA E_b2 V_b2 (by decide)) (argsL := [(.ref s4), (.ref s5), (.ref b2), (.int ((i3 >>> ((3 : Int32) &&& 31)) &&& (3 : Int32)))]) pd8 rfl 1 (by decide) (by decide) (by decide) (by decide) (rest := [(.ref b3)]) rfl rfl (Nat.le_of_eq rfl) at_71 rfl (fun v6 T6 h6 C6 qq6 => ?_)
    obtain ⟨bc6, rfl, K6, p6_0, p6_1, p6_2, p6_3, p6_4, p6_5⟩ := qq6
    have S_COMPACT_STRINGS := own_stak S_COMPACT_STRINGS K6 (allS (own_plainE E_b3) (all0))
    have S_DEFAULTCAPACITY_EMPTY_ELEMENTDATA := own_stak S_DEFAULTCAPACITY_EMPTY_ELEMENTDATA K6 (allS (own_plainE E_b3) (all0))
    have E_bz1 := E_bz1.keep K6
    have V_b2 := V_b2.keep K6 (ninS ne_b2_b3 nin0)
    have E_b2 := E_b2.keep K6
    have E_b3 := E_b3.keep K6
    have E_b3 := p6_0
    have F_b3_arguments := p6_1
    have F_b3_next := p6_2
    have E_bc6 := p6_3
    have V_bc6 := p6_4
    have g_bc6 := p6_5
    show Go p e below F n0 (fun v _ => v = some (.int (1 : Int32))) T6 (mkF m 74 #[.val (.int i0), .val (.int i1), .val (.int i2), .val (.int i3), .val (.int (i3 &&& (3 : Int32))), .val (.ref bz1), .val (.ref b2), .unset, .unset, .unset] [(.ref b3)])
    refine C6.astore at_74 rfl rfl (L' := #[.val (.int i0), .val (.int i1), .val (.int i2), .val (.int i3), .val (.int (i3 &&& (3 : Int32))), .val (.ref bz1), .val (.ref b2), .val (.ref b3), .unset, .unset]) rfl ?_
    refine C6.aload at_76 rfl rfl rfl ?_
    refine C6.callV (hw _ (List.mem_of_getElem? (i := 89) rfl)) (hw _ (List.mem_of_getElem? (i := 90) rfl)) (hw _ (List.mem_of_getElem? (i := 92) rfl)) (hw _ (List.mem_of_getElem? (i := 91) rfl)) (hw _ (List.mem_of_getElem? (i := 37) rfl)) (hw _ (List.mem_of_getElem? (i := 93) rfl)) E_b3 (by decide) (a := b3) (rm12 l Z a0 hw b3 bc6 (0 : Int32) k2 (0 : Int32) [] .null h6 n0 C6.size F_b3_arguments F_b3_next V_bc6) (argsL := []) pd12 rfl 0 (by decide) (by decide) (by decide) (by decide) (rest := []) rfl rfl (Nat.le_of_eq rfl) at_78 rfl (fun v7 T7 h7 C7 qq7 => ?_)
    obtain ⟨rfl, hh7⟩ := qq7
    have hh7 := hh7.symm; subst hh7
    show Go p e below F n0 (fun v _ => v = some (.int (1 : Int32))) T7 (mkF m 81 #[.val (.int i0), .val (.int i1), .val (.int i2), .val (.int i3), .val (.int (i3 &&& (3 : Int32))), .val (.ref bz1), .val (.ref b2), .val (.ref b3), .unset, .unset] [(.int (f12 (0 : Int32) (0 : Int32)))])
    refine C7.istore at_81 rfl (L' := #[.val (.int i0), .val (.int i1), .val (.int i2), .val (.int i3), .val (.int (i3 &&& (3 : Int32))), .val (.ref bz1), .val (.ref b2), .val (.ref b3), .val (.int (f12 (0 : Int32) (0 : Int32))), .unset]) rfl ?_
    refine C7.aload at_83 rfl rfl rfl ?_
    refine C7.aload at_85 rfl rfl rfl ?_
    refine C7.callV (hw _ (List.mem_of_getElem? (i := 96) rfl)) (hw _ (List.mem_of_getElem? (i := 97) rfl)) (hw _ (List.mem_of_getElem? (i := 99) rfl)) (hw _ (List.mem_of_getElem? (i := 98) rfl)) (hw _ (List.mem_of_getElem? (i := 37) rfl)) (hw _ (List.mem_of_getElem? (i := 100) rfl)) E_b3 (by decide) (a := b3) (rm13 l Z a0 hw b3 bz1 h6 n0 C7.size ) (argsL := [(.ref bz1)]) pd13 rfl 0 (by decide) (by decide) (by decide) (by decide) (rest := []) rfl rfl (Nat.le_of_eq rfl) at_87 rfl (fun v8 T8 h8 C8 qq8 => ?_)
    obtain ⟨rfl, hh8⟩ := qq8
    have hh8 := hh8.symm; subst hh8
    show Go p e below F n0 (fun v _ => v = some (.int (1 : Int32))) T8 (mkF m 90 #[.val (.int i0), .val (.int i1), .val (.int i2), .val (.int i3), .val (.int (i3 &&& (3 : Int32))), .val (.ref bz1), .val (.ref b2), .val (.ref b3), .val (.int (f12 (0 : Int32) (0 : Int32))), .unset] [(.ref bz1)])
    refine C8.astore at_90 rfl rfl (L' := #[.val (.int i0), .val (.int i1), .val (.int i2), .val (.int i3), .val (.int (i3 &&& (3 : Int32))), .val (.ref bz1), .val (.ref b2), .val (.ref b3), .val (.int (f12 (0 : Int32) (0 : Int32))), .val (.ref bz1)]) rfl ?_
    refine C8.aload at_92 rfl rfl rfl ?_
    refine C8.aload at_94 rfl rfl rfl ?_
    refine C8.acmp_ne at_96 (by decide) (by decide : _ = 113) rfl (fun q => absurd rfl q) (fun _ => ?_)
    refine C8.aload at_99 rfl rfl rfl ?_
    refine C8.callV (hw _ (List.mem_of_getElem? (i := 89) rfl)) (hw _ (List.mem_of_getElem? (i := 90) rfl)) (hw _ (List.mem_of_getElem? (i := 92) rfl)) (hw _ (List.mem_of_getElem? (i := 91) rfl)) (hw _ (List.mem_of_getElem? (i := 37) rfl)) (hw _ (List.mem_of_getElem? (i := 93) rfl)) E_b3 (by decide) (a := b3) (rm12 l Z a0 hw b3 bc6 (0 : Int32) k2 (0 : Int32) [] .null h6 n0 C8.size F_b3_arguments F_b3_next V_bc6) (argsL := []) pd12 rfl 0 (by decide) (by decide) (by decide) (by decide) (rest := []) rfl rfl (Nat.le_of_eq rfl) at_101 rfl (fun v9 T9 h9 C9 qq9 => ?_)
    obtain ⟨rfl, hh9⟩ := qq9
    have hh9 := hh9.symm; subst hh9
    show Go p e below F n0 (fun v _ => v = some (.int (1 : Int32))) T9 (mkF m 104 #[.val (.int i0), .val (.int i1), .val (.int i2), .val (.int i3), .val (.int (i3 &&& (3 : Int32))), .val (.ref bz1), .val (.ref b2), .val (.ref b3), .val (.int (f12 (0 : Int32) (0 : Int32))), .val (.ref bz1)] [(.int (f12 (0 : Int32) (0 : Int32)))])
    refine C9.iload at_104 rfl rfl ?_
    refine C9.icmp_ne at_106 (by decide) (by decide : _ = 113) rfl (fun q => absurd rfl q) (fun _ => ?_)
    refine C9.iconst (1 : Int32) at_109 rfl rfl ?_
    refine C9.goto at_110 (by decide) (by decide : _ = 114) ?_
    exact C9.retN (t := .boolean) at_114 rfl (by simp) (by decide) (by decide) (w := (1 : Int32)) rfl rfl
  · refine C1.iconst (1 : Int32) at_38 rfl rfl ?_
    refine C1.newrefs (hw _ (List.mem_of_getElem? (i := 4) rfl)) (hw _ (List.mem_of_getElem? (i := 34) rfl)) 1 (by decide) (by decide) (by decide) (by decide) (by decide) (ad := "[Ljava/lang/String;") rfl at_39 rfl (fun T10 h10 b10 k10 C10 e10 g_b10 E10 V_b10 E_b10 O_k10 => ?_)
    have ne_bz1_b10 : bz1 ≠ b10 := Nat.ne_of_lt (Nat.lt_of_lt_of_eq E_bz1.lt e10.symm)
    have X_Z := ext_trans X_Z E10
    have S_COMPACT_STRINGS := S_COMPACT_STRINGS.ext E10
    have S_DEFAULTCAPACITY_EMPTY_ELEMENTDATA := S_DEFAULTCAPACITY_EMPTY_ELEMENTDATA.ext E10
    have E_bz1 := E_bz1.ext E10
    have V_b10 : Arv Z h10 b10 k10 (.object "java/lang/String") (1 : Int32) ([.null] : List Value) .null := V_b10
    refine C10.dup at_42 rfl rfl ?_
    refine C10.iconst (0 : Int32) at_43 rfl rfl ?_
    refine C10.aload at_44 rfl rfl rfl ?_
    refine C10.aastore V_b10 O_k10 (Ins.self E_bz1) ⟨by decide, by decide⟩ (Nat.le_of_ble_eq_true rfl) g_b10 at_46 rfl (fun T11 h11 C11 W11 Vn11 => ?_)
    have S_COMPACT_STRINGS := S_COMPACT_STRINGS.wr W11
    have S_DEFAULTCAPACITY_EMPTY_ELEMENTDATA := S_DEFAULTCAPACITY_EMPTY_ELEMENTDATA.wr W11
    have E_bz1 := E_bz1.wr W11
    have E_b10 := E_b10.wr W11
    have V_b10 : Arv Z h11 b10 k10 (.object "java/lang/String") (1 : Int32) [(.ref bz1)] .null := Vn11
    refine C11.goto at_47 (by decide) (by decide : _ = 54) ?_
    refine C11.astore at_54 rfl rfl (L' := #[.val (.int i0), .val (.int i1), .val (.int i2), .val (.int i3), .val (.int (i3 &&& (3 : Int32))), .val (.ref bz1), .val (.ref b10), .unset, .unset, .unset]) rfl ?_
    refine C11.new (hw _ (List.mem_of_getElem? (i := 35) rfl)) (hw _ (List.mem_of_getElem? (i := 36) rfl)) (hw _ (List.mem_of_getElem? (i := 37) rfl)) at_56 rfl (by decide) (by decide) (fun T12 h12 b12 C12 e12 g_b12 E12 E_b12 D12 => ?_)
    have ne_bz1_b12 : bz1 ≠ b12 := Nat.ne_of_lt (Nat.lt_of_lt_of_eq E_bz1.lt e12.symm)
    have ne_b10_b12 : b10 ≠ b12 := Nat.ne_of_lt (Nat.lt_of_lt_of_eq V_b10.lt e12.symm)
    have S_COMPACT_STRINGS := S_COMPACT_STRINGS.ext E12
    have S_DEFAULTCAPACITY_EMPTY_ELEMENTDATA := S_DEFAULTCAPACITY_EMPTY_ELEMENTDATA.ext E12
    have E_bz1 := E_bz1.ext E12
    have V_b10 := V_b10.ext E12
    have E_b10 := E_b10.ext E12
    have F_b12_operands : Fld Z h12 b12 "com/example/bouncer/bouncer/cli/Arguments" "operands" "Ljava/util/List;" .null := D12 (Or.inr (hw _ (List.mem_of_getElem? (i := 71) rfl))) (ty := (.object "java/util/List")) (by decide)
    have F_b12_command : Fld Z h12 b12 "com/example/bouncer/bouncer/cli/Arguments" "command" "Ljava/lang/String;" .null := D12 (Or.inr (hw _ (List.mem_of_getElem? (i := 73) rfl))) (ty := (.object "java/lang/String")) (by decide)
    have F_b12_usage : Fld Z h12 b12 "com/example/bouncer/bouncer/cli/Arguments" "usage" "Ljava/lang/String;" .null := D12 (Or.inr (hw _ (List.mem_of_getElem? (i := 75) rfl))) (ty := (.object "java/lang/String")) (by decide)
    have F_b12_arguments : Fld Z h12 b12 "com/example/bouncer/bouncer/cli/Arguments" "arguments" "[Ljava/lang/String;" .null := D12 (Or.inr (hw _ (List.mem_of_getElem? (i := 86) rfl))) (ty := (.array (.object "java/lang/String"))) (by decide)
    have F_b12_maxOperands : Fld Z h12 b12 "com/example/bouncer/bouncer/cli/Arguments" "maxOperands" "I" (.int (0 : Int32)) := D12 (Or.inr (hw _ (List.mem_of_getElem? (i := 88) rfl))) (ty := .int) (by decide)
    have F_b12_next : Fld Z h12 b12 "com/example/bouncer/bouncer/cli/Arguments" "next" "I" (.int (0 : Int32)) := D12 (Or.inl (hw _ (List.mem_of_getElem? (i := 95) rfl))) (ty := .int) (by decide)
    refine C12.dup at_59 rfl rfl ?_
    refine C12.ldcStr (hw _ (List.mem_of_getElem? (i := 38) rfl)) (own_wS hw) 12 (by decide) (by decide) (by decide) (by decide) at_60 rfl (fun s13 T13 h13 C13 E13 => ?_)
    have S_COMPACT_STRINGS := S_COMPACT_STRINGS.ext E13
    have S_DEFAULTCAPACITY_EMPTY_ELEMENTDATA := S_DEFAULTCAPACITY_EMPTY_ELEMENTDATA.ext E13
    have E_bz1 := E_bz1.ext E13
    have V_b10 := V_b10.ext E13
    have E_b10 := E_b10.ext E13
    have E_b12 := E_b12.ext E13
    have F_b12_operands := F_b12_operands.ext E13
    have F_b12_command := F_b12_command.ext E13
    have F_b12_usage := F_b12_usage.ext E13
    have F_b12_arguments := F_b12_arguments.ext E13
    have F_b12_maxOperands := F_b12_maxOperands.ext E13
    have F_b12_next := F_b12_next.ext E13
    refine C13.ldcStr (hw _ (List.mem_of_getElem? (i := 41) rfl)) (own_wS hw) 68 (by decide) (by decide) (by decide) (by decide) at_62 rfl (fun s14 T14 h14 C14 E14 => ?_)
    have S_COMPACT_STRINGS := S_COMPACT_STRINGS.ext E14
    have S_DEFAULTCAPACITY_EMPTY_ELEMENTDATA := S_DEFAULTCAPACITY_EMPTY_ELEMENTDATA.ext E14
    have E_bz1 := E_bz1.ext E14
    have V_b10 := V_b10.ext E14
    have E_b10 := E_b10.ext E14
    have E_b12 := E_b12.ext E14
    have F_b12_operands := F_b12_operands.ext E14
    have F_b12_command := F_b12_command.ext E14
    have F_b12_usage := F_b12_usage.ext E14
    have F_b12_arguments := F_b12_arguments.ext E14
    have F_b12_maxOperands := F_b12_maxOperands.ext E14
    have F_b12_next := F_b12_next.ext E14
    refine C14.aload at_64 rfl rfl rfl ?_
    refine C14.iloadN at_66 rfl rfl ?_
    refine C14.iconst (3 : Int32) at_67 rfl rfl ?_
    refine C14.ishr at_68 rfl ?_
    refine C14.iconst (3 : Int32) at_69 rfl rfl ?_
    refine C14.iand at_70 rfl ?_
    refine C14.callN rfl (hw _ (List.mem_of_getElem? (i := 42) rfl)) (hw _ (List.mem_of_getElem? (i := 43) rfl)) (hw _ (List.mem_of_getElem? (i := 37) rfl)) (hw _ (List.mem_of_getElem? (i := 44) rfl)) (by decide) (a := b12) (rm8 l Z a0 hw b12 s13 s14 b10 ((i3 >>> ((3 : Int32) &&& 31)) &&& (3 : Int32)) de .null .null .null .null (.int (0 : Int32)) k10 (1 : Int32) [(.ref bz1)] .null h14 n0 C14.size E_b12 F_b12_operands F_b12_command F_b12_usage F_b12_arguments F_b12_maxOperands F_b12_next g_b12 S_DEFAULTCAPACITY_EMPTY_ELEMENTDATA E_b10 V_b10 (by decide)) (argsL := [(.ref s13), (.ref s14), (.ref b10), (.int ((i3 >>> ((3 : Int32) &&& 31)) &&& (3 : Int32)))]) pd8 rfl 1 (by decide) (by decide) (by decide) (by decide) (rest := [(.ref b12)]) rfl rfl (Nat.le_of_eq rfl) at_71 rfl (fun v15 T15 h15 C15 qq15 => ?_)
    obtain ⟨bc15, rfl, K15, p15_0, p15_1, p15_2, p15_3, p15_4, p15_5⟩ := qq15
    have S_COMPACT_STRINGS := own_stak S_COMPACT_STRINGS K15 (allS (own_plainE E_b12) (all0))
    have S_DEFAULTCAPACITY_EMPTY_ELEMENTDATA := own_stak S_DEFAULTCAPACITY_EMPTY_ELEMENTDATA K15 (allS (own_plainE E_b12) (all0))
    have E_bz1 := E_bz1.keep K15
    have V_b10 := V_b10.keep K15 (ninS ne_b10_b12 nin0)
    have E_b10 := E_b10.keep K15
    have E_b12 := E_b12.keep K15
    have E_b12 := p15_0
    have F_b12_arguments := p15_1
    have F_b12_next := p15_2
    have E_bc15 := p15_3
    have V_bc15 := p15_4
    have g_bc15 := p15_5
    show Go p e below F n0 (fun v _ => v = some (.int (1 : Int32))) T15 (mkF m 74 #[.val (.int i0), .val (.int i1), .val (.int i2), .val (.int i3), .val (.int (i3 &&& (3 : Int32))), .val (.ref bz1), .val (.ref b10), .unset, .unset, .unset] [(.ref b12)])
    refine C15.astore at_74 rfl rfl (L' := #[.val (.int i0), .val (.int i1), .val (.int i2), .val (.int i3), .val (.int (i3 &&& (3 : Int32))), .val (.ref bz1), .val (.ref b10), .val (.ref b12), .unset, .unset]) rfl ?_
    refine C15.aload at_76 rfl rfl rfl ?_
    refine C15.callV (hw _ (List.mem_of_getElem? (i := 89) rfl)) (hw _ (List.mem_of_getElem? (i := 90) rfl)) (hw _ (List.mem_of_getElem? (i := 92) rfl)) (hw _ (List.mem_of_getElem? (i := 91) rfl)) (hw _ (List.mem_of_getElem? (i := 37) rfl)) (hw _ (List.mem_of_getElem? (i := 93) rfl)) E_b12 (by decide) (a := b12) (rm12 l Z a0 hw b12 bc15 (0 : Int32) k10 (1 : Int32) [(.ref bz1)] .null h15 n0 C15.size F_b12_arguments F_b12_next V_bc15) (argsL := []) pd12 rfl 0 (by decide) (by decide) (by decide) (by decide) (rest := []) rfl rfl (Nat.le_of_eq rfl) at_78 rfl (fun v16 T16 h16 C16 qq16 => ?_)
    obtain ⟨rfl, hh16⟩ := qq16
    have hh16 := hh16.symm; subst hh16
    show Go p e below F n0 (fun v _ => v = some (.int (1 : Int32))) T16 (mkF m 81 #[.val (.int i0), .val (.int i1), .val (.int i2), .val (.int i3), .val (.int (i3 &&& (3 : Int32))), .val (.ref bz1), .val (.ref b10), .val (.ref b12), .unset, .unset] [(.int (f12 (0 : Int32) (1 : Int32)))])
    refine C16.istore at_81 rfl (L' := #[.val (.int i0), .val (.int i1), .val (.int i2), .val (.int i3), .val (.int (i3 &&& (3 : Int32))), .val (.ref bz1), .val (.ref b10), .val (.ref b12), .val (.int (f12 (0 : Int32) (1 : Int32))), .unset]) rfl ?_
    refine C16.aload at_83 rfl rfl rfl ?_
    refine C16.aload at_85 rfl rfl rfl ?_
    refine C16.callV (hw _ (List.mem_of_getElem? (i := 96) rfl)) (hw _ (List.mem_of_getElem? (i := 97) rfl)) (hw _ (List.mem_of_getElem? (i := 99) rfl)) (hw _ (List.mem_of_getElem? (i := 98) rfl)) (hw _ (List.mem_of_getElem? (i := 37) rfl)) (hw _ (List.mem_of_getElem? (i := 100) rfl)) E_b12 (by decide) (a := b12) (rm13 l Z a0 hw b12 bz1 h15 n0 C16.size ) (argsL := [(.ref bz1)]) pd13 rfl 0 (by decide) (by decide) (by decide) (by decide) (rest := []) rfl rfl (Nat.le_of_eq rfl) at_87 rfl (fun v17 T17 h17 C17 qq17 => ?_)
    obtain ⟨rfl, hh17⟩ := qq17
    have hh17 := hh17.symm; subst hh17
    show Go p e below F n0 (fun v _ => v = some (.int (1 : Int32))) T17 (mkF m 90 #[.val (.int i0), .val (.int i1), .val (.int i2), .val (.int i3), .val (.int (i3 &&& (3 : Int32))), .val (.ref bz1), .val (.ref b10), .val (.ref b12), .val (.int (f12 (0 : Int32) (1 : Int32))), .unset] [(.ref bz1)])
    refine C17.astore at_90 rfl rfl (L' := #[.val (.int i0), .val (.int i1), .val (.int i2), .val (.int i3), .val (.int (i3 &&& (3 : Int32))), .val (.ref bz1), .val (.ref b10), .val (.ref b12), .val (.int (f12 (0 : Int32) (1 : Int32))), .val (.ref bz1)]) rfl ?_
    refine C17.aload at_92 rfl rfl rfl ?_
    refine C17.aload at_94 rfl rfl rfl ?_
    refine C17.acmp_ne at_96 (by decide) (by decide : _ = 113) rfl (fun q => absurd rfl q) (fun _ => ?_)
    refine C17.aload at_99 rfl rfl rfl ?_
    refine C17.callV (hw _ (List.mem_of_getElem? (i := 89) rfl)) (hw _ (List.mem_of_getElem? (i := 90) rfl)) (hw _ (List.mem_of_getElem? (i := 92) rfl)) (hw _ (List.mem_of_getElem? (i := 91) rfl)) (hw _ (List.mem_of_getElem? (i := 37) rfl)) (hw _ (List.mem_of_getElem? (i := 93) rfl)) E_b12 (by decide) (a := b12) (rm12 l Z a0 hw b12 bc15 (0 : Int32) k10 (1 : Int32) [(.ref bz1)] .null h15 n0 C17.size F_b12_arguments F_b12_next V_bc15) (argsL := []) pd12 rfl 0 (by decide) (by decide) (by decide) (by decide) (rest := []) rfl rfl (Nat.le_of_eq rfl) at_101 rfl (fun v18 T18 h18 C18 qq18 => ?_)
    obtain ⟨rfl, hh18⟩ := qq18
    have hh18 := hh18.symm; subst hh18
    show Go p e below F n0 (fun v _ => v = some (.int (1 : Int32))) T18 (mkF m 104 #[.val (.int i0), .val (.int i1), .val (.int i2), .val (.int i3), .val (.int (i3 &&& (3 : Int32))), .val (.ref bz1), .val (.ref b10), .val (.ref b12), .val (.int (f12 (0 : Int32) (1 : Int32))), .val (.ref bz1)] [(.int (f12 (0 : Int32) (1 : Int32)))])
    refine C18.iload at_104 rfl rfl ?_
    refine C18.icmp_ne at_106 (by decide) (by decide : _ = 113) rfl (fun q => absurd rfl q) (fun _ => ?_)
    refine C18.iconst (1 : Int32) at_109 rfl rfl ?_
    refine C18.goto at_110 (by decide) (by decide : _ = 114) ?_
    exact C18.retN (t := .boolean) at_114 rfl (by simp) (by decide) (by decide) (w := (1 : Int32)) rfl rfl
set_option maxRecDepth 65536 in
set_option maxHeartbeats 40000000 in
theorem comes_1 {Post : Tables → Env → Array Value → State → Outcome → State → Prop} (hpost : ∀ tb e args s v u, (limb_1_1.after args s (.returned v) u = true ∧ limb_1_2.after args s (.returned v) u = true ∧ True) → Jvm.D.FramedW s (.returned v) u (Jvm.fieldLocs frame_1_writes args s ++ Jvm.arrayLocs frame_1_arrays args s ++ Jvm.staticLocs frame_1_statics s) 32 3200 → Post tb e args s (.returned v) u) :
    ArmFor flags0 classFile x code maxLocals ret World_1 tables_1 room_1 Calls_1 rest_1 Pre_1 Post := by
  intro l hfl _ _ p e ha hc hk s m args below hf hA hF happ hP
  obtain ⟨hcalls, hrest, hpre⟩ := hP
  obtain ⟨-, -, -, hnamed, -, -, -, hat⟩ := (Spec.applies_iff hf).mp happ
  obtain ⟨hg, hn⟩ := and_e (Cond.before_iff.mp (show (Jvm.Cond.and given_1 narrow_1).before args s = true from hpre))
  obtain ⟨g1, g2⟩ := and_e hg
  obtain ⟨g3, g4⟩ := and_e g2
  obtain ⟨g5, g6⟩ := and_e g4
  obtain ⟨g7, g8⟩ := and_e g6
  obtain ⟨w0, w1, w2, w3, rfl⟩ : ∃ w0 w1 w2 w3 : Value, args = #[w0, w1, w2, w3] := by
    have hs : args.size = 4 := by simpa [Cond.value, given_1] using g1
    obtain ⟨L⟩ := args
    match L, hs with
    | [w0, w1, w2, w3], _ => exact ⟨w0, w1, w2, w3, rfl⟩
  have hw := fun d (hd : d ∈ tables_1) => atoms_spec (ws := Jvm.Cond.code x code maxLocals ret :: tables_1) hat d (List.mem_cons_of_mem _ hd)
  have hfit : Fit s := fun {y c} hc i hi => by
    obtain ⟨ha, rfl⟩ := Array.getElem?_eq_some_iff.mp hc
    have q := List.all_eq_true.mp ((Array.all_eq_true_iff_forall_mem.mp hF) _ (Array.getElem_mem ha)) i (List.mem_range.mpr hi)
    simpa [Array.getElem?_eq_getElem hi] using q
  obtain ⟨hsets, hown0⟩ := atoms_of _ (rest_1_c_eq ▸ (show rest_1_c.before _ s = true from hrest))
  have hr0 := Cond.before_iff.mp hown0
  obtain ⟨i0, ei0⟩ := is_v g3
  obtain rfl : w0 = (.int i0) := Option.some.inj ei0
  obtain ⟨i1, ei1⟩ := is_v g5
  obtain rfl : w1 = (.int i1) := Option.some.inj ei1
  obtain ⟨i2, ei2⟩ := is_v g7
  obtain rfl : w2 = (.int i2) := Option.some.inj ei2
  obtain ⟨i3, ei3⟩ := is_v g8
  obtain rfl : w3 = (.int i3) := Option.some.inj ei3
  obtain ⟨cs, evc⟩ := is_v (Cond.before_iff.mp (hsets _ (List.mem_of_getElem? (i := 1) rfl)))
  have S1 := Sta.start evc (Or.inl (hsets _ (List.mem_of_getElem? (i := 0) rfl)))
  have hcs := own_nz evc (Cond.before_iff.mp (hsets _ (List.mem_of_getElem? (i := 2) rfl)))
  obtain ⟨de, ev1⟩ := exa_v (Cond.before_iff.mp (hsets _ (List.mem_of_getElem? (i := 16) rfl)))
  have S2 := Sta.start ev1 (Or.inr ⟨(hw _ (List.mem_of_getElem? (i := 48) rfl)), hsets _ (List.mem_of_getElem? (i := 11) rfl)⟩)
  have hheld : Jvm.Lit.constHeld s "java/lang/String" 7 := hcalls.1 ("java/lang/String", 7) (by simp [consts_1])
  have hcw : Jvm.Lit.compactW.before _ s = true := hsets _ (List.mem_of_getElem? (i := 2) rfl)
  obtain ⟨n, o, h1, h2, h3, _, L, rfl, ⟨⟨rfl, -⟩, N⟩, hq⟩ := rm0 l s _ hw i0 i1 i2 i3 cs de s.heap s.heap.size (Nat.le_refl _) S1 hcs S2 ⟨Nat.le_refl _, fun _ _ q => q⟩ hheld hcw tables_1 p e ha hc hk s m _ below hf ((Spec.applies_iff_loose hf).mp happ).1 ⟨rfl, State.Warmed39.refl s, rfl, rfl⟩ trivial
  refine ⟨n, _, h1, h2, h3, hpost _ _ _ _ _ _ ⟨Cond.after_iff.mpr rfl, Cond.after_iff.mpr (eq_i res_at (Term.int_eval (1)) rfl), trivial⟩ ⟨hq.1, hq.2.1, hq.2.2.1, (hq.2.2.2.sift fun y hy => Or.inr (N y hy)).mono (by decide) (by decide)⟩⟩
theorem main_1_1 : Claimed_1_1 := comes_1 fun _ _ _ _ _ _ h hF => ⟨h.1, hF⟩
theorem main_1_2 : Claimed_1_2 := comes_1 fun _ _ _ _ _ _ h hF => ⟨h.2.1, hF⟩
end Jvm.Pilot.@@N@@
namespace Jvm.Pilot.@@N@@
open Jvm Jvm.ClassFile Sem Op Lib Jvm.Free Jvm.Stand Jvm.Pilot.@@N@@.Jvm.D
/-! MADE BY PROGRAM (witnessworld.py) out of the Statement's table words and the real class files: 30 classes; the members and pool entries that the words name. The judged class is class 1, her method 2. -/
namespace start1
open Jvm.ClassFile
def u (s : String) : CpInfo := .utf8 (stringToUtf16 s)
/-- a pool by its gaps: so many unusable entries, then the entry; so many at the end -/
def gap : Nat → List CpInfo → List CpInfo
  | 0, r => r
  | n + 1, r => .unusable :: gap n r
def poolList (es : List (Nat × CpInfo)) (last : Nat) : List CpInfo := es.foldr (fun e r => gap e.1 (e.2 :: r)) (gap last [])
def pool (es : List (Nat × CpInfo)) (last : Nat) : Array CpInfo := ⟨poolList es last⟩
def fileOf (pool : Array CpInfo) (this : Nat) (attrs : Array Attribute := #[]) (ms : Array MethodInfo := #[]) (fl : Nat := 33) (sup : Nat := 0) (ifs : Array Nat := #[]) (fds : Array FieldInfo := #[]) : ClassFile where
  minorVersion := 0
  majorVersion := 65
  constantPool := pool
  accessFlags := fl
  thisClass := this
  superClass := sup
  interfaces := ifs
  fields := fds
  methods := ms
  attributes := attrs
def plain (name : String) (sup : Option ClassId) : Class where
  name := name
  kind := .ordinary
  loader := none
  accessFlags := 33
  super := sup
  interfaces := #[]
  cf := none
  fields := #[]
  methods := #[]
  instanceTypes := #[]
  staticTypes := #[]
  resolved := #[]
  callSites := []
  init := .initialized
  statics := none
  mirror := none

def pool0 : Array CpInfo := pool [(5, u "<init>"), (0, u "()V"), (1, .class_ 10), (1, u "java/lang/Object"), (85, u "clone"), (0, u "()Ljava/lang/Object;")] 26

def k0c0 : Code := { maxStack := 0, maxLocals := 1, code := object_method_1_code, exceptionTable := #[], attributes := #[] }
def k0m0 : Method := { name := "<init>", desc := "()V", sig := { parameters := [], returnType := none }, accessFlags := 1, code := some k0c0 }
def k0m1 : Method := { name := "clone", desc := "()Ljava/lang/Object;", sig := { parameters := [], returnType := some (.object "java/lang/Object") }, accessFlags := 260, code := none }
/-- java/lang/Object -/
def k0 : Class := { plain "java/lang/Object" none with
  accessFlags := 33
  interfaces := #[]
  cf := some (fileOf pool0 8 #[] #[{ accessFlags := 1, nameIndex := 5, descriptorIndex := 6, attributes := #[] }, { accessFlags := 260, nameIndex := 96, descriptorIndex := 97, attributes := #[] }] 33 0 #[] #[])
  fields := #[]
  methods := #[k0m0, k0m1]
  instanceTypes := #[]
  staticTypes := #[]
  resolved := Array.replicate 124 none
  statics := none }

def pool1 : Array CpInfo := pool [(2, .class_ 4), (1, u "java/lang/Object"), (0, u "<init>"), (0, u "()V"), (0, .class_ 8), (0, u "java/lang/String"), (0, .methodref 7 10), (0, .nameAndType 5 11), (0, u "([C)V"), (0, .methodref 13 14), (0, .class_ 15), (0, .nameAndType 16 17), (0, u "com/example/bouncer/bouncer/cli/ArgumentsRequiredOutputPinLaw"), (0, u "str"), (0, u "(ICCC)Ljava/lang/String;"), (0, .class_ 19), (0, u "com/example/bouncer/bouncer/cli/Arguments"), (0, .string 21), (0, u "cmd"), (0, .string 23), (0, u "cmd --output FILE"), (0, .methodref 18 25), (0, .nameAndType 5 26), (0, u "(Ljava/lang/String;Ljava/lang/String;[Ljava/lang/String;I)V"), (0, .methodref 18 28), (0, .nameAndType 29 30), (0, u "hasNext"), (0, u "()Z"), (0, .methodref 18 32), (0, .nameAndType 33 34), (0, u "requiredOutput"), (0, u "(Ljava/lang/String;)Ljava/lang/String;"), (3, u "law"), (0, u "(IIII)Z")] 7

def k1m0 : Method := { name := "<init>", desc := "()V", sig := { parameters := [], returnType := none }, accessFlags := 2, code := none }
def k1c1 : Code := { maxStack := 6, maxLocals := 4, code := method_2_code, exceptionTable := #[], attributes := #[] }
def k1m1 : Method := { name := "str", desc := "(ICCC)Ljava/lang/String;", sig := { parameters := [.int, .char, .char, .char], returnType := some (.object "java/lang/String") }, accessFlags := 10, code := some k1c1 }
def k1c2 : Code := { maxStack := 7, maxLocals := 10, code := code, exceptionTable := #[], attributes := #[] }
def k1m2 : Method := { name := "law", desc := "(IIII)Z", sig := { parameters := [.int, .int, .int, .int], returnType := some .boolean }, accessFlags := 9, code := some k1c2 }
/-- com/example/bouncer/bouncer/cli/ArgumentsRequiredOutputPinLaw -/
def k1 : Class := { plain "com/example/bouncer/bouncer/cli/ArgumentsRequiredOutputPinLaw" (some 0) with
  accessFlags := 49
  interfaces := #[]
  cf := some (fileOf pool1 13 #[] #[{ accessFlags := 2, nameIndex := 5, descriptorIndex := 6, attributes := #[] }, { accessFlags := 10, nameIndex := 16, descriptorIndex := 17, attributes := #[] }, { accessFlags := 9, nameIndex := 38, descriptorIndex := 39, attributes := #[] }] 49 2 #[] #[])
  fields := #[]
  methods := #[k1m0, k1m1, k1m2]
  instanceTypes := #[]
  staticTypes := #[]
  resolved := Array.replicate 47 none
  statics := none }

def pool2 : Array CpInfo := pool [(1, .class_ 2), (0, u "java/io/Serializable"), (0, .class_ 4), (0, u "java/lang/Object")] 2

/-- java/io/Serializable -/
def k2 : Class := { plain "java/io/Serializable" (some 0) with
  accessFlags := 1537
  interfaces := #[]
  cf := some (fileOf pool2 1 #[] #[] 1537 3 #[] #[])
  fields := #[]
  methods := #[]
  instanceTypes := #[]
  staticTypes := #[]
  resolved := Array.replicate 7 none
  statics := none }

def pool3 : Array CpInfo := pool [(1, .class_ 2), (0, u "java/lang/Comparable"), (0, .class_ 4), (0, u "java/lang/Object")] 7

/-- java/lang/Comparable -/
def k3 : Class := { plain "java/lang/Comparable" (some 0) with
  accessFlags := 1537
  interfaces := #[]
  cf := some (fileOf pool3 1 #[] #[] 1537 3 #[] #[])
  fields := #[]
  methods := #[]
  instanceTypes := #[]
  staticTypes := #[]
  resolved := Array.replicate 12 none
  statics := none }

def pool4 : Array CpInfo := pool [(2, .class_ 4), (1, u "java/lang/CharSequence"), (42, .class_ 48), (0, u "java/lang/CharSequence$1CodePointIterator"), (10, .class_ 60), (0, u "java/lang/CharSequence$1CharIterator"), (5, .class_ 67), (0, u "java/lang/Object")] 63

/-- java/lang/CharSequence -/
def k4 : Class := { plain "java/lang/CharSequence" (some 0) with
  accessFlags := 1537
  interfaces := #[]
  cf := some (fileOf pool4 2 #[.nestMembers #[47, 59]] #[] 1537 66 #[] #[])
  fields := #[]
  methods := #[]
  instanceTypes := #[]
  staticTypes := #[]
  resolved := Array.replicate 131 none
  statics := none }

def pool5 : Array CpInfo := pool [(1, .class_ 2), (0, u "java/lang/constant/Constable"), (0, .class_ 4), (0, u "java/lang/Object")] 6

/-- java/lang/constant/Constable -/
def k5 : Class := { plain "java/lang/constant/Constable" (some 0) with
  accessFlags := 1537
  interfaces := #[]
  cf := some (fileOf pool5 1 #[] #[] 1537 3 #[] #[])
  fields := #[]
  methods := #[]
  instanceTypes := #[]
  staticTypes := #[]
  resolved := Array.replicate 11 none
  statics := none }

def pool6 : Array CpInfo := pool [(1, .class_ 2), (0, u "java/lang/constant/ConstantDesc"), (0, .class_ 4), (0, u "java/lang/Object")] 32

/-- java/lang/constant/ConstantDesc -/
def k6 : Class := { plain "java/lang/constant/ConstantDesc" (some 0) with
  accessFlags := 1537
  interfaces := #[]
  cf := some (fileOf pool6 1 #[] #[] 1537 3 #[] #[])
  fields := #[]
  methods := #[]
  instanceTypes := #[]
  staticTypes := #[]
  resolved := Array.replicate 37 none
  statics := none }

def pool7 : Array CpInfo := pool [(1, .methodref 2 3), (0, .class_ 4), (0, .nameAndType 5 6), (0, u "java/lang/Object"), (0, u "<init>"), (0, u "()V"), (0, .string 8), (0, u ""), (0, .fieldref 10 11), (0, .class_ 12), (0, .nameAndType 13 14), (0, u "java/lang/String"), (0, u "value"), (0, u "[B"), (0, .fieldref 10 16), (0, .nameAndType 17 18), (0, u "coder"), (0, u "B"), (2, u "hash"), (0, u "I"), (2, u "hashIsZero"), (0, u "Z"), (0, .methodref 10 28), (0, .nameAndType 5 29), (0, u "([CIILjava/lang/Void;)V"), (8, .fieldref 10 39), (0, .nameAndType 40 26), (0, u "COMPACT_STRINGS"), (1, .class_ 44), (1, u "java/lang/StringUTF16"), (0, u "compress"), (1, .methodref 42 48), (0, .nameAndType 49 50), (0, u "coderFromArrayLen"), (0, u "([BI)B"), (126, .methodref 42 178), (0, .nameAndType 45 179), (0, u "([CII)[B"), (395, .class_ 576), (0, u "java/lang/CharSequence"), (22, u "CASE_INSENSITIVE_ORDER"), (0, u "Ljava/util/Comparator;"), (409, u "([C)V"), (90, u "serialPersistentFields"), (0, u "[Ljava/io/ObjectStreamField;"), (0, .class_ 1104), (0, u "java/lang/String$CaseInsensitiveComparator"), (1, .class_ 1107), (0, u "java/io/Serializable"), (0, .class_ 1109), (0, u "java/lang/Comparable"), (0, .class_ 1111), (0, u "java/lang/constant/Constable"), (0, .class_ 1113), (0, u "java/lang/constant/ConstantDesc"), (2, u "serialVersionUID"), (0, u "J"), (3, u "REPL"), (0, u "C"), (2, u "LATIN1"), (1, u "UTF16")] 323

def k7m0 : Method := { name := "<init>", desc := "()V", sig := { parameters := [], returnType := none }, accessFlags := 1, code := none }
def k7c1 : Code := { maxStack := 5, maxLocals := 2, code := jdk_42_method_3_code, exceptionTable := #[], attributes := #[] }
def k7m1 : Method := { name := "<init>", desc := "([C)V", sig := { parameters := [(.array .char)], returnType := none }, accessFlags := 1, code := some k7c1 }
def k7c2 : Code := { maxStack := 4, maxLocals := 6, code := jdk_42_method_149_code, exceptionTable := #[], attributes := #[] }
def k7m2 : Method := { name := "<init>", desc := "([CIILjava/lang/Void;)V", sig := { parameters := [(.array .char), .int, .int, (.object "java/lang/Void")], returnType := none }, accessFlags := 2, code := some k7c2 }
/-- java/lang/String -/
def k7 : Class := { plain "java/lang/String" (some 0) with
  accessFlags := 49
  interfaces := #[2, 3, 4, 5, 6]
  cf := some (fileOf pool7 10 #[.nestMembers #[1103]] #[{ accessFlags := 1, nameIndex := 5, descriptorIndex := 6, attributes := #[] }, { accessFlags := 1, nameIndex := 5, descriptorIndex := 1010, attributes := #[] }, { accessFlags := 2, nameIndex := 5, descriptorIndex := 29, attributes := #[] }] 49 2 #[1106, 1108, 575, 1110, 1112] #[{ accessFlags := 18, nameIndex := 13, descriptorIndex := 14, attributes := #[] }, { accessFlags := 18, nameIndex := 17, descriptorIndex := 18, attributes := #[] }, { accessFlags := 2, nameIndex := 21, descriptorIndex := 22, attributes := #[] }, { accessFlags := 2, nameIndex := 25, descriptorIndex := 26, attributes := #[] }, { accessFlags := 26, nameIndex := 1116, descriptorIndex := 1117, attributes := #[] }, { accessFlags := 24, nameIndex := 40, descriptorIndex := 26, attributes := #[] }, { accessFlags := 26, nameIndex := 1101, descriptorIndex := 1102, attributes := #[] }, { accessFlags := 26, nameIndex := 1121, descriptorIndex := 1122, attributes := #[] }, { accessFlags := 25, nameIndex := 599, descriptorIndex := 600, attributes := #[] }, { accessFlags := 24, nameIndex := 1125, descriptorIndex := 18, attributes := #[] }, { accessFlags := 24, nameIndex := 1127, descriptorIndex := 18, attributes := #[] }])
  fields := #[{ name := "value", type := (.array .byte), accessFlags := 18, slot := 0, constantValue := 0 }, { name := "coder", type := .byte, accessFlags := 18, slot := 1, constantValue := 0 }, { name := "hash", type := .int, accessFlags := 2, slot := 2, constantValue := 0 }, { name := "hashIsZero", type := .boolean, accessFlags := 2, slot := 3, constantValue := 0 }, { name := "serialVersionUID", type := .long, accessFlags := 26, slot := 0, constantValue := 0 }, { name := "COMPACT_STRINGS", type := .boolean, accessFlags := 24, slot := 1, constantValue := 0 }, { name := "serialPersistentFields", type := (.array (.object "java/io/ObjectStreamField")), accessFlags := 26, slot := 2, constantValue := 0 }, { name := "REPL", type := .char, accessFlags := 26, slot := 3, constantValue := 0 }, { name := "CASE_INSENSITIVE_ORDER", type := (.object "java/util/Comparator"), accessFlags := 25, slot := 4, constantValue := 0 }, { name := "LATIN1", type := .byte, accessFlags := 24, slot := 5, constantValue := 0 }, { name := "UTF16", type := .byte, accessFlags := 24, slot := 6, constantValue := 0 }]
  methods := #[k7m0, k7m1, k7m2]
  instanceTypes := #[(.array .byte), .byte, .int, .boolean]
  staticTypes := #[.long, .boolean, (.array (.object "java/io/ObjectStreamField")), .char, (.object "java/util/Comparator"), .byte, .byte]
  resolved := Array.replicate 1451 none
  statics := some 0 }

def pool8 : Array CpInfo := pool [(6, .class_ 8), (1, u "java/lang/Object"), (0, u "<init>"), (0, u "()V"), (1, .class_ 14), (1, u "java/lang/StringUTF16"), (31, u "$assertionsDisabled"), (0, u "Z"), (13, u "HI_BYTE_SHIFT"), (0, u "I"), (2, u "LO_BYTE_SHIFT"), (49, .methodref 12 116), (0, .nameAndType 117 118), (0, u "compress"), (0, u "([CI[BII)I"), (3, u "([CII)[B"), (138, u "coderFromArrayLen"), (0, u "([BI)B"), (106, .class_ 371), (1, u "java/lang/StringUTF16$LinesSpliterator"), (58, u "MAX_LENGTH"), (196, .class_ 628), (0, u "java/lang/StringUTF16$CodePointsSpliterator"), (0, .class_ 630), (0, u "java/lang/StringUTF16$CharsSpliterator")] 4

def k8m0 : Method := { name := "<init>", desc := "()V", sig := { parameters := [], returnType := none }, accessFlags := 0, code := none }
def k8c1 : Code := { maxStack := 2, maxLocals := 2, code := jdk_52_method_15_code, exceptionTable := #[], attributes := #[] }
def k8m1 : Method := { name := "coderFromArrayLen", desc := "([BI)B", sig := { parameters := [(.array .byte), .int], returnType := some .byte }, accessFlags := 8, code := some k8c1 }
def k8c2 : Code := { maxStack := 5, maxLocals := 6, code := jdk_52_method_16_code, exceptionTable := #[], attributes := #[] }
def k8m2 : Method := { name := "compress", desc := "([CII)[B", sig := { parameters := [(.array .char), .int, .int], returnType := some (.array .byte) }, accessFlags := 9, code := some k8c2 }
def k8c3 : Code := { maxStack := 3, maxLocals := 7, code := jdk_52_method_21_code, exceptionTable := #[], attributes := #[] }
def k8m3 : Method := { name := "compress", desc := "([CI[BII)I", sig := { parameters := [(.array .char), .int, (.array .byte), .int, .int], returnType := some .int }, accessFlags := 9, code := some k8c3 }
/-- java/lang/StringUTF16 -/
def k8 : Class := { plain "java/lang/StringUTF16" (some 0) with
  accessFlags := 48
  interfaces := #[]
  cf := some (fileOf pool8 12 #[.nestMembers #[627, 629, 369]] #[{ accessFlags := 0, nameIndex := 9, descriptorIndex := 10, attributes := #[] }, { accessFlags := 8, nameIndex := 261, descriptorIndex := 262, attributes := #[] }, { accessFlags := 9, nameIndex := 117, descriptorIndex := 122, attributes := #[] }, { accessFlags := 9, nameIndex := 117, descriptorIndex := 118, attributes := #[] }] 48 6 #[] #[{ accessFlags := 26, nameIndex := 61, descriptorIndex := 62, attributes := #[] }, { accessFlags := 26, nameIndex := 65, descriptorIndex := 62, attributes := #[] }, { accessFlags := 24, nameIndex := 430, descriptorIndex := 62, attributes := #[] }, { accessFlags := 4120, nameIndex := 46, descriptorIndex := 47, attributes := #[] }])
  fields := #[{ name := "HI_BYTE_SHIFT", type := .int, accessFlags := 26, slot := 0, constantValue := 0 }, { name := "LO_BYTE_SHIFT", type := .int, accessFlags := 26, slot := 1, constantValue := 0 }, { name := "MAX_LENGTH", type := .int, accessFlags := 24, slot := 2, constantValue := 0 }, { name := "$assertionsDisabled", type := .boolean, accessFlags := 4120, slot := 3, constantValue := 0 }]
  methods := #[k8m0, k8m1, k8m2, k8m3]
  instanceTypes := #[]
  staticTypes := #[.int, .int, .int, .boolean]
  resolved := Array.replicate 635 none
  statics := none }

def pool9 : Array CpInfo := pool [(1, .methodref 2 3), (0, .class_ 4), (0, .nameAndType 5 6), (0, u "java/lang/Object"), (0, u "<init>"), (0, u "()V"), (0, .class_ 8), (0, u "java/util/ArrayList"), (0, .methodref 7 3), (0, .fieldref 11 12), (0, .class_ 13), (0, .nameAndType 14 15), (0, u "com/example/bouncer/bouncer/cli/Arguments"), (0, u "operands"), (0, u "Ljava/util/List;"), (0, .fieldref 11 17), (0, .nameAndType 18 19), (0, u "command"), (0, u "Ljava/lang/String;"), (0, .fieldref 11 21), (0, .nameAndType 22 19), (0, u "usage"), (0, .methodref 24 25), (0, .class_ 26), (0, .nameAndType 27 28), (0, u "[Ljava/lang/String;"), (0, u "clone"), (0, u "()Ljava/lang/Object;"), (0, .fieldref 11 30), (0, .nameAndType 31 26), (0, u "arguments"), (0, .fieldref 11 33), (0, .nameAndType 34 35), (0, u "maxOperands"), (0, u "I"), (0, .fieldref 11 37), (0, .nameAndType 38 35), (0, u "next"), (2, u "hasNext"), (0, u "()Z"), (3, u "(Ljava/lang/String;)Ljava/lang/String;"), (92, u "requiredOutput"), (14, u "(Ljava/lang/String;Ljava/lang/String;[Ljava/lang/String;I)V")] 43

def k9c0 : Code := { maxStack := 3, maxLocals := 5, code := prog_26_method_1_code, exceptionTable := #[], attributes := #[] }
def k9m0 : Method := { name := "<init>", desc := "(Ljava/lang/String;Ljava/lang/String;[Ljava/lang/String;I)V", sig := { parameters := [(.object "java/lang/String"), (.object "java/lang/String"), (.array (.object "java/lang/String")), .int], returnType := none }, accessFlags := 0, code := some k9c0 }
def k9c1 : Code := { maxStack := 2, maxLocals := 1, code := prog_26_method_2_code, exceptionTable := #[], attributes := #[] }
def k9m1 : Method := { name := "hasNext", desc := "()Z", sig := { parameters := [], returnType := some .boolean }, accessFlags := 0, code := some k9c1 }
def k9c2 : Code := { maxStack := 2, maxLocals := 2, code := prog_26_method_14_code, exceptionTable := #[], attributes := #[] }
def k9m2 : Method := { name := "requiredOutput", desc := "(Ljava/lang/String;)Ljava/lang/String;", sig := { parameters := [(.object "java/lang/String")], returnType := some (.object "java/lang/String") }, accessFlags := 0, code := some k9c2 }
/-- com/example/bouncer/bouncer/cli/Arguments -/
def k9 : Class := { plain "com/example/bouncer/bouncer/cli/Arguments" (some 0) with
  accessFlags := 48
  interfaces := #[]
  cf := some (fileOf pool9 11 #[] #[{ accessFlags := 0, nameIndex := 5, descriptorIndex := 154, attributes := #[] }, { accessFlags := 0, nameIndex := 41, descriptorIndex := 42, attributes := #[] }, { accessFlags := 0, nameIndex := 139, descriptorIndex := 46, attributes := #[] }] 48 2 #[] #[{ accessFlags := 18, nameIndex := 18, descriptorIndex := 19, attributes := #[] }, { accessFlags := 18, nameIndex := 22, descriptorIndex := 19, attributes := #[] }, { accessFlags := 18, nameIndex := 31, descriptorIndex := 26, attributes := #[] }, { accessFlags := 18, nameIndex := 34, descriptorIndex := 35, attributes := #[] }, { accessFlags := 18, nameIndex := 14, descriptorIndex := 15, attributes := #[] }, { accessFlags := 2, nameIndex := 38, descriptorIndex := 35, attributes := #[] }])
  fields := #[{ name := "command", type := (.object "java/lang/String"), accessFlags := 18, slot := 0, constantValue := 0 }, { name := "usage", type := (.object "java/lang/String"), accessFlags := 18, slot := 1, constantValue := 0 }, { name := "arguments", type := (.array (.object "java/lang/String")), accessFlags := 18, slot := 2, constantValue := 0 }, { name := "maxOperands", type := .int, accessFlags := 18, slot := 3, constantValue := 0 }, { name := "operands", type := (.object "java/util/List"), accessFlags := 18, slot := 4, constantValue := 0 }, { name := "next", type := .int, accessFlags := 2, slot := 5, constantValue := 0 }]
  methods := #[k9m0, k9m1, k9m2]
  instanceTypes := #[(.object "java/lang/String"), (.object "java/lang/String"), (.array (.object "java/lang/String")), .int, (.object "java/util/List"), .int]
  staticTypes := #[]
  resolved := Array.replicate 198 none
  statics := none }

def pool10 : Array CpInfo := pool [(8, .class_ 10), (1, u "java/lang/Iterable"), (24, .class_ 36), (0, u "java/lang/Object")] 25

/-- java/lang/Iterable -/
def k10 : Class := { plain "java/lang/Iterable" (some 0) with
  accessFlags := 1537
  interfaces := #[]
  cf := some (fileOf pool10 8 #[] #[] 1537 35 #[] #[])
  fields := #[]
  methods := #[]
  instanceTypes := #[]
  staticTypes := #[]
  resolved := Array.replicate 62 none
  statics := none }

def pool11 : Array CpInfo := pool [(10, .class_ 12), (1, u "java/util/Collection"), (47, .class_ 61), (0, u "java/lang/Object"), (0, .class_ 63), (0, u "java/lang/Iterable")] 51

/-- java/util/Collection -/
def k11 : Class := { plain "java/util/Collection" (some 0) with
  accessFlags := 1537
  interfaces := #[10]
  cf := some (fileOf pool11 10 #[] #[] 1537 60 #[62] #[])
  fields := #[]
  methods := #[]
  instanceTypes := #[]
  staticTypes := #[]
  resolved := Array.replicate 115 none
  statics := none }

def pool12 : Array CpInfo := pool [(1, .methodref 2 3), (0, .class_ 4), (0, .nameAndType 5 6), (0, u "java/lang/Object"), (0, u "<init>"), (0, u "()V"), (1, .class_ 10), (1, u "java/util/AbstractCollection"), (66, .class_ 78), (0, u "java/util/Collection")] 81

def k12c0 : Code := { maxStack := 1, maxLocals := 1, code := jdk_22_method_1_code, exceptionTable := #[], attributes := #[] }
def k12m0 : Method := { name := "<init>", desc := "()V", sig := { parameters := [], returnType := none }, accessFlags := 4, code := some k12c0 }
/-- java/util/AbstractCollection -/
def k12 : Class := { plain "java/util/AbstractCollection" (some 0) with
  accessFlags := 1057
  interfaces := #[11]
  cf := some (fileOf pool12 8 #[] #[{ accessFlags := 4, nameIndex := 5, descriptorIndex := 6, attributes := #[] }] 1057 2 #[77] #[])
  fields := #[]
  methods := #[k12m0]
  instanceTypes := #[]
  staticTypes := #[]
  resolved := Array.replicate 160 none
  statics := none }

def pool13 : Array CpInfo := pool [(8, .class_ 10), (1, u "java/util/SequencedCollection"), (15, .class_ 27), (0, u "java/lang/Object"), (0, .class_ 29), (0, u "java/util/Collection")] 27

/-- java/util/SequencedCollection -/
def k13 : Class := { plain "java/util/SequencedCollection" (some 0) with
  accessFlags := 1537
  interfaces := #[11]
  cf := some (fileOf pool13 8 #[] #[] 1537 26 #[28] #[])
  fields := #[]
  methods := #[]
  instanceTypes := #[]
  staticTypes := #[]
  resolved := Array.replicate 57 none
  statics := none }

def pool14 : Array CpInfo := pool [(8, .class_ 10), (1, u "java/util/List"), (92, .class_ 104), (0, u "java/lang/Object"), (15, .class_ 121), (0, u "java/util/SequencedCollection")] 129

/-- java/util/List -/
def k14 : Class := { plain "java/util/List" (some 0) with
  accessFlags := 1537
  interfaces := #[13]
  cf := some (fileOf pool14 8 #[] #[] 1537 103 #[120] #[])
  fields := #[]
  methods := #[]
  instanceTypes := #[]
  staticTypes := #[]
  resolved := Array.replicate 251 none
  statics := none }

def pool15 : Array CpInfo := pool [(1, .methodref 2 3), (0, .class_ 4), (0, .nameAndType 5 6), (0, u "java/util/AbstractCollection"), (0, u "<init>"), (0, u "()V"), (0, .fieldref 8 9), (0, .class_ 10), (0, .nameAndType 11 12), (0, u "java/util/AbstractList"), (0, u "modCount"), (0, u "I"), (64, .class_ 78), (0, u "java/util/AbstractList$Itr"), (3, .class_ 83), (0, u "java/util/AbstractList$ListItr"), (9, .class_ 94), (0, u "java/util/AbstractList$RandomAccessSubList"), (3, .class_ 99), (0, u "java/util/AbstractList$SubList"), (33, .class_ 134), (0, u "java/util/List"), (73, .class_ 209), (0, u "java/util/AbstractList$SubList$1"), (0, .class_ 211), (0, u "java/util/AbstractList$RandomAccessSpliterator")] 6

def k15c0 : Code := { maxStack := 2, maxLocals := 1, code := jdk_39_method_1_code, exceptionTable := #[], attributes := #[] }
def k15m0 : Method := { name := "<init>", desc := "()V", sig := { parameters := [], returnType := none }, accessFlags := 4, code := some k15c0 }
/-- java/util/AbstractList -/
def k15 : Class := { plain "java/util/AbstractList" (some 12) with
  accessFlags := 1057
  interfaces := #[14]
  cf := some (fileOf pool15 8 #[.nestMembers #[93, 98, 208, 210, 82, 77]] #[{ accessFlags := 4, nameIndex := 5, descriptorIndex := 6, attributes := #[] }] 1057 2 #[133] #[{ accessFlags := 132, nameIndex := 11, descriptorIndex := 12, attributes := #[] }])
  fields := #[{ name := "modCount", type := .int, accessFlags := 132, slot := 0, constantValue := 0 }]
  methods := #[k15m0]
  instanceTypes := #[.int]
  staticTypes := #[]
  resolved := Array.replicate 218 none
  statics := none }

def pool16 : Array CpInfo := pool [(1, .class_ 2), (0, u "java/util/RandomAccess"), (0, .class_ 4), (0, u "java/lang/Object")] 2

/-- java/util/RandomAccess -/
def k16 : Class := { plain "java/util/RandomAccess" (some 0) with
  accessFlags := 1537
  interfaces := #[]
  cf := some (fileOf pool16 1 #[] #[] 1537 3 #[] #[])
  fields := #[]
  methods := #[]
  instanceTypes := #[]
  staticTypes := #[]
  resolved := Array.replicate 7 none
  statics := none }

def pool17 : Array CpInfo := pool [(1, .class_ 2), (0, u "java/lang/Cloneable"), (0, .class_ 4), (0, u "java/lang/Object")] 2

/-- java/lang/Cloneable -/
def k17 : Class := { plain "java/lang/Cloneable" (some 0) with
  accessFlags := 1537
  interfaces := #[]
  cf := some (fileOf pool17 1 #[] #[] 1537 3 #[] #[])
  fields := #[]
  methods := #[]
  instanceTypes := #[]
  staticTypes := #[]
  resolved := Array.replicate 7 none
  statics := none }

def pool18 : Array CpInfo := pool [(1, .methodref 2 3), (0, .class_ 4), (0, .nameAndType 5 6), (0, u "java/util/AbstractList"), (0, u "<init>"), (0, u "()V"), (2, .fieldref 10 11), (0, .class_ 12), (0, .nameAndType 13 14), (0, u "java/util/ArrayList"), (0, u "elementData"), (0, u "[Ljava/lang/Object;"), (2, u "EMPTY_ELEMENTDATA"), (21, .fieldref 10 40), (0, .nameAndType 41 14), (0, u "DEFAULTCAPACITY_EMPTY_ELEMENTDATA"), (8, u "size"), (0, u "I"), (96, .class_ 149), (0, u "java/util/List"), (112, .class_ 263), (0, u "java/util/ArrayList$ListItr"), (3, .class_ 268), (0, u "java/util/ArrayList$Itr"), (7, .class_ 277), (0, u "java/util/ArrayList$SubList"), (12, .class_ 291), (0, u "java/util/ArrayList$ArrayListSpliterator"), (37, .class_ 330), (0, u "java/util/RandomAccess"), (0, .class_ 332), (0, u "java/lang/Cloneable"), (0, .class_ 334), (0, u "java/io/Serializable"), (0, u "serialVersionUID"), (0, u "J"), (3, u "DEFAULT_CAPACITY"), (159, .class_ 501), (0, u "java/util/ArrayList$SubList$2"), (0, .class_ 503), (0, u "java/util/ArrayList$SubList$1")] 5

def k18c0 : Code := { maxStack := 2, maxLocals := 1, code := jdk_38_method_2_code, exceptionTable := #[], attributes := #[] }
def k18m0 : Method := { name := "<init>", desc := "()V", sig := { parameters := [], returnType := none }, accessFlags := 1, code := some k18c0 }
/-- java/util/ArrayList -/
def k18 : Class := { plain "java/util/ArrayList" (some 15) with
  accessFlags := 33
  interfaces := #[14, 16, 17, 2]
  cf := some (fileOf pool18 10 #[.nestMembers #[290, 276, 500, 502, 262, 267]] #[{ accessFlags := 1, nameIndex := 5, descriptorIndex := 6, attributes := #[] }] 33 2 #[148, 329, 331, 333] #[{ accessFlags := 26, nameIndex := 335, descriptorIndex := 336, attributes := #[] }, { accessFlags := 26, nameIndex := 340, descriptorIndex := 51, attributes := #[] }, { accessFlags := 26, nameIndex := 17, descriptorIndex := 14, attributes := #[] }, { accessFlags := 26, nameIndex := 41, descriptorIndex := 14, attributes := #[] }, { accessFlags := 128, nameIndex := 13, descriptorIndex := 14, attributes := #[] }, { accessFlags := 2, nameIndex := 50, descriptorIndex := 51, attributes := #[] }])
  fields := #[{ name := "serialVersionUID", type := .long, accessFlags := 26, slot := 0, constantValue := 0 }, { name := "DEFAULT_CAPACITY", type := .int, accessFlags := 26, slot := 1, constantValue := 0 }, { name := "EMPTY_ELEMENTDATA", type := (.array (.object "java/lang/Object")), accessFlags := 26, slot := 2, constantValue := 0 }, { name := "DEFAULTCAPACITY_EMPTY_ELEMENTDATA", type := (.array (.object "java/lang/Object")), accessFlags := 26, slot := 3, constantValue := 0 }, { name := "elementData", type := (.array (.object "java/lang/Object")), accessFlags := 128, slot := 1, constantValue := 0 }, { name := "size", type := .int, accessFlags := 2, slot := 2, constantValue := 0 }]
  methods := #[k18m0]
  instanceTypes := #[.int, (.array (.object "java/lang/Object")), .int]
  staticTypes := #[.long, .int, (.array (.object "java/lang/Object")), (.array (.object "java/lang/Object"))]
  resolved := Array.replicate 509 none
  statics := some 1 }

def pool19 : Array CpInfo := pool [(4, .class_ 6), (1, u "java/lang/Object"), (0, u "<init>"), (0, u "()V"), (5, .class_ 16), (1, u "java/lang/StringLatin1"), (104, u "$assertionsDisabled"), (0, u "Z"), (98, .class_ 223), (1, u "java/lang/StringLatin1$LinesSpliterator"), (166, .class_ 391), (0, u "java/lang/StringLatin1$CharsSpliterator")] 3

def k19m0 : Method := { name := "<init>", desc := "()V", sig := { parameters := [], returnType := none }, accessFlags := 0, code := none }
/-- java/lang/StringLatin1 -/
def k19 : Class := { plain "java/lang/StringLatin1" (some 0) with
  accessFlags := 48
  interfaces := #[]
  cf := some (fileOf pool19 14 #[.nestMembers #[390, 221]] #[{ accessFlags := 0, nameIndex := 7, descriptorIndex := 8, attributes := #[] }] 48 4 #[] #[{ accessFlags := 4120, nameIndex := 121, descriptorIndex := 122, attributes := #[] }])
  fields := #[{ name := "$assertionsDisabled", type := .boolean, accessFlags := 4120, slot := 0, constantValue := 0 }]
  methods := #[k19m0]
  instanceTypes := #[]
  staticTypes := #[.boolean]
  resolved := Array.replicate 395 none
  statics := none }

def pool20 : Array CpInfo := pool [(2, .class_ 4), (1, u "java/lang/Object"), (0, u "<init>"), (0, u "()V"), (17, .class_ 26), (1, u "jdk/internal/util/Preconditions"), (28, .class_ 56), (0, u "jdk/internal/util/Preconditions$4"), (57, .class_ 115), (0, u "jdk/internal/util/Preconditions$1"), (7, u "SIOOBE_FORMATTER"), (0, u "Ljava/util/function/BiFunction;"), (0, .class_ 126), (0, u "jdk/internal/util/Preconditions$2"), (3, u "AIOOBE_FORMATTER"), (0, .class_ 132), (0, u "jdk/internal/util/Preconditions$3"), (3, u "IOOBE_FORMATTER")] 57

def k20m0 : Method := { name := "<init>", desc := "()V", sig := { parameters := [], returnType := none }, accessFlags := 1, code := none }
/-- jdk/internal/util/Preconditions -/
def k20 : Class := { plain "jdk/internal/util/Preconditions" (some 0) with
  accessFlags := 33
  interfaces := #[]
  cf := some (fileOf pool20 24 #[.nestMembers #[55, 131, 125, 114]] #[{ accessFlags := 1, nameIndex := 5, descriptorIndex := 6, attributes := #[] }] 33 2 #[] #[{ accessFlags := 25, nameIndex := 123, descriptorIndex := 124, attributes := #[] }, { accessFlags := 25, nameIndex := 130, descriptorIndex := 124, attributes := #[] }, { accessFlags := 25, nameIndex := 136, descriptorIndex := 124, attributes := #[] }])
  fields := #[{ name := "SIOOBE_FORMATTER", type := (.object "java/util/function/BiFunction"), accessFlags := 25, slot := 0, constantValue := 0 }, { name := "AIOOBE_FORMATTER", type := (.object "java/util/function/BiFunction"), accessFlags := 25, slot := 1, constantValue := 0 }, { name := "IOOBE_FORMATTER", type := (.object "java/util/function/BiFunction"), accessFlags := 25, slot := 2, constantValue := 0 }]
  methods := #[k20m0]
  instanceTypes := #[]
  staticTypes := #[(.object "java/util/function/BiFunction"), (.object "java/util/function/BiFunction"), (.object "java/util/function/BiFunction")]
  resolved := Array.replicate 194 none
  statics := some 2 }

def pool21 : Array CpInfo := pool [(9, u "<init>"), (6, .class_ 18), (1, u "java/lang/Object"), (0, u "()V"), (1, .class_ 23), (1, u "jdk/internal/util/ArraysSupport"), (0, u "LOG2_ARRAY_LONG_INDEX_SCALE"), (0, u "I"), (2, u "U"), (0, u "Ljdk/internal/misc/Unsafe;"), (8, u "BIG_ENDIAN"), (0, u "Z"), (8, u "LOG2_BYTE_BIT_SIZE"), (4, u "LOG2_ARRAY_INT_INDEX_SCALE"), (54, u "JLA"), (0, u "Ljdk/internal/access/JavaLangAccess;"), (11, u "LOG2_ARRAY_BOOLEAN_INDEX_SCALE"), (9, u "LOG2_ARRAY_BYTE_INDEX_SCALE"), (5, u "LOG2_ARRAY_CHAR_INDEX_SCALE"), (5, u "LOG2_ARRAY_SHORT_INDEX_SCALE"), (18, u "LOG2_ARRAY_FLOAT_INDEX_SCALE"), (24, u "LOG2_ARRAY_DOUBLE_INDEX_SCALE"), (89, u "T_BOOLEAN"), (2, u "T_CHAR"), (1, u "T_FLOAT"), (1, u "T_DOUBLE"), (1, u "T_BYTE"), (1, u "T_SHORT"), (1, u "T_INT"), (1, u "T_LONG"), (1, u "SOFT_MAX_ARRAY_LENGTH")] 83

def k21m0 : Method := { name := "<init>", desc := "()V", sig := { parameters := [], returnType := none }, accessFlags := 2, code := none }
/-- jdk/internal/util/ArraysSupport -/
def k21 : Class := { plain "jdk/internal/util/ArraysSupport" (some 0) with
  accessFlags := 33
  interfaces := #[]
  cf := some (fileOf pool21 21 #[] #[{ accessFlags := 2, nameIndex := 9, descriptorIndex := 19, attributes := #[] }] 33 16 #[] #[{ accessFlags := 24, nameIndex := 28, descriptorIndex := 29, attributes := #[] }, { accessFlags := 26, nameIndex := 38, descriptorIndex := 39, attributes := #[] }, { accessFlags := 25, nameIndex := 121, descriptorIndex := 25, attributes := #[] }, { accessFlags := 25, nameIndex := 131, descriptorIndex := 25, attributes := #[] }, { accessFlags := 25, nameIndex := 137, descriptorIndex := 25, attributes := #[] }, { accessFlags := 25, nameIndex := 143, descriptorIndex := 25, attributes := #[] }, { accessFlags := 25, nameIndex := 53, descriptorIndex := 25, attributes := #[] }, { accessFlags := 25, nameIndex := 24, descriptorIndex := 25, attributes := #[] }, { accessFlags := 25, nameIndex := 162, descriptorIndex := 25, attributes := #[] }, { accessFlags := 25, nameIndex := 187, descriptorIndex := 25, attributes := #[] }, { accessFlags := 26, nameIndex := 48, descriptorIndex := 25, attributes := #[] }, { accessFlags := 25, nameIndex := 277, descriptorIndex := 25, attributes := #[] }, { accessFlags := 25, nameIndex := 280, descriptorIndex := 25, attributes := #[] }, { accessFlags := 25, nameIndex := 282, descriptorIndex := 25, attributes := #[] }, { accessFlags := 25, nameIndex := 284, descriptorIndex := 25, attributes := #[] }, { accessFlags := 25, nameIndex := 286, descriptorIndex := 25, attributes := #[] }, { accessFlags := 25, nameIndex := 288, descriptorIndex := 25, attributes := #[] }, { accessFlags := 25, nameIndex := 290, descriptorIndex := 25, attributes := #[] }, { accessFlags := 25, nameIndex := 292, descriptorIndex := 25, attributes := #[] }, { accessFlags := 26, nameIndex := 108, descriptorIndex := 109, attributes := #[] }, { accessFlags := 25, nameIndex := 294, descriptorIndex := 25, attributes := #[] }])
  fields := #[{ name := "U", type := (.object "jdk/internal/misc/Unsafe"), accessFlags := 24, slot := 0, constantValue := 0 }, { name := "BIG_ENDIAN", type := .boolean, accessFlags := 26, slot := 1, constantValue := 0 }, { name := "LOG2_ARRAY_BOOLEAN_INDEX_SCALE", type := .int, accessFlags := 25, slot := 2, constantValue := 0 }, { name := "LOG2_ARRAY_BYTE_INDEX_SCALE", type := .int, accessFlags := 25, slot := 3, constantValue := 0 }, { name := "LOG2_ARRAY_CHAR_INDEX_SCALE", type := .int, accessFlags := 25, slot := 4, constantValue := 0 }, { name := "LOG2_ARRAY_SHORT_INDEX_SCALE", type := .int, accessFlags := 25, slot := 5, constantValue := 0 }, { name := "LOG2_ARRAY_INT_INDEX_SCALE", type := .int, accessFlags := 25, slot := 6, constantValue := 0 }, { name := "LOG2_ARRAY_LONG_INDEX_SCALE", type := .int, accessFlags := 25, slot := 7, constantValue := 0 }, { name := "LOG2_ARRAY_FLOAT_INDEX_SCALE", type := .int, accessFlags := 25, slot := 8, constantValue := 0 }, { name := "LOG2_ARRAY_DOUBLE_INDEX_SCALE", type := .int, accessFlags := 25, slot := 9, constantValue := 0 }, { name := "LOG2_BYTE_BIT_SIZE", type := .int, accessFlags := 26, slot := 10, constantValue := 0 }, { name := "T_BOOLEAN", type := .int, accessFlags := 25, slot := 11, constantValue := 0 }, { name := "T_CHAR", type := .int, accessFlags := 25, slot := 12, constantValue := 0 }, { name := "T_FLOAT", type := .int, accessFlags := 25, slot := 13, constantValue := 0 }, { name := "T_DOUBLE", type := .int, accessFlags := 25, slot := 14, constantValue := 0 }, { name := "T_BYTE", type := .int, accessFlags := 25, slot := 15, constantValue := 0 }, { name := "T_SHORT", type := .int, accessFlags := 25, slot := 16, constantValue := 0 }, { name := "T_INT", type := .int, accessFlags := 25, slot := 17, constantValue := 0 }, { name := "T_LONG", type := .int, accessFlags := 25, slot := 18, constantValue := 0 }, { name := "JLA", type := (.object "jdk/internal/access/JavaLangAccess"), accessFlags := 26, slot := 19, constantValue := 0 }, { name := "SOFT_MAX_ARRAY_LENGTH", type := .int, accessFlags := 25, slot := 20, constantValue := 0 }]
  methods := #[k21m0]
  instanceTypes := #[]
  staticTypes := #[(.object "jdk/internal/misc/Unsafe"), .boolean, .int, .int, .int, .int, .int, .int, .int, .int, .int, .int, .int, .int, .int, .int, .int, .int, .int, (.object "jdk/internal/access/JavaLangAccess"), .int]
  resolved := Array.replicate 378 none
  statics := none }

/-- the primitive byte -/
def k22 : Class := { plain "byte" none with kind := .primitive 'B', accessFlags := 0x411 }
/-- [B -/
def k23 : Class := { plain "[B" (some 0) with kind := .array 22 .byte, interfaces := #[17, 2], accessFlags := 1041 }

/-- the primitive char -/
def k24 : Class := { plain "char" none with kind := .primitive 'C', accessFlags := 0x411 }
/-- [C -/
def k25 : Class := { plain "[C" (some 0) with kind := .array 24 .char, interfaces := #[17, 2], accessFlags := 1041 }

/-- the primitive int -/
def k26 : Class := { plain "int" none with kind := .primitive 'I', accessFlags := 0x411 }
/-- [I -/
def k27 : Class := { plain "[I" (some 0) with kind := .array 26 .int, interfaces := #[17, 2], accessFlags := 1041 }

/-- [Ljava/lang/Object; -/
def k28 : Class := { plain "[Ljava/lang/Object;" (some 0) with kind := .array 0 (.object "java/lang/Object"), interfaces := #[17, 2], accessFlags := 1041 }

/-- [Ljava/lang/String; -/
def k29 : Class := { plain "[Ljava/lang/String;" (some 0) with kind := .array 7 (.object "java/lang/String"), interfaces := #[17, 2], accessFlags := 1041 }

def heap : Heap := #[{ cls := 7, slots := #[.long 0, .int 1, .null, .int 0, .null, .int 0, .int 0], vm := .statics 7 },
  { cls := 18, slots := #[.long 0, .int 0, .ref 3, .ref 4], vm := .statics 18 },
  { cls := 20, slots := #[.null, .null, .null], vm := .statics 20 },
  { cls := 28, slots := #[], vm := .none },
  { cls := 28, slots := #[], vm := .none }]
def classes : Array Class := #[k0, k1, k2, k3, k4, k5, k6, k7, k8, k9, k10, k11, k12, k13, k14, k15, k16, k17, k18, k19, k20, k21, k22, k23, k24, k25, k26, k27, k28, k29]
def interned : List (Array UInt16 × Addr) := []
def slotsUsed : Nat := 14
def theMethod : MethodId := ⟨1, 2⟩
def args0 : Array Value := #[.int 5, .int 7, .int 9, .int 5]
def aboutOver (below : List Frame) : State where
  vm := { classes := classes, interned := interned.toArray }
  heap := heap
  slotsUsed := slotsUsed
  threads := #[{ frames := .invoking theMethod args0 :: below }]
def below0 : List Frame := [.native { method := ⟨0, 0⟩, args := #[] }]
def about1 : State := aboutOver below0
def p0 : Program := .bare "" "" ""
def e0 : Env := launch0.env 0 0 0
theorem w_frames : about1.frames = Frame.invoking theMethod args0 :: below0 := rfl
set_option maxRecDepth 65536 in
theorem w_args : argsFit about1.vm theMethod args0 = true := by decide +kernel
set_option maxRecDepth 65536 in
theorem w_heap : heapFits about1 = true := by decide +kernel
set_option maxRecDepth 65536 in
theorem w_runnable : about1.curStatus? = some .runnable := by decide +kernel
set_option maxRecDepth 65536 in
theorem w_alone : about1.alone = true := by decide +kernel
set_option maxRecDepth 65536 in
theorem w_named : about1.methodNamed? x = some theMethod := by decide +kernel
set_option maxRecDepth 65536 in
theorem w_hears : about1.hears theMethod below0 = true := by decide +kernel
set_option maxRecDepth 65536 in
theorem w_ripe : about1.ripe theMethod args0 below0 = true := by decide +kernel
theorem w_running : about1.status = .running := rfl
set_option maxRecDepth 65536 in
theorem w_room : about1.hasRoom e0.platform room_1 = true :=
  launch0.hasRoom_least _ room_1 (by decide +kernel) (by decide +kernel) (by decide +kernel) (by decide +kernel) (by decide +kernel) (by decide +kernel)
theorem allAtoms_all (ts : List Jvm.Cond) (a : Array Jvm.Value) (st : Jvm.State) : (allAtoms ts).before a st = ts.all (fun c => c.before a st) := by
  induction ts with
  | nil => rfl
  | cons c t ih =>
    show (Jvm.Cond.and c (allAtoms t)).before a st = _
    rw [Jvm.Cond.before_and, ih, List.all_cons]
def words1 : List Jvm.Cond := Jvm.Cond.code x code maxLocals ret :: tables_1
/-- a 'code' word, met by the world's own term for the bytes: nothing is compared byte by byte -/
theorem code_word {y : MethodName} {bytes : ByteArray} {mx : Nat} {rt : Option FieldType} {a : Array Value} {s : State} {m : MethodId} {meth : Method} {c : Code} (h1 : s.methodNamed? y = some m) (h2 : s.vm.method? m = some meth) (h3 : meth.code = some c) (h4 : c.code = bytes)
    (h5 : (c.maxLocals == mx && c.exceptionTable.isEmpty && decide (c.maxStack ≤ mostOperands) && decide (meth.sig.returnType = rt) && !meth.locks && decide (parseMethodDescriptor y.desc = some meth.sig)) = true) : (Jvm.Cond.code y bytes mx rt).before a s = true := by
  simp only [Bool.and_eq_true, beq_iff_eq, Bool.not_eq_true', decide_eq_true_eq] at h5
  obtain ⟨⟨⟨⟨⟨g1, g2⟩, g3⟩, g4⟩, g5⟩, g6⟩ := h5
  simp [Cond.before, Cond.holds, Cond.value, h1, h2, h3, h4, g1, g2, g3, g4, g5, g6]
def isCode : Jvm.Cond → Bool
  | .code _ _ _ _ => true
  | _ => false
theorem all_split {L : List Jvm.Cond} {P : Jvm.Cond → Bool} (h1 : L.all (fun c => isCode c || P c) = true) (h2 : ∀ c ∈ L.filter isCode, P c = true) : L.all P = true := by
  refine List.all_eq_true.mpr fun c hc => ?_
  have h := List.all_eq_true.mp h1 c hc
  rcases Bool.eq_false_or_eq_true (isCode c) with hi | hi
  · exact h2 c (List.mem_filter.mpr ⟨hc, hi⟩)
  · simpa [hi] using h
set_option maxRecDepth 65536 in
theorem w_c0 : (Jvm.Cond.code x code maxLocals ret).before args0 about1 = true := code_word (m := ⟨1, 2⟩) (meth := k1m2) (c := k1c2) (by decide +kernel) rfl rfl rfl (by decide +kernel)
set_option maxRecDepth 65536 in
theorem w_c1 : (Jvm.Cond.code ({ cls := "com/example/bouncer/bouncer/cli/ArgumentsRequiredOutputPinLaw", name := "str", desc := "(ICCC)Ljava/lang/String;" } : Jvm.MethodName) method_2_code (4 : Nat) (Option.some (Jvm.ClassFile.FieldType.object "java/lang/String"))).before args0 about1 = true := code_word (m := ⟨1, 1⟩) (meth := k1m1) (c := k1c1) (by decide +kernel) rfl rfl rfl (by decide +kernel)
set_option maxRecDepth 65536 in
theorem w_c2 : (Jvm.Cond.code ({ cls := "java/lang/String", name := "<init>", desc := "([C)V" } : Jvm.MethodName) jdk_42_method_3_code (2 : Nat) (Option.none : Option Jvm.ClassFile.FieldType)).before args0 about1 = true := code_word (m := ⟨7, 1⟩) (meth := k7m1) (c := k7c1) (by decide +kernel) rfl rfl rfl (by decide +kernel)
set_option maxRecDepth 65536 in
theorem w_c3 : (Jvm.Cond.code ({ cls := "java/lang/String", name := "<init>", desc := "([CIILjava/lang/Void;)V" } : Jvm.MethodName) jdk_42_method_149_code (6 : Nat) (Option.none : Option Jvm.ClassFile.FieldType)).before args0 about1 = true := code_word (m := ⟨7, 2⟩) (meth := k7m2) (c := k7c2) (by decide +kernel) rfl rfl rfl (by decide +kernel)
set_option maxRecDepth 65536 in
theorem w_c4 : (Jvm.Cond.code ({ cls := "java/lang/Object", name := "<init>", desc := "()V" } : Jvm.MethodName) object_method_1_code (1 : Nat) (Option.none : Option Jvm.ClassFile.FieldType)).before args0 about1 = true := code_word (m := ⟨0, 0⟩) (meth := k0m0) (c := k0c0) (by decide +kernel) rfl rfl rfl (by decide +kernel)
set_option maxRecDepth 65536 in
theorem w_c5 : (Jvm.Cond.code ({ cls := "java/lang/StringUTF16", name := "compress", desc := "([CII)[B" } : Jvm.MethodName) jdk_52_method_16_code (6 : Nat) (Option.some (Jvm.ClassFile.FieldType.array Jvm.ClassFile.FieldType.byte))).before args0 about1 = true := code_word (m := ⟨8, 2⟩) (meth := k8m2) (c := k8c2) (by decide +kernel) rfl rfl rfl (by decide +kernel)
set_option maxRecDepth 65536 in
theorem w_c6 : (Jvm.Cond.code ({ cls := "java/lang/StringUTF16", name := "compress", desc := "([CI[BII)I" } : Jvm.MethodName) jdk_52_method_21_code (7 : Nat) (Option.some Jvm.ClassFile.FieldType.int)).before args0 about1 = true := code_word (m := ⟨8, 3⟩) (meth := k8m3) (c := k8c3) (by decide +kernel) rfl rfl rfl (by decide +kernel)
set_option maxRecDepth 65536 in
theorem w_c7 : (Jvm.Cond.code ({ cls := "java/lang/StringUTF16", name := "coderFromArrayLen", desc := "([BI)B" } : Jvm.MethodName) jdk_52_method_15_code (2 : Nat) (Option.some Jvm.ClassFile.FieldType.byte)).before args0 about1 = true := code_word (m := ⟨8, 1⟩) (meth := k8m1) (c := k8c1) (by decide +kernel) rfl rfl rfl (by decide +kernel)
set_option maxRecDepth 65536 in
theorem w_c8 : (Jvm.Cond.code ({ cls := "com/example/bouncer/bouncer/cli/Arguments", name := "<init>", desc := "(Ljava/lang/String;Ljava/lang/String;[Ljava/lang/String;I)V" } : Jvm.MethodName) prog_26_method_1_code (5 : Nat) (Option.none : Option Jvm.ClassFile.FieldType)).before args0 about1 = true := code_word (m := ⟨9, 0⟩) (meth := k9m0) (c := k9c0) (by decide +kernel) rfl rfl rfl (by decide +kernel)
set_option maxRecDepth 65536 in
theorem w_c9 : (Jvm.Cond.code ({ cls := "java/util/ArrayList", name := "<init>", desc := "()V" } : Jvm.MethodName) jdk_38_method_2_code (1 : Nat) (Option.none : Option Jvm.ClassFile.FieldType)).before args0 about1 = true := code_word (m := ⟨18, 0⟩) (meth := k18m0) (c := k18c0) (by decide +kernel) rfl rfl rfl (by decide +kernel)
set_option maxRecDepth 65536 in
theorem w_c10 : (Jvm.Cond.code ({ cls := "java/util/AbstractList", name := "<init>", desc := "()V" } : Jvm.MethodName) jdk_39_method_1_code (1 : Nat) (Option.none : Option Jvm.ClassFile.FieldType)).before args0 about1 = true := code_word (m := ⟨15, 0⟩) (meth := k15m0) (c := k15c0) (by decide +kernel) rfl rfl rfl (by decide +kernel)
set_option maxRecDepth 65536 in
theorem w_c11 : (Jvm.Cond.code ({ cls := "java/util/AbstractCollection", name := "<init>", desc := "()V" } : Jvm.MethodName) jdk_22_method_1_code (1 : Nat) (Option.none : Option Jvm.ClassFile.FieldType)).before args0 about1 = true := code_word (m := ⟨12, 0⟩) (meth := k12m0) (c := k12c0) (by decide +kernel) rfl rfl rfl (by decide +kernel)
set_option maxRecDepth 65536 in
theorem w_c12 : (Jvm.Cond.code ({ cls := "com/example/bouncer/bouncer/cli/Arguments", name := "hasNext", desc := "()Z" } : Jvm.MethodName) prog_26_method_2_code (1 : Nat) (Option.some Jvm.ClassFile.FieldType.boolean)).before args0 about1 = true := code_word (m := ⟨9, 1⟩) (meth := k9m1) (c := k9c1) (by decide +kernel) rfl rfl rfl (by decide +kernel)
set_option maxRecDepth 65536 in
theorem w_c13 : (Jvm.Cond.code ({ cls := "com/example/bouncer/bouncer/cli/Arguments", name := "requiredOutput", desc := "(Ljava/lang/String;)Ljava/lang/String;" } : Jvm.MethodName) prog_26_method_14_code (2 : Nat) (Option.some (Jvm.ClassFile.FieldType.object "java/lang/String"))).before args0 about1 = true := code_word (m := ⟨9, 2⟩) (meth := k9m2) (c := k9c2) (by decide +kernel) rfl rfl rfl (by decide +kernel)
def codes1 : List Jvm.Cond := [Jvm.Cond.code x code maxLocals ret, Jvm.Cond.code ({ cls := "com/example/bouncer/bouncer/cli/ArgumentsRequiredOutputPinLaw", name := "str", desc := "(ICCC)Ljava/lang/String;" } : Jvm.MethodName) method_2_code (4 : Nat) (Option.some (Jvm.ClassFile.FieldType.object "java/lang/String")), Jvm.Cond.code ({ cls := "java/lang/String", name := "<init>", desc := "([C)V" } : Jvm.MethodName) jdk_42_method_3_code (2 : Nat) (Option.none : Option Jvm.ClassFile.FieldType), Jvm.Cond.code ({ cls := "java/lang/String", name := "<init>", desc := "([CIILjava/lang/Void;)V" } : Jvm.MethodName) jdk_42_method_149_code (6 : Nat) (Option.none : Option Jvm.ClassFile.FieldType), Jvm.Cond.code ({ cls := "java/lang/Object", name := "<init>", desc := "()V" } : Jvm.MethodName) object_method_1_code (1 : Nat) (Option.none : Option Jvm.ClassFile.FieldType), Jvm.Cond.code ({ cls := "java/lang/StringUTF16", name := "compress", desc := "([CII)[B" } : Jvm.MethodName) jdk_52_method_16_code (6 : Nat) (Option.some (Jvm.ClassFile.FieldType.array Jvm.ClassFile.FieldType.byte)), Jvm.Cond.code ({ cls := "java/lang/StringUTF16", name := "compress", desc := "([CI[BII)I" } : Jvm.MethodName) jdk_52_method_21_code (7 : Nat) (Option.some Jvm.ClassFile.FieldType.int), Jvm.Cond.code ({ cls := "java/lang/StringUTF16", name := "coderFromArrayLen", desc := "([BI)B" } : Jvm.MethodName) jdk_52_method_15_code (2 : Nat) (Option.some Jvm.ClassFile.FieldType.byte), Jvm.Cond.code ({ cls := "com/example/bouncer/bouncer/cli/Arguments", name := "<init>", desc := "(Ljava/lang/String;Ljava/lang/String;[Ljava/lang/String;I)V" } : Jvm.MethodName) prog_26_method_1_code (5 : Nat) (Option.none : Option Jvm.ClassFile.FieldType), Jvm.Cond.code ({ cls := "java/util/ArrayList", name := "<init>", desc := "()V" } : Jvm.MethodName) jdk_38_method_2_code (1 : Nat) (Option.none : Option Jvm.ClassFile.FieldType), Jvm.Cond.code ({ cls := "java/util/AbstractList", name := "<init>", desc := "()V" } : Jvm.MethodName) jdk_39_method_1_code (1 : Nat) (Option.none : Option Jvm.ClassFile.FieldType), Jvm.Cond.code ({ cls := "java/util/AbstractCollection", name := "<init>", desc := "()V" } : Jvm.MethodName) jdk_22_method_1_code (1 : Nat) (Option.none : Option Jvm.ClassFile.FieldType), Jvm.Cond.code ({ cls := "com/example/bouncer/bouncer/cli/Arguments", name := "hasNext", desc := "()Z" } : Jvm.MethodName) prog_26_method_2_code (1 : Nat) (Option.some Jvm.ClassFile.FieldType.boolean), Jvm.Cond.code ({ cls := "com/example/bouncer/bouncer/cli/Arguments", name := "requiredOutput", desc := "(Ljava/lang/String;)Ljava/lang/String;" } : Jvm.MethodName) prog_26_method_14_code (2 : Nat) (Option.some (Jvm.ClassFile.FieldType.object "java/lang/String"))]
set_option maxRecDepth 65536 in
theorem codes_eq : words1.filter isCode = codes1 := rfl
theorem w_codes : ∀ c ∈ words1.filter isCode, c.before args0 about1 = true := by
  rw [codes_eq]
  intro c hc
  simp only [codes1, List.mem_cons, List.not_mem_nil, or_false] at hc
  rcases hc with rfl | rfl | rfl | rfl | rfl | rfl | rfl | rfl | rfl | rfl | rfl | rfl | rfl | rfl
  · exact w_c0
  · exact w_c1
  · exact w_c2
  · exact w_c3
  · exact w_c4
  · exact w_c5
  · exact w_c6
  · exact w_c7
  · exact w_c8
  · exact w_c9
  · exact w_c10
  · exact w_c11
  · exact w_c12
  · exact w_c13
set_option maxRecDepth 65536 in
theorem w_t1 : (words1.take 24).all (fun c => isCode c || c.before args0 about1) = true := by decide +kernel
set_option maxRecDepth 65536 in
theorem w_t2 : ((words1.drop 24).take 24).all (fun c => isCode c || c.before args0 about1) = true := by decide +kernel
set_option maxRecDepth 65536 in
theorem w_t3 : (((words1.drop 24).drop 24).take 24).all (fun c => isCode c || c.before args0 about1) = true := by decide +kernel
set_option maxRecDepth 65536 in
theorem w_t4 : ((((words1.drop 24).drop 24).drop 24).take 24).all (fun c => isCode c || c.before args0 about1) = true := by decide +kernel
set_option maxRecDepth 65536 in
theorem w_t5 : ((((words1.drop 24).drop 24).drop 24).drop 24).all (fun c => isCode c || c.before args0 about1) = true := by decide +kernel
theorem w_tables : (allAtoms (Jvm.Cond.code x code maxLocals ret :: tables_1)).before args0 about1 = true := by
  rw [allAtoms_all]
  show words1.all (fun c => c.before args0 about1) = true
  refine all_split ?_ w_codes
  rw [← List.take_append_drop 24 words1, List.all_append, w_t1, ← List.take_append_drop 24 (words1.drop 24), List.all_append, w_t2, ← List.take_append_drop 24 ((words1.drop 24).drop 24), List.all_append, w_t3, ← List.take_append_drop 24 (((words1.drop 24).drop 24).drop 24), List.all_append, w_t4, w_t5]
  rfl
set_option maxRecDepth 65536 in
theorem w_rest : rest_1_c.before args0 about1 = true := by decide +kernel
set_option maxRecDepth 65536 in
theorem w_case : (Jvm.Cond.and given_1 narrow_1).before args0 about1 = true := by decide +kernel
set_option maxRecDepth 65536 in
theorem w_consts : constsHeld consts_1 about1 := Jvm.Lit.constsHeldB_iff.mp (by decide +kernel)
theorem w_applies : (headSpec (Jvm.Cond.code x code maxLocals ret :: tables_1) room_1).applies x e0.platform about1 = true :=
  (Spec.applies_iff w_frames).mpr ⟨w_running, w_runnable, w_alone, w_named, w_hears, w_ripe, w_room, w_tables⟩
theorem atStart : AtStart classFile x code maxLocals ret World_1 tables_1 room_1 Calls_1 rest_1 Pre_1 launch0 p0 e0 about1 theMethod args0 below0 :=
  ⟨lists_1, trivial, launch0.admits_env _ _ _, launch0.least_env, fairChoices_fair.cas, fairChoices_fair.clock, w_frames, w_args, w_heap, w_applies, ⟨w_consts, trivial⟩, w_rest, w_case⟩
end start1
theorem witness_1 : WitnessClaimed_1 := ⟨start1.p0, start1.e0, start1.about1, start1.theMethod, start1.args0, start1.below0, start1.atStart⟩
end Jvm.Pilot.@@N@@
