import JvmDerived
import JvmDerived.Pilot.@@N@@Statement
import JvmDerived.Pilot.@@N@@Code
set_option linter.unusedVariables false
set_option linter.unusedSimpArgs false
namespace Jvm.Ow
open Sem ClassFile Op Lib Jvm.Stand Jvm.Free Jvm.LawKit Jvm.RoadKit
def WideEnd (s : State) (o : Outcome) (t : State) (L : List Loc) (k n : Nat) : Prop :=
  (∃ v : Option Value, o = Outcome.returned v) ∧ s.Warmed39 t.vm ∧ (∀ (j : Nat) (p : Array UInt16 × Addr), s.vm.interned.size ≤ j → t.vm.interned[j]? = some p → s.heap.size ≤ p.2 ∧ p.2 < t.heap.size) ∧ s.sameButNew { t with vm := s.vm } L k n
def EndF (wd : Bool) (s : State) (o : Outcome) (t : State) (L : List Loc) (k n : Nat) : Prop := match wd with
  | true => WideEnd s o t L k n
  | false => FrameEnd s o t L k n
theorem EndF.of {wd : Bool} {s : State} {o : Outcome} {t : State} {L : List Loc} {k n : Nat} (h : FrameEnd s o t L k n) : EndF wd s o t L k n := by
  cases wd
  · exact h
  · exact wide h
def Cx (p : Program) (l : Launch) (e : Env) (R : Room) (m : MethodId) (args : Array Value) (below : List Frame) (meth : Method) (c : Code) (Z : State) (y : MethodName) (bytes : ByteArray) (ml : Nat) (ret : Option FieldType) (n0 : Nat) (wd : Bool) (F : Outcome → State → List Loc → Prop) (T : State) (h : Heap) (cells slots : Nat) : Prop :=
  ∃ s locs, Stand p l e R s m args below meth c T locs cells slots ∧ p.tables.exec = Jvm.exec ∧ c.code = bytes ∧ c.maxLocals = ml ∧ Z.Warmed39 s.vm ∧ s.vm.findClass y.cls = some m.cls ∧ meth.name = y.name ∧ meth.sig.returnType = ret ∧ meth.locks = false ∧ T.heap = h ∧ Fr n0 locs ∧ n0 ≤ s.heap.size ∧ ∀ o t L, h.size ≤ t.heap.size → EndF wd s o t L R.cells R.slots → F o t L
def Go (p : Program) (e : Env) (below : List Frame) (F : Outcome → State → List Loc → Prop) (n0 : Nat) (Q : Option Value → Heap → Prop) (T : State) (f : JFrame) : Prop :=
  ∃ s₂ o, Steps p.tables e below (T.setTop f) s₂ ∧ s₂.status = .running ∧ Ended s₂ below o ∧ ∃ v L, o = .returned v ∧ (Q v s₂.heap ∧ Fr n0 L ∧ n0 ≤ s₂.heap.size) ∧ F o s₂ L
def Ctr (l : Launch) (Z : State) (y : MethodName) (bytes : ByteArray) (ml : Nat) (ret : Option FieldType) (R : Room) (as' : Array Value) (h : Heap) (n0 : Nat) (Q : Option Value → Heap → Prop) : Prop :=
  ∀ ws : List Jvm.Cond, MetFree l y (head1 (Jvm.Cond.code y bytes ml ret :: ws) R) (fun a U => a = as' ∧ Z.Warmed39 U.vm ∧ U.heap = h) (fun _ _ _ _ _ => True) (fun _ U o U' => ∃ v L, o = .returned v ∧ ((Q v U'.heap ∧ h.size ≤ U'.heap.size) ∧ Fr n0 L) ∧ FrameEnd U o U' L R.cells R.slots)
section Layer
variable {p : Program} {l : Launch} {e : Env} {R : Room} {m : MethodId} {args : Array Value} {below : List Frame} {meth : Method} {c : Code} {T T' : State} {cells slots : Nat} {Z : State} {a0 : Array Value} {h : Heap} {y : MethodName} {bytes : ByteArray} {ml n0 : Nat} {ret : Option FieldType} {wd : Bool} {F : Outcome → State → List Loc → Prop} {Q : Option Value → Heap → Prop} {pc pc' : Nat} {L L' : Array Slot} {S : List Value}
theorem Ctr.body {as' : Array Value} (hpl : plainFor y = true) (hn : n0 ≤ h.size) (ef : ∀ m, entryFrame m as' ml = mkF m 0 L [])
    (k : ∀ (p : Program) (e : Env) (F : Outcome → State → List Loc → Prop) (m : MethodId) (below : List Frame) (meth : Method) (c : Code) (T : State), Cx p l e R m as' below meth c Z y bytes ml ret n0 false F T h 0 0 → Go p e below F n0 Q T (mkF m 0 L [])) : Ctr l Z y bytes ml ret R as' h n0 Q := by
  intro ws
  refine MetFree.of_bodySF hpl hisR ?_
  intro p e s m args below meth c s₁ Bd hml0 hP hK
  obtain ⟨rfl, hZ, hh⟩ := hP
  obtain ⟨s₂, o, g1, g2, g3, v, L9, g4, ⟨g5, g6, -⟩, g7⟩ := k p e (fun o t L => FrameEnd s o t L R.cells R.slots) m below meth c s₁ ⟨s, [], Stand.of_body Bd, Bd.exec, Bd.bytes, hml0, hZ, findClass_of_methodNamed Bd.named, (name_of_methodNamed Bd.named Bd.method).1, Bd.returns, Bd.notSynchronized, by rw [← hh, Bd.state]; rfl, Fr.nil n0, by rw [hh]; exact hn, fun _ _ _ _ q => q⟩
  rw [ef m]
  exact ⟨s₂, o, g1, g2, g3, v, L9, g4, ⟨⟨g5, by rw [← hh]; exact g7.2.2.2.1⟩, g6⟩, g7⟩
theorem Go.via {f f' : JFrame} (k : Go p e below F n0 Q T' f') (hs : ∀ t, Steps p.tables e below (T'.setTop f') t → Steps p.tables e below (T.setTop f) t) : Go p e below F n0 Q T f := by
  obtain ⟨s₂, o, h1, h2⟩ := k; exact ⟨s₂, o, hs _ h1, h2⟩
theorem Cx.size (C : Cx p l e R m args below meth c Z y bytes ml ret n0 wd F T h cells slots) : n0 ≤ h.size := by
  obtain ⟨s, locs, X, -, -, -, -, -, -, -, -, rfl, -, hn, -⟩ := C
  exact Nat.le_trans hn X.same.2.1
theorem Cx.iloadN (C : Cx p l e R m args below meth c Z y bytes ml ret n0 wd F T h cells slots) {k : Fin 4} {v : Int32} (hd : decode bytes pc = .ok (.iload_n k, 1)) (hp : pc + 1 = pc') (hl : L[k.val]? = some (.val (.int v))) (K : Go p e below F n0 Q T (mkF m pc' L (.int v :: S))) : Go p e below F n0 Q T (mkF m pc L S) := by
  obtain ⟨s, locs, X, hx, rfl, -⟩ := C; subst hp
  exact K.via fun t k => XS.iloadN X.here hx rfl hd hl k
theorem Cx.iload (C : Cx p l e R m args below meth c Z y bytes ml ret n0 wd F T h cells slots) {k : Nat} {v : Int32} (hd : decode bytes pc = .ok (.iload k, 2)) (hp : pc + 2 = pc') (hl : L[k]? = some (.val (.int v))) (K : Go p e below F n0 Q T (mkF m pc' L (.int v :: S))) : Go p e below F n0 Q T (mkF m pc L S) := by
  obtain ⟨s, locs, X, hx, rfl, -⟩ := C; subst hp
  exact K.via fun t k => XS.iload X.here hx rfl hd hl k
theorem Cx.istoreN (C : Cx p l e R m args below meth c Z y bytes ml ret n0 wd F T h cells slots) {k : Fin 4} {x : Int32} (hd : decode bytes pc = .ok (.istore_n k, 1)) (hp : pc + 1 = pc') (hl : storeLocals L k.val (.int x) = some L') (K : Go p e below F n0 Q T (mkF m pc' L' S)) : Go p e below F n0 Q T (mkF m pc L (.int x :: S)) := by
  obtain ⟨s, locs, X, hx, rfl, -⟩ := C; subst hp
  exact K.via fun t k => XS.istoreN X.here hx rfl hd rfl hl k
theorem Cx.istore (C : Cx p l e R m args below meth c Z y bytes ml ret n0 wd F T h cells slots) {k : Nat} {x : Int32} (hd : decode bytes pc = .ok (.istore k, 2)) (hp : pc + 2 = pc') (hl : storeLocals L k (.int x) = some L') (K : Go p e below F n0 Q T (mkF m pc' L' S)) : Go p e below F n0 Q T (mkF m pc L (.int x :: S)) := by
  obtain ⟨s, locs, X, hx, rfl, -⟩ := C; subst hp
  exact K.via fun t k => XS.istore X.here hx rfl hd rfl hl k
theorem Cx.lloadN (C : Cx p l e R m args below meth c Z y bytes ml ret n0 wd F T h cells slots) {k : Fin 4} {v : Int64} (hd : decode bytes pc = .ok (.lload_n k, 1)) (hp : pc + 1 = pc') (hl : L[k.val]? = some (.val (.long v))) (K : Go p e below F n0 Q T (mkF m pc' L (.long v :: S))) : Go p e below F n0 Q T (mkF m pc L S) := by
  obtain ⟨s, locs, X, hx, rfl, -⟩ := C; subst hp
  exact K.via fun t k => XT.lloadN X.here hx rfl hd hl k
theorem Cx.aloadN (C : Cx p l e R m args below meth c Z y bytes ml ret n0 wd F T h cells slots) {k : Fin 4} {v : Value} (hd : decode bytes pc = .ok (.aload_n k, 1)) (hp : pc + 1 = pc') (hl : L[k.val]? = some (.val v)) (hv : v.isRef = true) (K : Go p e below F n0 Q T (mkF m pc' L (v :: S))) : Go p e below F n0 Q T (mkF m pc L S) := by
  obtain ⟨s, locs, X, hx, rfl, -⟩ := C; subst hp
  exact K.via fun t k => XS.aloadN X.here hx rfl hd hl hv k
theorem Cx.aload (C : Cx p l e R m args below meth c Z y bytes ml ret n0 wd F T h cells slots) {k : Nat} {v : Value} (hd : decode bytes pc = .ok (.aload k, 2)) (hp : pc + 2 = pc') (hl : L[k]? = some (.val v)) (hv : v.isRef = true) (K : Go p e below F n0 Q T (mkF m pc' L (v :: S))) : Go p e below F n0 Q T (mkF m pc L S) := by
  obtain ⟨s, locs, X, hx, rfl, -⟩ := C; subst hp
  exact K.via fun t k => XS.aload X.here hx rfl hd hl hv k
theorem Cx.astoreN (C : Cx p l e R m args below meth c Z y bytes ml ret n0 wd F T h cells slots) {k : Fin 4} {x : Value} (hd : decode bytes pc = .ok (.astore_n k, 1)) (hp : pc + 1 = pc') (hv : x.isRef = true) (hl : storeLocals L k.val x = some L') (K : Go p e below F n0 Q T (mkF m pc' L' S)) : Go p e below F n0 Q T (mkF m pc L (x :: S)) := by
  obtain ⟨s, locs, X, hx, rfl, -⟩ := C; subst hp
  exact K.via fun t k => XS.astoreN X.here hx rfl hd rfl hv hl k
theorem Cx.astore (C : Cx p l e R m args below meth c Z y bytes ml ret n0 wd F T h cells slots) {k : Nat} {x : Value} (hd : decode bytes pc = .ok (.astore k, 2)) (hp : pc + 2 = pc') (hv : x.isRef = true) (hl : storeLocals L k x = some L') (K : Go p e below F n0 Q T (mkF m pc' L' S)) : Go p e below F n0 Q T (mkF m pc L (x :: S)) := by
  obtain ⟨s, locs, X, hx, rfl, -⟩ := C; subst hp
  exact K.via fun t k => XS.astore X.here hx rfl hd rfl hv hl k
theorem Cx.iconst (C : Cx p l e R m args below meth c Z y bytes ml ret n0 wd F T h cells slots) {i : Int} (v : Int32) (hd : decode bytes pc = .ok (.iconst i, 1)) (hp : pc + 1 = pc') (hv : Int32.ofInt i = v) (K : Go p e below F n0 Q T (mkF m pc' L (.int v :: S))) : Go p e below F n0 Q T (mkF m pc L S) := by
  obtain ⟨s, locs, X, hx, rfl, -⟩ := C; subst hp
  exact K.via fun t k => XT.iconstV X.here hx rfl v hd hv k
theorem Cx.bipush (C : Cx p l e R m args below meth c Z y bytes ml ret n0 wd F T h cells slots) {i : Int} (v : Int32) (hd : decode bytes pc = .ok (.bipush i, 2)) (hp : pc + 2 = pc') (hv : (Int8.ofInt i).toInt32 = v) (K : Go p e below F n0 Q T (mkF m pc' L (.int v :: S))) : Go p e below F n0 Q T (mkF m pc L S) := by
  obtain ⟨s, locs, X, hx, rfl, -⟩ := C; subst hp
  exact K.via fun t k => XT.bipushV X.here hx rfl v hd hv k
theorem Cx.aconstNull (C : Cx p l e R m args below meth c Z y bytes ml ret n0 wd F T h cells slots)  (hd : decode bytes pc = .ok (.aconst_null, 1)) (hp : pc + 1 = pc')  (K : Go p e below F n0 Q T (mkF m pc' L (.null :: S))) : Go p e below F n0 Q T (mkF m pc L S) := by
  obtain ⟨s, locs, X, hx, rfl, -⟩ := C; subst hp
  exact K.via fun t k => XS.aconstNull X.here hx rfl hd k
theorem Cx.iadd (C : Cx p l e R m args below meth c Z y bytes ml ret n0 wd F T h cells slots) {x z : Int32} (hd : decode bytes pc = .ok (.iadd, 1)) (hp : pc + 1 = pc')  (K : Go p e below F n0 Q T (mkF m pc' L (.int (x + z) :: S))) : Go p e below F n0 Q T (mkF m pc L (.int z :: .int x :: S)) := by
  obtain ⟨s, locs, X, hx, rfl, -⟩ := C; subst hp
  exact K.via fun t k => XS.iadd X.here hx rfl hd rfl k
theorem Cx.iand (C : Cx p l e R m args below meth c Z y bytes ml ret n0 wd F T h cells slots) {x z : Int32} (hd : decode bytes pc = .ok (.iand, 1)) (hp : pc + 1 = pc')  (K : Go p e below F n0 Q T (mkF m pc' L (.int (x &&& z) :: S))) : Go p e below F n0 Q T (mkF m pc L (.int z :: .int x :: S)) := by
  obtain ⟨s, locs, X, hx, rfl, -⟩ := C; subst hp
  exact K.via fun t k => XS.iand X.here hx rfl hd rfl k
theorem Cx.ladd (C : Cx p l e R m args below meth c Z y bytes ml ret n0 wd F T h cells slots) {x z : Int64} (hd : decode bytes pc = .ok (.ladd, 1)) (hp : pc + 1 = pc')  (K : Go p e below F n0 Q T (mkF m pc' L (.long (x + z) :: S))) : Go p e below F n0 Q T (mkF m pc L (.long z :: .long x :: S)) := by
  obtain ⟨s, locs, X, hx, rfl, -⟩ := C; subst hp
  exact K.via fun t k => XT.ladd X.here hx rfl hd rfl k
theorem Cx.lmul (C : Cx p l e R m args below meth c Z y bytes ml ret n0 wd F T h cells slots) {x z : Int64} (hd : decode bytes pc = .ok (.lmul, 1)) (hp : pc + 1 = pc')  (K : Go p e below F n0 Q T (mkF m pc' L (.long (x * z) :: S))) : Go p e below F n0 Q T (mkF m pc L (.long z :: .long x :: S)) := by
  obtain ⟨s, locs, X, hx, rfl, -⟩ := C; subst hp
  exact K.via fun t k => XT.lmul X.here hx rfl hd rfl k
theorem Cx.i2l (C : Cx p l e R m args below meth c Z y bytes ml ret n0 wd F T h cells slots) {x : Int32} (hd : decode bytes pc = .ok (.i2l, 1)) (hp : pc + 1 = pc')  (K : Go p e below F n0 Q T (mkF m pc' L (.long (x.toInt64) :: S))) : Go p e below F n0 Q T (mkF m pc L (.int x :: S)) := by
  obtain ⟨s, locs, X, hx, rfl, -⟩ := C; subst hp
  exact K.via fun t k => XT.i2l X.here hx rfl hd rfl k
theorem Cx.l2i (C : Cx p l e R m args below meth c Z y bytes ml ret n0 wd F T h cells slots) {x : Int64} (hd : decode bytes pc = .ok (.l2i, 1)) (hp : pc + 1 = pc')  (K : Go p e below F n0 Q T (mkF m pc' L (.int (x.toInt32) :: S))) : Go p e below F n0 Q T (mkF m pc L (.long x :: S)) := by
  obtain ⟨s, locs, X, hx, rfl, -⟩ := C; subst hp
  exact K.via fun t k => XT.l2i X.here hx rfl hd rfl k
theorem Cx.i2b (C : Cx p l e R m args below meth c Z y bytes ml ret n0 wd F T h cells slots) {x : Int32} (hd : decode bytes pc = .ok (.i2b, 1)) (hp : pc + 1 = pc')  (K : Go p e below F n0 Q T (mkF m pc' L (.int (x.toInt8.toInt32) :: S))) : Go p e below F n0 Q T (mkF m pc L (.int x :: S)) := by
  obtain ⟨s, locs, X, hx, rfl, -⟩ := C; subst hp
  exact K.via fun t k => XT.i2b X.here hx rfl hd rfl k
theorem Cx.dup (C : Cx p l e R m args below meth c Z y bytes ml ret n0 wd F T h cells slots) {x : Value} (hd : decode bytes pc = .ok (.dup, 1)) (hp : pc + 1 = pc') (hc : x.category = 1) (K : Go p e below F n0 Q T (mkF m pc' L (x :: x :: S))) : Go p e below F n0 Q T (mkF m pc L (x :: S)) := by
  obtain ⟨s, locs, X, hx, rfl, -⟩ := C; subst hp
  exact K.via fun t k => XS.dup X.here hx rfl hd rfl hc k
theorem Cx.dupX1 (C : Cx p l e R m args below meth c Z y bytes ml ret n0 wd F T h cells slots) {x z : Value} (hd : decode bytes pc = .ok (.dup_x1, 1)) (hp : pc + 1 = pc') (hc : x.category = 1) (hc' : z.category = 1) (K : Go p e below F n0 Q T (mkF m pc' L (x :: z :: x :: S))) : Go p e below F n0 Q T (mkF m pc L (x :: z :: S)) := by
  obtain ⟨s, locs, X, hx, rfl, -⟩ := C; subst hp
  exact K.via fun t k => XT.dupX1 X.here hx rfl hd rfl hc hc' k
theorem Cx.goto (C : Cx p l e R m args below meth c Z y bytes ml ret n0 wd F T h cells slots) {o : Int} (hd : decode bytes pc = .ok (.goto o, 3)) (ho : 0 ≤ (pc : Int) + o) (hp : ((pc : Int) + o).toNat = pc') (K : Go p e below F n0 Q T (mkF m pc' L S)) : Go p e below F n0 Q T (mkF m pc L S) := by
  obtain ⟨s, locs, X, hx, rfl, -⟩ := C
  exact K.via fun t k => XS.goto X.here hx rfl rfl hd ho hp k
theorem Cx.icmp_eq (C : Cx p l e R m args below meth c Z y bytes ml ret n0 wd F T h cells slots) {x z : Int32} {o : Int} {py pn : Nat} (hd : decode bytes pc = .ok (.if_icmp .eq o, 3)) (ho : 0 ≤ (pc : Int) + o) (hy : ((pc : Int) + o).toNat = py) (hn : pc + 3 = pn) (K1 : x = z → Go p e below F n0 Q T (mkF m py L S)) (K2 : ¬ x = z → Go p e below F n0 Q T (mkF m pn L S)) : Go p e below F n0 Q T (mkF m pc L (.int z :: .int x :: S)) := by
  obtain ⟨s, locs, X, hx, rfl, -⟩ := C; subst hn
  by_cases q : x = z
  · exact (K1 q).via fun t k => XS.icmpYes X.here hx rfl rfl hd rfl (XT.ii_eq_t q) ho hy k
  · exact (K2 q).via fun t k => XS.icmpNo X.here hx rfl hd rfl (XT.ii_eq_f q) k
theorem Cx.if_eq (C : Cx p l e R m args below meth c Z y bytes ml ret n0 wd F T h cells slots) {x : Int32} {o : Int} {py pn : Nat} (hd : decode bytes pc = .ok (.ifCond .eq o, 3)) (ho : 0 ≤ (pc : Int) + o) (hy : ((pc : Int) + o).toNat = py) (hn : pc + 3 = pn) (K1 : x = (0 : Int32) → Go p e below F n0 Q T (mkF m py L S)) (K2 : ¬ x = (0 : Int32) → Go p e below F n0 Q T (mkF m pn L S)) : Go p e below F n0 Q T (mkF m pc L (.int x :: S)) := by
  obtain ⟨s, locs, X, hx, rfl, -⟩ := C; subst hn
  by_cases q : x = (0 : Int32)
  · exact (K1 q).via fun t k => XS.ifYes X.here hx rfl rfl hd rfl (XT.i0_eq_t q) ho hy k
  · exact (K2 q).via fun t k => XS.ifNo X.here hx rfl hd rfl (XT.i0_eq_f q) k
theorem Cx.lif_eq (C : Cx p l e R m args below meth c Z y bytes ml ret n0 wd F T h cells slots) {x z : Int64} {o : Int} {p1 py pn : Nat} (hd1 : decode bytes pc = .ok (.lcmp, 1)) (hp1 : pc + 1 = p1) (hd : decode bytes p1 = .ok (.ifCond .eq o, 3)) (ho : 0 ≤ (p1 : Int) + o) (hy : ((p1 : Int) + o).toNat = py) (hn : p1 + 3 = pn) (K1 : x = z → Go p e below F n0 Q T (mkF m py L S)) (K2 : ¬ x = z → Go p e below F n0 Q T (mkF m pn L S)) : Go p e below F n0 Q T (mkF m pc L (.long z :: .long x :: S)) := by
  obtain ⟨s, locs, X, hx, rfl, -⟩ := C; subst hn; subst hp1
  by_cases q : x = z
  · exact (K1 q).via fun t k => XT.lcmp X.here hx rfl hd1 rfl (XS.ifYes X.here hx rfl rfl hd rfl (XT.ll_eq_t q) ho hy k)
  · exact (K2 q).via fun t k => XT.lcmp X.here hx rfl hd1 rfl (XS.ifNo X.here hx rfl hd rfl (XT.ll_eq_f q) k)
theorem Cx.icmp_ne (C : Cx p l e R m args below meth c Z y bytes ml ret n0 wd F T h cells slots) {x z : Int32} {o : Int} {py pn : Nat} (hd : decode bytes pc = .ok (.if_icmp .ne o, 3)) (ho : 0 ≤ (pc : Int) + o) (hy : ((pc : Int) + o).toNat = py) (hn : pc + 3 = pn) (K1 : ¬ x = z → Go p e below F n0 Q T (mkF m py L S)) (K2 : x = z → Go p e below F n0 Q T (mkF m pn L S)) : Go p e below F n0 Q T (mkF m pc L (.int z :: .int x :: S)) := by
  obtain ⟨s, locs, X, hx, rfl, -⟩ := C; subst hn
  by_cases q : x = z
  · exact (K2 q).via fun t k => XS.icmpNo X.here hx rfl hd rfl (XT.ii_ne_f q) k
  · exact (K1 q).via fun t k => XS.icmpYes X.here hx rfl rfl hd rfl (XT.ii_ne_t q) ho hy k
theorem Cx.if_ne (C : Cx p l e R m args below meth c Z y bytes ml ret n0 wd F T h cells slots) {x : Int32} {o : Int} {py pn : Nat} (hd : decode bytes pc = .ok (.ifCond .ne o, 3)) (ho : 0 ≤ (pc : Int) + o) (hy : ((pc : Int) + o).toNat = py) (hn : pc + 3 = pn) (K1 : ¬ x = (0 : Int32) → Go p e below F n0 Q T (mkF m py L S)) (K2 : x = (0 : Int32) → Go p e below F n0 Q T (mkF m pn L S)) : Go p e below F n0 Q T (mkF m pc L (.int x :: S)) := by
  obtain ⟨s, locs, X, hx, rfl, -⟩ := C; subst hn
  by_cases q : x = (0 : Int32)
  · exact (K2 q).via fun t k => XS.ifNo X.here hx rfl hd rfl (XT.i0_ne_f q) k
  · exact (K1 q).via fun t k => XS.ifYes X.here hx rfl rfl hd rfl (XT.i0_ne_t q) ho hy k
theorem Cx.done (C : Cx p l e R m args below meth c Z y bytes ml ret n0 wd F T h cells slots) {v : Option Value} (hv : ret = none → v = none) (hc : cells ≤ R.cells) (hs : slots ≤ R.slots) (hq : Q v h) {f : JFrame}
    (k : ∀ s locs fs, Stand p l e R s m args below meth c T locs cells slots → (∀ (f : JFrame) (acts : List Action), f.method = m → f.locked = none → f.entered = [] → (doReturn e (T.setTop f) acts v).1 = T.setFrames fs) → Steps p.tables e below (T.setTop f) (T.setFrames fs)) : Go p e below F n0 Q T f := by
  have hz := C.size
  obtain ⟨s, locs, X, hx, rfl, rfl, hZ, hown, hnm, rfl, hlk, rfl, N, hn, hF⟩ := C
  obtain ⟨fs, hr, hrun, hended, hW, hsame⟩ := X.leave (v := v) hv
  exact ⟨_, _, k s locs fs X hr, hrun, hended, v, locs, rfl, ⟨hq, N, hz⟩, hF _ _ _ (Nat.le_refl _) (EndF.of ⟨⟨v, rfl⟩, hW, hsame.mono hc hs⟩)⟩
theorem Cx.retI (C : Cx p l e R m args below meth c Z y bytes ml ret n0 wd F T h cells slots) {z : Int32} (hd : decode bytes pc = .ok (.ireturn, 1)) (hret : ret = some .int) (hc : cells ≤ R.cells) (hs : slots ≤ R.slots) (hq : Q (some (.int z)) h) : Go p e below F n0 Q T (mkF m pc L (.int z :: S)) := by
  refine C.done (fun q => by rw [hret] at q; cases q) hc hs hq fun s locs fs X hr => ?_
  obtain ⟨_, _, -, hx, rfl, -, -, -, -, rfl, -⟩ := C
  exact retOut X hx hret rfl (Or.inl ⟨rfl, Or.inl rfl, _, rfl⟩) hd hr
theorem Cx.retN (C : Cx p l e R m args below meth c Z y bytes ml ret n0 wd F T h cells slots) {z w : Int32} {t : FieldType} (hd : decode bytes pc = .ok (.ireturn, 1)) (hret : ret = some t) (ht : t = .boolean ∨ t = .byte ∨ t = .char ∨ t = .short) (hc : cells ≤ R.cells) (hs : slots ≤ R.slots) (hw : nar t z = w) (hq : Q (some (.int w)) h) : Go p e below F n0 Q T (mkF m pc L (.int z :: S)) := by
  subst hw
  refine C.done (fun q => by rw [hret] at q; cases q) hc hs hq fun s locs fs X hr => ?_
  obtain ⟨_, _, -, hx, rfl, -, -, -, -, rfl, -⟩ := C
  exact Jvm.RoadKit.retN X hx hret ht hd hr
theorem Cx.retA (C : Cx p l e R m args below meth c Z y bytes ml ret n0 wd F T h cells slots) {w : Value} {t : FieldType} (hd : decode bytes pc = .ok (.areturn, 1)) (hret : ret = some t) (ht : t.isReference = true) (hw : w.isRef = true) (hc : cells ≤ R.cells) (hs : slots ≤ R.slots) (hq : Q (some w) h) : Go p e below F n0 Q T (mkF m pc L (w :: S)) := by
  refine C.done (fun q => by rw [hret] at q; cases q) hc hs hq fun s locs fs X hr => ?_
  obtain ⟨_, _, -, hx, rfl, -, -, -, -, rfl, -⟩ := C
  refine retOut X hx hret ?_ (Or.inr (Or.inr (Or.inr (Or.inr ⟨rfl, ht, hw⟩)))) hd hr
  rcases ref_cases hw with rfl | ⟨a, rfl⟩ <;> cases t <;> first | rfl | (simp [FieldType.isReference] at ht)
theorem Cx.retV (C : Cx p l e R m args below meth c Z y bytes ml ret n0 wd F T h cells slots) (hd : decode bytes pc = .ok (.return_, 1)) (hret : ret = none) (hc : cells ≤ R.cells) (hs : slots ≤ R.slots) (hq : Q none h) : Go p e below F n0 Q T (mkF m pc L []) := by
  refine C.done (fun q => rfl) hc hs hq fun s locs fs X hr => ?_
  obtain ⟨_, _, -, hx, rfl, -, -, -, -, rfl, -⟩ := C
  exact X.returnOut hx hret hd hr
theorem Cx.ldc (C : Cx p l e R m args below meth c Z y bytes ml ret n0 wd F T h cells slots) {idx : Nat} {v : Int32} (w : (Jvm.Cond.constant y.cls idx v).before a0 Z = true) (hd : decode bytes pc = .ok (.ldc idx, 2)) (hp : pc + 2 = pc') (K : Go p e below F n0 Q T (mkF m pc' L (.int v :: S))) : Go p e below F n0 Q T (mkF m pc L S) := by
  obtain ⟨s, locs, X, hx, rfl, rfl, hZ, hown, -⟩ := C; subst hp
  exact K.via fun t k => X.ldcInt hx hown (mvT hZ w) (g := mkF m pc L S) rfl hd t k
theorem Cx.ldc2 (C : Cx p l e R m args below meth c Z y bytes ml ret n0 wd F T h cells slots) {idx : Nat} {v : Int64} (w : (Jvm.Cond.constantLong y.cls idx v).before a0 Z = true) (hd : decode bytes pc = .ok (.ldc2_w idx, 3)) (hp : pc + 3 = pc') (K : Go p e below F n0 Q T (mkF m pc' L (.long v :: S))) : Go p e below F n0 Q T (mkF m pc L S) := by
  obtain ⟨s, locs, X, hx, rfl, rfl, hZ, hown, -⟩ := C; subst hp
  exact K.via fun t k => X.ldc2Long hx hown (mvT hZ w) (g := mkF m pc L S) rfl hd t k
theorem Cx.callS (C : Cx p l e R m args below meth c Z y bytes ml ret n0 wd F T h cells slots) {idx : Nat} {y' : MethodName} {bytes' : ByteArray} {ml' : Nat} {ret' : Option FieldType} {R' : Room} {Q' : Option Value → Heap → Prop} {argsL : List Value} (w1 : (Jvm.Cond.methodLink y.cls idx y').before a0 Z = true) (w2 : (Jvm.Cond.static y').before a0 Z = true) (w3 : (Jvm.Cond.initialized y'.cls).before a0 Z = true) (w4 : (Jvm.Cond.code y' bytes' ml' ret').before a0 Z = true)
    (hy : y'.cls ≠ "java/lang/invoke/MethodHandle" ∧ y'.cls ≠ "java/lang/invoke/VarHandle") (M : Ctr l Z y' bytes' ml' ret' R' argsL.toArray h n0 Q') {ps : List FieldType} {rt : Option FieldType} (hpd : parseMethodDescriptor y'.desc = some ⟨ps, rt⟩) (hlen : argsL.length = ps.length)
    (W : Nat) (hf : R'.frames + 1 ≤ R.frames) (hl : W + (ml' + 11) + R'.locals ≤ R.locals) (hc : cells + R'.cells ≤ R.cells) (hs : slots + R'.slots ≤ R.slots) {rest : List Value} (hst : S = argsL.reverse ++ rest) (hsz : L.size = ml) (hW : (rest.map fun v => v.category).sum ≤ W)
    (hd : decode bytes pc = .ok (.invokestatic idx, 3)) (hp : pc + 3 = pc') (K : ∀ v T' h', Cx p l e R m args below meth c Z y bytes ml ret n0 wd F T' h' (cells + R'.cells) (slots + R'.slots) → Q' v h' → Go p e below F n0 Q T' (mkF m pc' L (v.toList ++ rest))) : Go p e below F n0 Q T (mkF m pc L S) := by
  obtain ⟨s, locs, X, hx, rfl, rfl, hZ, hown, hnm, hr, hlk, eT, N, hn, hF⟩ := C; subst hp
  obtain ⟨v, _, ⟨T', L', k', n'⟩, -, X', ⟨Lc, hQ, e1, e2, e3⟩, st⟩ := Jvm.LawKit.callS X hx (y := y') hown (mvT hZ w1) (mvT hZ w2) (mvT hZ w3) (mvT hZ w4) hy (backOf (W := W) (Q := fun v h9 L => (Q' v h9 ∧ h.size ≤ h9.size) ∧ Fr n0 L) (M []) hZ w4 w3 hf hl) (g := mkF m pc L S) rfl hsz (argsL := argsL) (rest := rest) (lenOf hpd hlen) hst (by show 2 * 0 + _ ≤ _; omega) hd (fun _ _ => ⟨rfl, eT, hc, hs⟩)
  dsimp only [Pt.U, Pt.locs, Pt.cells, Pt.slots] at X' e1 e2 e3 st hQ
  subst e1 e2 e3
  exact (K v T' T'.heap ⟨s, _, X', hx, rfl, rfl, hZ, hown, hnm, hr, hlk, rfl, N.app hQ.2, hn, fun o t L q => hF o t L (Nat.le_trans hQ.1.2 q)⟩ hQ.1.1).via st
theorem ext_keep {h h' : Heap} (K : Keep h h' []) : Ext h h' := ⟨K.1, fun a c q => K.2.1 a c q nin0⟩
theorem Cx.new (C : Cx p l e R m args below meth c Z y bytes ml ret n0 wd F T h cells slots) {idx n : Nat} {Cl : String} (w : (Jvm.Cond.classLink y.cls idx Cl).before a0 Z = true) (wi : (Jvm.Cond.instantiable Cl n).before a0 Z = true) (wz : (Jvm.Cond.initialized Cl).before a0 Z = true) (hd : decode bytes pc = .ok (.new idx, 3)) (hp : pc + 3 = pc') (hc : cells + 1 ≤ R.cells) (hl : slots + n ≤ R.slots)
    (K : ∀ T' h' b, Cx p l e R m args below meth c Z y bytes ml ret n0 wd F T' h' (cells + 1) (slots + n) → b = h.size → n0 ≤ b → Ext h h' → Exa Z h' b Cl → (∀ {O nm d : String} {ty : FieldType}, Laid Z a0 Cl O nm d → parseFieldDescriptor d = some ty → Fld Z h' b O nm d (defaultValue ty)) → Go p e below F n0 Q T' (mkF m pc' L (.ref b :: S))) : Go p e below F n0 Q T (mkF m pc L S) := by
  have hz := C.size
  obtain ⟨s, locs, X, hx, rfl, rfl, hZ, hown, hnm, hr, hlk, eT, N, hn, hF⟩ := C; subst hp
  obtain ⟨T', h', X', e', E, A, D, -, st⟩ := newO X hx hZ hown w wi wz eT (g := mkF m pc L S) rfl hd hc hl
  exact (K T' h' h.size ⟨s, locs, X', hx, rfl, rfl, hZ, hown, hnm, hr, hlk, e', N, hn, fun o t L q => hF o t L (Nat.le_trans E.1 q)⟩ rfl hz E A D).via st
theorem Cx.getF (C : Cx p l e R m args below meth c Z y bytes ml ret n0 wd F T h cells slots) {idx : Nat} {R0 O n d host : String} {a : Addr} {v : Value} (w : (Jvm.Cond.fieldLink y.cls idx R0 n d).before a0 Z = true ∨ (Jvm.Cond.fieldLinkNest y.cls idx R0 n d host).before a0 Z = true) (via : Via Z R0 O n d) (Fd : Fld Z h a O n d v) (hd : decode bytes pc = .ok (.getfield idx, 3)) (hp : pc + 3 = pc')
    (K : ∀ T', Cx p l e R m args below meth c Z y bytes ml ret n0 wd F T' h cells slots → Go p e below F n0 Q T' (mkF m pc' L (v :: S))) : Go p e below F n0 Q T (mkF m pc L (.ref a :: S)) := by
  obtain ⟨s, locs, X, hx, rfl, rfl, hZ, hown, hnm, hr, hlk, eT, N, hn, hF⟩ := C; subst hp
  obtain ⟨T', X', e', st⟩ := Jvm.RoadKit.getF X hx hZ hown w via eT Fd (g := mkF m pc L (.ref a :: S)) rfl rfl hd
  exact (K T' ⟨s, locs, X', hx, rfl, rfl, hZ, hown, hnm, hr, hlk, e', N, hn, hF⟩).via st
theorem Cx.getS (C : Cx p l e R m args below meth c Z y bytes ml ret n0 wd F T h cells slots) {idx : Nat} {R0 O n d host : String} {v : Value} (w : (Jvm.Cond.fieldLink y.cls idx R0 n d).before a0 Z = true ∨ (Jvm.Cond.fieldLinkNest y.cls idx R0 n d host).before a0 Z = true) (via : Via Z R0 O n d) (Fd : Sta Z h O n d v) (hd : decode bytes pc = .ok (.getstatic idx, 3)) (hp : pc + 3 = pc')
    (K : ∀ T', Cx p l e R m args below meth c Z y bytes ml ret n0 wd F T' h cells slots → Go p e below F n0 Q T' (mkF m pc' L (v :: S))) : Go p e below F n0 Q T (mkF m pc L S) := by
  obtain ⟨s, locs, X, hx, rfl, rfl, hZ, hown, hnm, hr, hlk, eT, N, hn, hF⟩ := C; subst hp
  obtain ⟨T', X', e', st⟩ := getS2 X hx hZ hown w via eT Fd (g := mkF m pc L S) rfl hd
  exact (K T' ⟨s, locs, X', hx, rfl, rfl, hZ, hown, hnm, hr, hlk, e', N, hn, hF⟩).via st
theorem Cx.putF (C : Cx p l e R m args below meth c Z y bytes ml ret n0 wd F T h cells slots) {idx kk : Nat} {R0 O n d host Cl : String} {a : Addr} {v old : Value} {ty : FieldType} (w : (Jvm.Cond.fieldLink y.cls idx R0 n d).before a0 Z = true ∨ (Jvm.Cond.fieldLinkNest y.cls idx R0 n d host).before a0 Z = true) (via : Via Z R0 O n d) (Fd : Fld Z h a O n d old) (E : Exa Z h a Cl) (Lw : (Jvm.Cond.lays Cl O n d).before a0 Z = true ∨ ((Jvm.Cond.laysFinal Cl O n d).before a0 Z = true ∧ y.cls = O ∧ y.name = "<init>")) (wi : (Jvm.Cond.instantiable Cl kk).before a0 Z = true)
    (hty : parseFieldDescriptor d = some ty) (hnr : narrow ty v = v) (hf : fits ty v = true) (g : n0 ≤ a) (hd : decode bytes pc = .ok (.putfield idx, 3)) (hp : pc + 3 = pc') (K : ∀ T' h', Cx p l e R m args below meth c Z y bytes ml ret n0 wd F T' h' cells slots → Wr h h' a (Jvm.RoadKit.slotOf Z O n d) v → Go p e below F n0 Q T' (mkF m pc' L S)) : Go p e below F n0 Q T (mkF m pc L (v :: .ref a :: S)) := by
  obtain ⟨s, locs, X, hx, rfl, rfl, hZ, hown, hnm, hr, hlk, eT, N, hn, hF⟩ := C; subst hp
  obtain ⟨T', h', X', e', W, st⟩ := Jvm.RoadKit.putF X hx hZ hown w via eT Fd E (Lw.imp id fun q => ⟨q.1, q.2.1, hnm.trans q.2.2⟩) wi hty hnr hf (g := mkF m pc L (v :: .ref a :: S)) rfl rfl hd
  exact (K T' h' ⟨s, _, X', hx, rfl, rfl, hZ, hown, hnm, hr, hlk, e', Fr.snoc X' N g, hn, fun o t L q => hF o t L (W.size ▸ q)⟩ W).via st
theorem Cx.initObj (C : Cx p l e R m args below meth c Z y bytes ml ret n0 wd F T h cells slots) {idx : Nat} {a : Addr} (w1 : (Jvm.Cond.methodLink y.cls idx Lib.objectInit).before a0 Z = true) (w2 : (Jvm.Cond.instanceMethod Lib.objectInit).before a0 Z = true) (w3 : (Jvm.Cond.code Lib.objectInit ⟨#[0xb1]⟩ 1 none).before a0 Z = true) (hsz : L.size = ml) (hf : 1 ≤ R.frames) (W : Nat) (hW : (S.map fun v => v.category).sum ≤ W) (hl : W + 12 ≤ R.locals) (hd : decode bytes pc = .ok (.invokespecial idx, 3)) (hp : pc + 3 = pc')
    (K : ∀ T', Cx p l e R m args below meth c Z y bytes ml ret n0 wd F T' h cells slots → Go p e below F n0 Q T' (mkF m pc' L S)) : Go p e below F n0 Q T (mkF m pc L (.ref a :: S)) := by
  obtain ⟨s, locs, X, hx, rfl, rfl, hZ, hown, hnm, hr, hlk, eT, N, hn, hF⟩ := C; subst hp
  obtain ⟨T', X', e', st⟩ := initO X hx hZ hown w1 w2 w3 eT (g := mkF m pc L (.ref a :: S)) rfl hsz rfl hd hf (W := W) (by show 2 * 0 + _ ≤ _; omega) hl
  exact (K T' ⟨s, locs, X', hx, rfl, rfl, hZ, hown, hnm, hr, hlk, e', N, hn, hF⟩).via st
theorem Cx.newarr (C : Cx p l e R m args below meth c Z y bytes ml ret n0 wd F T h cells slots) {aty : ArrayType} (w : (Jvm.Cond.arrayClass (newarray.typeOf aty)).before a0 Z = true) {n : Int32} (cap : Nat) (hn0 : ¬ n < 0) (hcap : n.toNatClampNeg ≤ cap) (hb : cap * 8 ≤ 536870912) (hc : cells + 1 ≤ R.cells) (hl : slots + cap ≤ R.slots) (hd : decode bytes pc = .ok (.newarray aty, 2)) (hp : pc + 2 = pc')
    (K : ∀ T' h' b k, Cx p l e R m args below meth c Z y bytes ml ret n0 wd F T' h' (cells + 1) (slots + cap) → b = h.size → n0 ≤ b → Ext h h' → Arv Z h' b k (newarray.typeOf aty) n (List.replicate cap (defaultValue (newarray.typeOf aty))) (defaultValue (newarray.typeOf aty)) → Go p e below F n0 Q T' (mkF m pc' L (.ref b :: S))) : Go p e below F n0 Q T (mkF m pc L (.int n :: S)) := by
  have hz := C.size
  obtain ⟨s, locs, X, hx, rfl, rfl, hZ, hown, hnm, hr, hlk, eT, N, hn, hF⟩ := C; subst hp
  obtain ⟨T', h', cA, X', e', E, A, st⟩ := newP X hx hZ w eT (g := mkF m pc L (.int n :: S)) rfl hd rfl hn0 (cap := cap) hcap hb hc hl
  exact (K T' h' h.size cA ⟨s, locs, X', hx, rfl, rfl, hZ, hown, hnm, hr, hlk, e', N, hn, fun o t L q => hF o t L (Nat.le_trans E.1 q)⟩ rfl hz E ((Arv.new A hn0).pad (pad_rep [] _ cap))).via st
theorem Cx.bastore (C : Cx p l e R m args below meth c Z y bytes ml ret n0 wd F T h cells slots) {a : Addr} {k : ClassId} {n j : Int32} {x : Int32} {vs : List Value} {dv : Value} (A : Arv Z h a k .byte n vs dv) (hj : ¬ j < 0 ∧ j < n) (hlen : j.toNatClampNeg < vs.length) (g : n0 ≤ a) (hd : decode bytes pc = .ok (.bastore, 1)) (hp : pc + 1 = pc')
    (K : ∀ T' h', Cx p l e R m args below meth c Z y bytes ml ret n0 wd F T' h' cells slots → Wr h h' a j.toNatClampNeg (.int (nar .byte x)) → Arv Z h' a k .byte n (vs.set j.toNatClampNeg (.int (nar .byte x))) dv → Go p e below F n0 Q T' (mkF m pc' L S)) : Go p e below F n0 Q T (mkF m pc L (.int x :: .int j :: .ref a :: S)) := by
  obtain ⟨s, locs, X, hx, rfl, rfl, hZ, hown, hnm, hr, hlk, eT, N, hn, hF⟩ := C; subst hp
  obtain ⟨cl, Ar, q1, Sz, q3, H, G⟩ := A
  obtain ⟨T', h', X', e', W, st⟩ := stB X hx hZ eT Ar (j := j) (inb_of Sz hj) (g := mkF m pc L (.int x :: .int j :: .ref a :: S)) rfl rfl hd
  exact (K T' h' ⟨s, _, X', hx, rfl, rfl, hZ, hown, hnm, hr, hlk, e', Fr.snoc X' N g, hn, fun o t L q => hF o t L (W.size ▸ q)⟩ W (Arv.set Ar q1 Sz q3 H G (fits_nar_byte _) W _ rfl hlen)).via st
theorem Cx.baload (C : Cx p l e R m args below meth c Z y bytes ml ret n0 wd F T h cells slots) {a : Addr} {k : ClassId} {n j : Int32} {v : Int32} {vs : List Value} {dv : Value} (A : Arv Z h a k .byte n vs dv) (hj : ¬ j < 0 ∧ j < n) (hv : vs.getD j.toNatClampNeg dv = .int v) (hd : decode bytes pc = .ok (.baload, 1)) (hp : pc + 1 = pc') (K : Go p e below F n0 Q T (mkF m pc' L (.int v :: S))) : Go p e below F n0 Q T (mkF m pc L (.int j :: .ref a :: S)) := by
  obtain ⟨s, locs, X, hx, rfl, rfl, hZ, hown, hnm, hr, hlk, eT, N, hn, hF⟩ := C; subst hp
  obtain ⟨cl, Ar, q1, Sz, q3, H, G⟩ := A
  exact K.via fun t k => X.baloadBytes hx (j := j) (by rw [eT]; exact Ar.1) (State.isArrayOf_alike hZ.alike Ar.2.1) Ar.2.2 (inb_of Sz hj) (H.at (inb_of Sz hj) hv) (g := mkF m pc L (.int j :: .ref a :: S)) rfl rfl hd t k
theorem Cx.arrlen (C : Cx p l e R m args below meth c Z y bytes ml ret n0 wd F T h cells slots) {a : Addr} {k : ClassId} {n : Int32} {ty : FieldType} {vs : List Value} {dv : Value} (A : Arv Z h a k ty n vs dv) (hd : decode bytes pc = .ok (.arraylength, 1)) (hp : pc + 1 = pc') (K : Go p e below F n0 Q T (mkF m pc' L (.int n :: S))) : Go p e below F n0 Q T (mkF m pc L (.ref a :: S)) := by
  obtain ⟨s, locs, X, hx, rfl, rfl, hZ, hown, hnm, hr, hlk, eT, N, hn, hF⟩ := C; subst hp
  obtain ⟨cl, Ar, q1, Sz, q3, H, G⟩ := A
  rw [← len_of Sz q3] at K
  exact K.via fun t k => X.arraylength hx (by rw [eT]; exact Ar.1) (State.isArrayOf_alike hZ.alike Ar.2.1) (g := mkF m pc L (.ref a :: S)) rfl rfl hd t k
theorem Cx.callN (C : Cx p l e R m args below meth c Z y bytes ml ret n0 wd F T h cells slots) {a : Addr} {idx : Nat} {y' : MethodName} {bytes' : ByteArray} {ml' : Nat} {R' : Room} {Q' : Option Value → Heap → Prop} {argsL : List Value} (hin : y'.name = "<init>") (w1 : (Jvm.Cond.methodLink y.cls idx y').before a0 Z = true) (w2 : (Jvm.Cond.instanceMethod y').before a0 Z = true) (wz : (Jvm.Cond.initialized y'.cls).before a0 Z = true) (wc : (Jvm.Cond.code y' bytes' ml' none).before a0 Z = true)
    (hy : y'.cls ≠ "java/lang/invoke/MethodHandle" ∧ y'.cls ≠ "java/lang/invoke/VarHandle") (M : Ctr l Z y' bytes' ml' none R' (.ref a :: argsL).toArray h n0 Q') {ps : List FieldType} {rt : Option FieldType} (hpd : parseMethodDescriptor y'.desc = some ⟨ps, rt⟩) (hlen : argsL.length = ps.length) (W : Nat) (hf : R'.frames + 1 ≤ R.frames) (hl : W + (ml' + 11) + R'.locals ≤ R.locals) (hc : cells + R'.cells ≤ R.cells) (hs : slots + R'.slots ≤ R.slots) {rest : List Value} (hst : S = argsL.reverse ++ .ref a :: rest) (hsz : L.size = ml) (hW : (rest.map fun v => v.category).sum ≤ W) (hd : decode bytes pc = .ok (.invokespecial idx, 3)) (hp : pc + 3 = pc') (K : ∀ v T' h', Cx p l e R m args below meth c Z y bytes ml ret n0 wd F T' h' (cells + R'.cells) (slots + R'.slots) → Q' v h' → Go p e below F n0 Q T' (mkF m pc' L (v.toList ++ rest))) : Go p e below F n0 Q T (mkF m pc L S) := by
  obtain ⟨s, locs, X, hx, rfl, rfl, hZ, hown, hnm, hr, hlk, eT, N, hn, hF⟩ := C; subst hp
  obtain ⟨v, _, ⟨T', L', k', n'⟩, -, X', ⟨Lc, hQ, e1, e2, e3⟩, st⟩ := X.specialBack hx (y := y') hin hown (mvT hZ w1) (mvT hZ w2) (mvT hZ wc) hy (backOf (W := W) (Q := fun v h9 L => (Q' v h9 ∧ h.size ≤ h9.size) ∧ Fr n0 L) (M []) hZ wc wz hf hl) (g := mkF m pc L S) rfl hsz (Steps.refl _) (a := a) (argsL := argsL) (rest := rest) (lenOf hpd hlen) hst (by show 2 * 0 + _ ≤ _; omega) hd (fun _ _ => ⟨rfl, eT, hc, hs⟩)
  dsimp only [Pt.U, Pt.locs, Pt.cells, Pt.slots] at X' e1 e2 e3 st hQ
  subst e1 e2 e3
  exact (K v T' T'.heap ⟨s, _, X', hx, rfl, rfl, hZ, hown, hnm, hr, hlk, rfl, N.app hQ.2, hn, fun o t L q => hF o t L (Nat.le_trans hQ.1.2 q)⟩ hQ.1.1).via fun t k => st.trans k
theorem Cx.callV (C : Cx p l e R m args below meth c Z y bytes ml ret n0 wd F T h cells slots) {a : Addr} {idx : Nat} {y' : MethodName} {bytes' : ByteArray} {ml' : Nat} {ret' : Option FieldType} {R' : Room} {Q' : Option Value → Heap → Prop} {argsL : List Value} {Cl : String} (w1 : (Jvm.Cond.methodLink y.cls idx y').before a0 Z = true) (w2 : (Jvm.Cond.declares y').before a0 Z = true) (w3 : (Jvm.Cond.selects Cl y' y').before a0 Z = true) (w4 : (Jvm.Cond.instanceMethod y').before a0 Z = true) (wz : (Jvm.Cond.initialized y'.cls).before a0 Z = true) (wc : (Jvm.Cond.code y' bytes' ml' ret').before a0 Z = true) (E : Exa Z h a Cl)
    (hy : y'.cls ≠ "java/lang/invoke/MethodHandle" ∧ y'.cls ≠ "java/lang/invoke/VarHandle") (M : Ctr l Z y' bytes' ml' ret' R' (.ref a :: argsL).toArray h n0 Q') {ps : List FieldType} {rt : Option FieldType} (hpd : parseMethodDescriptor y'.desc = some ⟨ps, rt⟩) (hlen : argsL.length = ps.length) (W : Nat) (hf : R'.frames + 1 ≤ R.frames) (hl : W + (ml' + 11) + R'.locals ≤ R.locals) (hc : cells + R'.cells ≤ R.cells) (hs : slots + R'.slots ≤ R.slots) {rest : List Value} (hst : S = argsL.reverse ++ .ref a :: rest) (hsz : L.size = ml) (hW : (rest.map fun v => v.category).sum ≤ W) (hd : decode bytes pc = .ok (.invokevirtual idx, 3)) (hp : pc + 3 = pc') (K : ∀ v T' h', Cx p l e R m args below meth c Z y bytes ml ret n0 wd F T' h' (cells + R'.cells) (slots + R'.slots) → Q' v h' → Go p e below F n0 Q T' (mkF m pc' L (v.toList ++ rest))) : Go p e below F n0 Q T (mkF m pc L S) := by
  obtain ⟨s, locs, X, hx, rfl, rfl, hZ, hown, hnm, hr, hlk, eT, N, hn, hF⟩ := C; subst hp
  obtain ⟨cB, kB, qa, qb, qc⟩ := isOf hZ eT E
  obtain ⟨v, _, ⟨T', L', k', n'⟩, -, X', ⟨Lc, hQ, e1, e2, e3⟩, st⟩ := X.virtualBack hx (y := y') (z := y') hown (mvT hZ w1) (mvT hZ w2) (notFace_of_selects (args := #[]) (mvT hZ w3)) (mvT hZ w3) (mvT hZ w4) hy (backOf (W := W) (Q := fun v h9 L => (Q' v h9 ∧ h.size ≤ h9.size) ∧ Fr n0 L) (M []) hZ wc wz hf hl) qa qc (g := mkF m pc L S) rfl hsz (Steps.refl _) (argsL := argsL) (rest := rest) (lenOf hpd hlen) hst (by show 2 * 0 + _ ≤ _; omega) hd (fun _ _ => ⟨rfl, eT, hc, hs⟩)
  dsimp only [Pt.U, Pt.locs, Pt.cells, Pt.slots] at X' e1 e2 e3 st hQ
  subst e1 e2 e3
  exact (K v T' T'.heap ⟨s, _, X', hx, rfl, rfl, hZ, hown, hnm, hr, hlk, rfl, N.app hQ.2, hn, fun o t L q => hF o t L (Nat.le_trans hQ.1.2 q)⟩ hQ.1.1).via fun t k => st.trans k
theorem Cx.callF (C : Cx p l e R m args below meth c Z y bytes ml ret n0 wd F T h cells slots) {a : Addr} {idx : Nat} {y' : MethodName} {bytes' : ByteArray} {ml' : Nat} {ret' : Option FieldType} {R' : Room} {Q' : Option Value → Heap → Prop} {argsL : List Value} {Cl : String} {xi : MethodName} {cnt : Nat} (w1 : (Jvm.Cond.methodLink y.cls idx xi).before a0 Z = true) (w2 : (Jvm.Cond.declares xi).before a0 Z = true) (w3 : (Jvm.Cond.interfaceMethod xi.cls xi.cls xi.name xi.desc).before a0 Z = true) (w4 : (Jvm.Cond.selects Cl xi y').before a0 Z = true) (w5 : (Jvm.Cond.instanceMethod y').before a0 Z = true) (w6 : (Jvm.Cond.publicMethod y').before a0 Z = true) (w7 : (Jvm.Cond.unhidden Cl xi.name xi.desc).before a0 Z = true) (w8 : (Jvm.Cond.castable Cl xi.cls).before a0 Z = true) (wz : (Jvm.Cond.initialized y'.cls).before a0 Z = true) (wc : (Jvm.Cond.code y' bytes' ml' ret').before a0 Z = true) (E : Exa Z h a Cl)
    (hy : xi.cls ≠ "java/lang/invoke/MethodHandle" ∧ xi.cls ≠ "java/lang/invoke/VarHandle") (M : Ctr l Z y' bytes' ml' ret' R' (.ref a :: argsL).toArray h n0 Q') {ps : List FieldType} {rt : Option FieldType} (hpd : parseMethodDescriptor xi.desc = some ⟨ps, rt⟩) (hlen : argsL.length = ps.length) (W : Nat) (hf : R'.frames + 1 ≤ R.frames) (hl : W + (ml' + 11) + R'.locals ≤ R.locals) (hc : cells + R'.cells ≤ R.cells) (hs : slots + R'.slots ≤ R.slots) {rest : List Value} (hst : S = argsL.reverse ++ .ref a :: rest) (hsz : L.size = ml) (hW : (rest.map fun v => v.category).sum ≤ W) (hd : decode bytes pc = .ok (.invokeinterface idx cnt, 5)) (hp : pc + 5 = pc') (K : ∀ v T' h', Cx p l e R m args below meth c Z y bytes ml ret n0 wd F T' h' (cells + R'.cells) (slots + R'.slots) → Q' v h' → Go p e below F n0 Q T' (mkF m pc' L (v.toList ++ rest))) : Go p e below F n0 Q T (mkF m pc L S) := by
  obtain ⟨s, locs, X, hx, rfl, rfl, hZ, hown, hnm, hr, hlk, eT, N, hn, hF⟩ := C; subst hp
  obtain ⟨cB, kB, qa, qb, qc⟩ := isOf hZ eT E
  obtain ⟨v, _, ⟨T', L', k', n'⟩, -, X', ⟨Lc, hQ, e1, e2, e3⟩, st⟩ := X.interfaceBack hx (xi := xi) (y := y') hown (mvT hZ w1) (mvT hZ w2) (mvT hZ w3 (by simp [Cond.onTables, Cond.keepsFace, Cond.keeps, Cond.steady, Cond.faceAtom, hy.1, hy.2])) (mvT hZ w4) (mvT hZ w5) (mvT hZ w6) (mvT hZ w7) (mvT hZ w8) hy (backOf (W := W) (Q := fun v h9 L => (Q' v h9 ∧ h.size ≤ h9.size) ∧ Fr n0 L) (M []) hZ wc wz hf hl) qa qb qc (g := mkF m pc L S) rfl hsz (Steps.refl _) (argsL := argsL) (rest := rest) (lenOf hpd hlen) hst (by show 2 * 0 + _ ≤ _; omega) hd (fun _ _ => ⟨rfl, eT, hc, hs⟩)
  dsimp only [Pt.U, Pt.locs, Pt.cells, Pt.slots] at X' e1 e2 e3 st hQ
  subst e1 e2 e3
  exact (K v T' T'.heap ⟨s, _, X', hx, rfl, rfl, hZ, hown, hnm, hr, hlk, rfl, N.app hQ.2, hn, fun o t L q => hF o t L (Nat.le_trans hQ.1.2 q)⟩ hQ.1.1).via fun t k => st.trans k
theorem Cx.ifnullYes (C : Cx p l e R m args below meth c Z y bytes ml ret n0 wd F T h cells slots) {o : Int} (hd : decode bytes pc = .ok (.ifnull o, 3)) (ho : 0 ≤ (pc : Int) + o) (hp : ((pc : Int) + o).toNat = pc') (K : Go p e below F n0 Q T (mkF m pc' L S)) : Go p e below F n0 Q T (mkF m pc L (.null :: S)) := by
  obtain ⟨s, locs, X, hx, rfl, -⟩ := C
  exact K.via fun t k => XS.ifnullYes X.here hx rfl rfl hd rfl ho hp k
theorem Cx.acopy (C : Cx p l e R m args below meth c Z y bytes ml ret n0 wd F T h cells slots) {idx : Nat} {a b : Addr} {k k' : ClassId} {ty : FieldType} {z z' sp dp nn : Int32} {vs vd us : List Value} {dv dd : Value} (w1 : (Jvm.Cond.methodLink y.cls idx Jvm.Stand.acN).before a0 Z = true) (w2 : (Jvm.Cond.native Jvm.Stand.acN).before a0 Z = true) (w3 : (Jvm.Cond.static Jvm.Stand.acN).before a0 Z = true) (w4 : (Jvm.Cond.initialized "java/lang/System").before a0 Z = true)
    (A : Arv Z h a k ty z vs dv) (B : Arv Z h b k' ty z' vd dd) (hty : refKind ty = false) (h1 : ¬ sp < 0) (h2 : ¬ dp < 0) (h3 : ¬ nn < 0) (h4 : sp.toNatClampNeg + nn.toNatClampNeg ≤ z.toNatClampNeg) (h5 : dp.toNatClampNeg + nn.toNatClampNeg ≤ z'.toNatClampNeg) (hus : us = (List.range nn.toNatClampNeg).map fun i => vs.getD (sp.toNatClampNeg + i) dv) (hln : dp.toNatClampNeg + nn.toNatClampNeg ≤ vd.length) (g : n0 ≤ b) (hsz : L.size = ml) (hf : 1 ≤ R.frames) (W : Nat) (hW : (S.map fun v => v.category).sum ≤ W) (hlo : W + (nativeFrameWords "java/lang/System" "arraycopy" 5 + 11) ≤ R.locals)
    (hd : decode bytes pc = .ok (.invokestatic idx, 3)) (hp : pc + 3 = pc') (K : ∀ T' h', Cx p l e R m args below meth c Z y bytes ml ret n0 wd F T' h' cells slots → Keep h h' [b] → Arv Z h' b k' ty z' (vd.take dp.toNatClampNeg ++ us ++ vd.drop (dp.toNatClampNeg + nn.toNatClampNeg)) dd → Go p e below F n0 Q T' (mkF m pc' L S)) : Go p e below F n0 Q T (mkF m pc L (.int nn :: .int dp :: .ref b :: .int sp :: .ref a :: S)) := by
  obtain ⟨s, locs, X, hx, rfl, rfl, hZ, hown, hnm, hr, hlk, eT, N, hn, hF⟩ := C; subst hp
  obtain ⟨T', h', L9, X', e', N', K', V', st⟩ := cpA X hx hZ hown w1 w2 w3 w4 eT A B (Or.inl ⟨rfl, hty⟩) h1 h2 h3 h4 h5 hus hln N g (g := mkF m pc L (.int nn :: .int dp :: .ref b :: .int sp :: .ref a :: S)) rfl hsz rfl hd hf (W := W) (by show 2 * 0 + _ ≤ _; omega) hlo
  exact (K T' h' ⟨s, _, X', hx, rfl, rfl, hZ, hown, hnm, hr, hlk, e', N', hn, fun o t L q => hF o t L (Nat.le_trans K'.1 q)⟩ K' V').via st
end Layer
end Jvm.Ow
namespace Jvm.Pilot.@@N@@
open Jvm Jvm.ClassFile Sem Op Lib Jvm.Free Jvm.Stand Jvm.LawKit Jvm.RoadKit Bundle Jvm.Ow Jvm.Pilot.@@N@@.Jvm.D
theorem own_nea {Z : State} {h : Heap} {a b : Addr} {C : String} {k : ClassId} {ty : FieldType} {n : Int32} {vs : List Value} {dv : Value} {a0 : Array Value} {kk : Nat} (E : Exa Z h a C) (wi : (Jvm.Cond.instantiable C kk).before a0 Z = true) (F : Arv Z h b k ty n vs dv) : a ≠ b := by
  obtain ⟨c, A, -⟩ := F; exact ne_arr E wi A
theorem own_fitr {v : Value} {t : FieldType} (h : v.isRef = true) (ht : t.isReference = true) : fits t v = true := by
  rcases ref_cases h with rfl | ⟨a, rfl⟩ <;> cases t <;> first | rfl | (simp [FieldType.isReference] at ht)
theorem own_plainE {Z : State} {h : Heap} {a : Addr} {C : String} (E : Exa Z h a C) : ∃ c : Cell, h[a]? = some c ∧ c.vm.isStatics = false := by
  obtain ⟨c, k, h1, -, -, h4, -⟩ := E; exact ⟨c, h1, h4⟩
theorem own_plainV {Z : State} {h : Heap} {a : Addr} {k : ClassId} {ty : FieldType} {n : Int32} {vs : List Value} {dv : Value} (F : Arv Z h a k ty n vs dv) : ∃ c : Cell, h[a]? = some c ∧ c.vm.isStatics = false := by
  obtain ⟨c, A, -⟩ := F; exact ⟨c, A.1, A.plain⟩
theorem own_stak {Z : State} {h h' : Heap} {C n d : String} {w : Value} {ws : List Addr} (F : Sta Z h C n d w) (K : Keep h h' ws) (q : ∀ x ∈ ws, ∃ c : Cell, h[x]? = some c ∧ c.vm.isStatics = false) : Sta Z h' C n d w := by
  obtain ⟨cf, i, k, f, st, cell, h1, h2, h3, h4, h5, h6, h7⟩ := F
  refine ⟨cf, i, k, f, st, cell, h1, h2, h3, h4, K.2.1 st cell h5 fun z => ?_, h6, h7⟩
  obtain ⟨c, e1, e2⟩ := q st z
  cases h5.symm.trans e1
  rw [h6] at e2; cases e2
theorem own_narb (x : Int32) : nar .byte x.toInt8.toInt32 = x.toInt8.toInt32 := by
  show x.toInt8.toInt32.toInt8.toInt32 = _; simp
def own_cp (vs : List Value) (dv : Value) (n : Int32) : List Value := ([(.int (0 : Int32))] : List Value).take ((0 : Int32)).toNatClampNeg ++ ((List.range (n).toNatClampNeg).map fun i => vs.getD (((0 : Int32)).toNatClampNeg + i) dv) ++ ([(.int (0 : Int32))] : List Value).drop (((0 : Int32)).toNatClampNeg + (n).toNatClampNeg)
theorem own_rl {x : Value} : 0 < (List.replicate 65536 x).length := by
  rw [List.length_replicate]; exact Nat.le_of_ble_eq_true rfl
theorem own_cp0 {vs : List Value} {v dv dd : Value} (h : 0 < vs.length) : (own_cp (vs.set 0 v) dv (1 : Int32)).getD ((0 : Int32)).toNatClampNeg dd = v := by
  cases vs with
  | nil => simp at h
  | cons a t => rfl

theorem pn6 : plainName "java/util/AbstractCollection" = true := by first | (simp [plainName, overriddenIn]; done) | decide +kernel
theorem pd6 : parseMethodDescriptor "()V" = some ⟨[], none⟩ := by decide +kernel
theorem ef6 (m : MethodId) (o0 : Addr) : entryFrame m #[(.ref o0)] 1 = mkF m 0 #[.val (.ref o0)] [] := by first | (simp [entryFrame, mkF, argsToLocals, Value.category]; done) | rfl
theorem d6_0 : decode jdk_22_method_1_code 0 = .ok (.aload_n 0, 1) := by decide +kernel
theorem d6_1 : decode jdk_22_method_1_code 1 = .ok (.invokespecial 1, 3) := by decide +kernel
theorem d6_4 : decode jdk_22_method_1_code 4 = .ok (.return_, 1) := by decide +kernel
set_option maxRecDepth 65536 in
set_option maxHeartbeats 40000000 in
theorem rm6 (l : Launch) (Z : State) (a0 : Array Value) (hw : ∀ d ∈ tables_1, d.before a0 Z = true) (o0 : Addr) (h0 : Heap) (n0 : Nat) (Z0 : n0 ≤ h0.size) :
    Ctr l Z (⟨"java/util/AbstractCollection", "<init>", "()V"⟩ : MethodName) jdk_22_method_1_code 1 none ({ frames := 1, cells := 0, slots := 0, locals := 12 } : Room) #[(.ref o0)] h0 n0 (fun v h' => v = none ∧ h' = h0) := by
  refine Ctr.body (L := #[.val (.ref o0)]) (plainFor_of_name pn6) Z0 (fun m => ef6 m o0) ?_
  intro p e F m below meth c T0 C0
  refine C0.aloadN d6_0 rfl rfl rfl ?_
  refine C0.initObj (hw _ (List.mem_of_getElem? (i := 30) rfl)) (hw _ (List.mem_of_getElem? (i := 10) rfl)) (hw _ (List.mem_of_getElem? (i := 11) rfl)) rfl (by decide) 0 (Nat.le_of_eq rfl) (by decide) d6_1 rfl (fun T1 C1 => ?_)
  exact C1.retV d6_4 rfl (by decide) (by decide) ⟨rfl, rfl⟩
theorem pn5 : plainName "java/util/AbstractList" = true := by first | (simp [plainName, overriddenIn]; done) | decide +kernel
theorem pd5 : parseMethodDescriptor "()V" = some ⟨[], none⟩ := by decide +kernel
theorem ef5 (m : MethodId) (o0 : Addr) : entryFrame m #[(.ref o0)] 1 = mkF m 0 #[.val (.ref o0)] [] := by first | (simp [entryFrame, mkF, argsToLocals, Value.category]; done) | rfl
theorem d5_0 : decode jdk_39_method_1_code 0 = .ok (.aload_n 0, 1) := by decide +kernel
theorem d5_1 : decode jdk_39_method_1_code 1 = .ok (.invokespecial 1, 3) := by decide +kernel
theorem d5_4 : decode jdk_39_method_1_code 4 = .ok (.aload_n 0, 1) := by decide +kernel
theorem d5_5 : decode jdk_39_method_1_code 5 = .ok (.iconst 0, 1) := by decide +kernel
theorem d5_6 : decode jdk_39_method_1_code 6 = .ok (.putfield 7, 3) := by decide +kernel
theorem d5_9 : decode jdk_39_method_1_code 9 = .ok (.return_, 1) := by decide +kernel
set_option maxRecDepth 65536 in
set_option maxHeartbeats 40000000 in
theorem rm5 (l : Launch) (Z : State) (a0 : Array Value) (hw : ∀ d ∈ tables_1, d.before a0 Z = true) (o0 : Addr) (x0 : Value) (x1 : Value) (h0 : Heap) (n0 : Nat) (Z0 : n0 ≤ h0.size) (E_o0 : Exa Z h0 o0 "java/util/ArrayList") (F_o0_modCount : Fld Z h0 o0 "java/util/AbstractList" "modCount" "I" x0) (F_o0_elementData : Fld Z h0 o0 "java/util/ArrayList" "elementData" "[Ljava/lang/Object;" x1) (F_o0_size : Fld Z h0 o0 "java/util/ArrayList" "size" "I" (.int (0 : Int32))) (g_o0 : n0 ≤ o0) :
    Ctr l Z (⟨"java/util/AbstractList", "<init>", "()V"⟩ : MethodName) jdk_39_method_1_code 1 none ({ frames := 2, cells := 0, slots := 0, locals := 24 } : Room) #[(.ref o0)] h0 n0 (fun v h' => v = none ∧ Keep h0 h' [o0] ∧ Exa Z h' o0 "java/util/ArrayList" ∧ Fld Z h' o0 "java/util/AbstractList" "modCount" "I" (.int (0 : Int32)) ∧ Fld Z h' o0 "java/util/ArrayList" "elementData" "[Ljava/lang/Object;" x1 ∧ Fld Z h' o0 "java/util/ArrayList" "size" "I" (.int (0 : Int32))) := by
  refine Ctr.body (L := #[.val (.ref o0)]) (plainFor_of_name pn5) Z0 (fun m => ef5 m o0) ?_
  intro p e F m below meth c T0 C0
  have KP : Keep h0 h0 [o0] := Keep.refl h0 _
  refine C0.aloadN d5_0 rfl rfl rfl ?_
  refine C0.callN rfl (hw _ (List.mem_of_getElem? (i := 24) rfl)) (hw _ (List.mem_of_getElem? (i := 25) rfl)) (hw _ (List.mem_of_getElem? (i := 28) rfl)) (hw _ (List.mem_of_getElem? (i := 29) rfl)) (by decide) (a := o0) (rm6 l Z a0 hw o0 h0 n0 C0.size ) (argsL := []) pd6 rfl 0 (by decide) (by decide) (by decide) (by decide) (rest := []) rfl rfl (Nat.le_of_eq rfl) d5_1 rfl (fun v1 T1 h1 C1 qq1 => ?_)
  obtain ⟨rfl, hh1⟩ := qq1
  have hh1 := hh1.symm; subst hh1
  show Go p e below F n0 (fun v h' => v = none ∧ Keep h0 h' [o0] ∧ Exa Z h' o0 "java/util/ArrayList" ∧ Fld Z h' o0 "java/util/AbstractList" "modCount" "I" (.int (0 : Int32)) ∧ Fld Z h' o0 "java/util/ArrayList" "elementData" "[Ljava/lang/Object;" x1 ∧ Fld Z h' o0 "java/util/ArrayList" "size" "I" (.int (0 : Int32))) T1 (mkF m 4 #[.val (.ref o0)] [])
  refine C1.aloadN d5_4 rfl rfl rfl ?_
  refine C1.iconst (0 : Int32) d5_5 rfl rfl ?_
  refine C1.putF (host := "") (Or.inl (hw _ (List.mem_of_getElem? (i := 31) rfl))) Via.refl F_o0_modCount E_o0 (Or.inl (hw _ (List.mem_of_getElem? (i := 32) rfl))) (hw _ (List.mem_of_getElem? (i := 13) rfl)) (ty := .int) (by decide) rfl rfl g_o0 d5_6 rfl (fun T2 h2 C2 W2 => ?_)
  have E_o0 := E_o0.wr W2
  have F_o0_elementData := F_o0_elementData.other W2 (Or.inr (slot_ne (Or.inl (hw _ (List.mem_of_getElem? (i := 35) rfl))) (Or.inl (hw _ (List.mem_of_getElem? (i := 32) rfl))) (by decide) (t := (.array (.object "java/lang/Object"))) (t' := .int) (by decide) (by decide)))
  have F_o0_size := F_o0_size.other W2 (Or.inr (slot_ne (Or.inl (hw _ (List.mem_of_getElem? (i := 73) rfl))) (Or.inl (hw _ (List.mem_of_getElem? (i := 32) rfl))) (by decide) (t := .int) (t' := .int) (by decide) (by decide)))
  have KP := KP.wr W2 (Or.inl (by simp))
  have F_o0_modCount := F_o0_modCount.same W2
  exact C2.retV d5_9 rfl (by decide) (by decide) ⟨rfl, KP, E_o0, F_o0_modCount, F_o0_elementData, F_o0_size⟩
theorem pn4 : plainName "java/util/ArrayList" = true := by first | (simp [plainName, overriddenIn]; done) | decide +kernel
theorem pd4 : parseMethodDescriptor "()V" = some ⟨[], none⟩ := by decide +kernel
theorem ef4 (m : MethodId) (o0 : Addr) : entryFrame m #[(.ref o0)] 1 = mkF m 0 #[.val (.ref o0)] [] := by first | (simp [entryFrame, mkF, argsToLocals, Value.category]; done) | rfl
theorem d4_0 : decode jdk_38_method_2_code 0 = .ok (.aload_n 0, 1) := by decide +kernel
theorem d4_1 : decode jdk_38_method_2_code 1 = .ok (.invokespecial 1, 3) := by decide +kernel
theorem d4_4 : decode jdk_38_method_2_code 4 = .ok (.aload_n 0, 1) := by decide +kernel
theorem d4_5 : decode jdk_38_method_2_code 5 = .ok (.getstatic 39, 3) := by decide +kernel
theorem d4_8 : decode jdk_38_method_2_code 8 = .ok (.putfield 9, 3) := by decide +kernel
theorem d4_11 : decode jdk_38_method_2_code 11 = .ok (.return_, 1) := by decide +kernel
set_option maxRecDepth 65536 in
set_option maxHeartbeats 40000000 in
theorem rm4 (l : Launch) (Z : State) (a0 : Array Value) (hw : ∀ d ∈ tables_1, d.before a0 Z = true) (o0 : Addr) (de : Addr) (x0 : Value) (x1 : Value) (h0 : Heap) (n0 : Nat) (Z0 : n0 ≤ h0.size) (E_o0 : Exa Z h0 o0 "java/util/ArrayList") (F_o0_modCount : Fld Z h0 o0 "java/util/AbstractList" "modCount" "I" x0) (F_o0_elementData : Fld Z h0 o0 "java/util/ArrayList" "elementData" "[Ljava/lang/Object;" x1) (F_o0_size : Fld Z h0 o0 "java/util/ArrayList" "size" "I" (.int (0 : Int32))) (g_o0 : n0 ≤ o0) (S_DEFAULTCAPACITY_EMPTY_ELEMENTDATA : Sta Z h0 "java/util/ArrayList" "DEFAULTCAPACITY_EMPTY_ELEMENTDATA" "[Ljava/lang/Object;" (.ref de)) :
    Ctr l Z (⟨"java/util/ArrayList", "<init>", "()V"⟩ : MethodName) jdk_38_method_2_code 1 none ({ frames := 3, cells := 0, slots := 0, locals := 36 } : Room) #[(.ref o0)] h0 n0 (fun v h' => v = none ∧ Keep h0 h' [o0] ∧ Exa Z h' o0 "java/util/ArrayList" ∧ Fld Z h' o0 "java/util/AbstractList" "modCount" "I" (.int (0 : Int32)) ∧ Fld Z h' o0 "java/util/ArrayList" "size" "I" (.int (0 : Int32))) := by
  refine Ctr.body (L := #[.val (.ref o0)]) (plainFor_of_name pn4) Z0 (fun m => ef4 m o0) ?_
  intro p e F m below meth c T0 C0
  have KP : Keep h0 h0 [o0] := Keep.refl h0 _
  refine C0.aloadN d4_0 rfl rfl rfl ?_
  refine C0.callN rfl (hw _ (List.mem_of_getElem? (i := 18) rfl)) (hw _ (List.mem_of_getElem? (i := 19) rfl)) (hw _ (List.mem_of_getElem? (i := 22) rfl)) (hw _ (List.mem_of_getElem? (i := 23) rfl)) (by decide) (a := o0) (rm5 l Z a0 hw o0 x0 x1 h0 n0 C0.size E_o0 F_o0_modCount F_o0_elementData F_o0_size g_o0) (argsL := []) pd5 rfl 0 (by decide) (by decide) (by decide) (by decide) (rest := []) rfl rfl (Nat.le_of_eq rfl) d4_1 rfl (fun v1 T1 h1 C1 qq1 => ?_)
  obtain ⟨rfl, K1, p1_0, p1_1, p1_2, p1_3⟩ := qq1
  have S_DEFAULTCAPACITY_EMPTY_ELEMENTDATA := own_stak S_DEFAULTCAPACITY_EMPTY_ELEMENTDATA K1 (allS (own_plainE E_o0) (all0))
  have E_o0 := E_o0.keep K1
  have KP := KP.trans K1 (allS (Or.inl (by simp)) (all0))
  have E_o0 := p1_0
  have F_o0_modCount := p1_1
  have F_o0_elementData := p1_2
  have F_o0_size := p1_3
  show Go p e below F n0 (fun v h' => v = none ∧ Keep h0 h' [o0] ∧ Exa Z h' o0 "java/util/ArrayList" ∧ Fld Z h' o0 "java/util/AbstractList" "modCount" "I" (.int (0 : Int32)) ∧ Fld Z h' o0 "java/util/ArrayList" "size" "I" (.int (0 : Int32))) T1 (mkF m 4 #[.val (.ref o0)] [])
  refine C1.aloadN d4_4 rfl rfl rfl ?_
  refine C1.getS (host := "") (Or.inl (hw _ (List.mem_of_getElem? (i := 33) rfl))) Via.refl S_DEFAULTCAPACITY_EMPTY_ELEMENTDATA d4_5 rfl (fun T2 C2 => ?_)
  refine C2.putF (host := "") (Or.inl (hw _ (List.mem_of_getElem? (i := 34) rfl))) Via.refl F_o0_elementData E_o0 (Or.inl (hw _ (List.mem_of_getElem? (i := 35) rfl))) (hw _ (List.mem_of_getElem? (i := 13) rfl)) (ty := (.array (.object "java/lang/Object"))) (by decide) rfl rfl g_o0 d4_8 rfl (fun T3 h3 C3 W3 => ?_)
  have E_o0 := E_o0.wr W3
  have S_DEFAULTCAPACITY_EMPTY_ELEMENTDATA := S_DEFAULTCAPACITY_EMPTY_ELEMENTDATA.wr W3
  have F_o0_modCount := F_o0_modCount.other W3 (Or.inr (slot_ne (Or.inl (hw _ (List.mem_of_getElem? (i := 32) rfl))) (Or.inl (hw _ (List.mem_of_getElem? (i := 35) rfl))) (by decide) (t := .int) (t' := (.array (.object "java/lang/Object"))) (by decide) (by decide)))
  have F_o0_size := F_o0_size.other W3 (Or.inr (slot_ne (Or.inl (hw _ (List.mem_of_getElem? (i := 73) rfl))) (Or.inl (hw _ (List.mem_of_getElem? (i := 35) rfl))) (by decide) (t := .int) (t' := (.array (.object "java/lang/Object"))) (by decide) (by decide)))
  have KP := KP.wr W3 (Or.inl (by simp))
  have F_o0_elementData := F_o0_elementData.same W3
  exact C3.retV d4_11 rfl (by decide) (by decide) ⟨rfl, KP, E_o0, F_o0_modCount, F_o0_size⟩
theorem pn2 : plainName "com/example/exdate/exdate/OutputBuffer" = true := by first | (simp [plainName, overriddenIn]; done) | decide +kernel
theorem pd2 : parseMethodDescriptor "(Lcom/example/exdate/exdate/OutputFile;)V" = some ⟨[(.object "com/example/exdate/exdate/OutputFile")], none⟩ := by decide +kernel
theorem ef2 (m : MethodId) (o0 : Addr) (z1 : Value) (r_z1 : z1.isRef = true) : entryFrame m #[(.ref o0), z1] 2 = mkF m 0 #[.val (.ref o0), .val z1] [] := by rcases ref_cases r_z1 with rfl | ⟨_, rfl⟩ <;> first | (simp [entryFrame, mkF, argsToLocals, Value.category]; done) | rfl
theorem d2_0 : decode prog_17_method_2_code 0 = .ok (.aload_n 0, 1) := by decide +kernel
theorem d2_1 : decode prog_17_method_2_code 1 = .ok (.invokespecial 7, 3) := by decide +kernel
theorem d2_4 : decode prog_17_method_2_code 4 = .ok (.aload_n 0, 1) := by decide +kernel
theorem d2_5 : decode prog_17_method_2_code 5 = .ok (.new 12, 3) := by decide +kernel
theorem d2_8 : decode prog_17_method_2_code 8 = .ok (.dup, 1) := by decide +kernel
theorem d2_9 : decode prog_17_method_2_code 9 = .ok (.invokespecial 14, 3) := by decide +kernel
theorem d2_12 : decode prog_17_method_2_code 12 = .ok (.putfield 15, 3) := by decide +kernel
theorem d2_15 : decode prog_17_method_2_code 15 = .ok (.aload_n 0, 1) := by decide +kernel
theorem d2_16 : decode prog_17_method_2_code 16 = .ok (.ldc 19, 2) := by decide +kernel
theorem d2_18 : decode prog_17_method_2_code 18 = .ok (.newarray .byte, 2) := by decide +kernel
theorem d2_20 : decode prog_17_method_2_code 20 = .ok (.putfield 20, 3) := by decide +kernel
theorem d2_23 : decode prog_17_method_2_code 23 = .ok (.aload_n 0, 1) := by decide +kernel
theorem d2_24 : decode prog_17_method_2_code 24 = .ok (.bipush 121, 2) := by decide +kernel
theorem d2_26 : decode prog_17_method_2_code 26 = .ok (.newarray .byte, 2) := by decide +kernel
theorem d2_28 : decode prog_17_method_2_code 28 = .ok (.putfield 26, 3) := by decide +kernel
theorem d2_31 : decode prog_17_method_2_code 31 = .ok (.aload_n 0, 1) := by decide +kernel
theorem d2_32 : decode prog_17_method_2_code 32 = .ok (.aload_n 1, 1) := by decide +kernel
theorem d2_33 : decode prog_17_method_2_code 33 = .ok (.putfield 29, 3) := by decide +kernel
theorem d2_36 : decode prog_17_method_2_code 36 = .ok (.return_, 1) := by decide +kernel
set_option maxRecDepth 65536 in
set_option maxHeartbeats 40000000 in
theorem rm2 (l : Launch) (Z : State) (a0 : Array Value) (hw : ∀ d ∈ tables_1, d.before a0 Z = true) (o0 : Addr) (z1 : Value) (de : Addr) (x0 : Value) (x1 : Value) (x2 : Value) (x3 : Value) (h0 : Heap) (n0 : Nat) (Z0 : n0 ≤ h0.size) (r_z1 : z1.isRef = true) (E_o0 : Exa Z h0 o0 "com/example/exdate/exdate/OutputBuffer") (F_o0_full : Fld Z h0 o0 "com/example/exdate/exdate/OutputBuffer" "full" "Ljava/util/List;" x0) (F_o0_chunk : Fld Z h0 o0 "com/example/exdate/exdate/OutputBuffer" "chunk" "[B" x1) (F_o0_digits : Fld Z h0 o0 "com/example/exdate/exdate/OutputBuffer" "digits" "[B" x2) (F_o0_file : Fld Z h0 o0 "com/example/exdate/exdate/OutputBuffer" "file" "Lcom/example/exdate/exdate/OutputFile;" x3) (F_o0_used : Fld Z h0 o0 "com/example/exdate/exdate/OutputBuffer" "used" "I" (.int (0 : Int32))) (g_o0 : n0 ≤ o0) (S_DEFAULTCAPACITY_EMPTY_ELEMENTDATA : Sta Z h0 "java/util/ArrayList" "DEFAULTCAPACITY_EMPTY_ELEMENTDATA" "[Ljava/lang/Object;" (.ref de)) :
    Ctr l Z (⟨"com/example/exdate/exdate/OutputBuffer", "<init>", "(Lcom/example/exdate/exdate/OutputFile;)V"⟩ : MethodName) prog_17_method_2_code 2 none ({ frames := 4, cells := 3, slots := 65660, locals := 50 } : Room) #[(.ref o0), z1] h0 n0 (fun v h' => ∃ bl : Addr, ∃ bc : Addr, ∃ kc : ClassId, v = none ∧ Keep h0 h' [o0] ∧ Exa Z h' o0 "com/example/exdate/exdate/OutputBuffer" ∧ Fld Z h' o0 "com/example/exdate/exdate/OutputBuffer" "full" "Ljava/util/List;" (.ref bl) ∧ Fld Z h' o0 "com/example/exdate/exdate/OutputBuffer" "chunk" "[B" (.ref bc) ∧ Fld Z h' o0 "com/example/exdate/exdate/OutputBuffer" "file" "Lcom/example/exdate/exdate/OutputFile;" z1 ∧ Fld Z h' o0 "com/example/exdate/exdate/OutputBuffer" "used" "I" (.int (0 : Int32)) ∧ Exa Z h' bl "java/util/ArrayList" ∧ Fld Z h' bl "java/util/AbstractList" "modCount" "I" (.int (0 : Int32)) ∧ Fld Z h' bl "java/util/ArrayList" "size" "I" (.int (0 : Int32)) ∧ Arv Z h' bc kc .byte (65536 : Int32) (List.replicate 65536 (.int (0 : Int32))) (.int (0 : Int32)) ∧ n0 ≤ bl ∧ n0 ≤ bc) := by
  refine Ctr.body (L := #[.val (.ref o0), .val z1]) (plainFor_of_name pn2) Z0 (fun m => ef2 m o0 z1 r_z1) ?_
  intro p e F m below meth c T0 C0
  have KP : Keep h0 h0 [o0] := Keep.refl h0 _
  refine C0.aloadN d2_0 rfl rfl rfl ?_
  refine C0.initObj (hw _ (List.mem_of_getElem? (i := 9) rfl)) (hw _ (List.mem_of_getElem? (i := 10) rfl)) (hw _ (List.mem_of_getElem? (i := 11) rfl)) rfl (by decide) 0 (Nat.le_of_eq rfl) (by decide) d2_1 rfl (fun T1 C1 => ?_)
  refine C1.aloadN d2_4 rfl rfl rfl ?_
  refine C1.new (hw _ (List.mem_of_getElem? (i := 12) rfl)) (hw _ (List.mem_of_getElem? (i := 13) rfl)) (hw _ (List.mem_of_getElem? (i := 14) rfl)) d2_5 rfl (by decide) (by decide) (fun T2 h2 b2 C2 e2 g_b2 E2 E_b2 D2 => ?_)
  have ne_o0_b2 : o0 ≠ b2 := Nat.ne_of_lt (Nat.lt_of_lt_of_eq E_o0.lt e2.symm)
  have sz_b2 : h0.size ≤ b2 := Nat.le_trans KP.1 (Nat.le_of_eq e2.symm)
  have E_o0 := E_o0.ext E2
  have F_o0_full := F_o0_full.ext E2
  have F_o0_chunk := F_o0_chunk.ext E2
  have F_o0_digits := F_o0_digits.ext E2
  have F_o0_file := F_o0_file.ext E2
  have F_o0_used := F_o0_used.ext E2
  have S_DEFAULTCAPACITY_EMPTY_ELEMENTDATA := S_DEFAULTCAPACITY_EMPTY_ELEMENTDATA.ext E2
  have KP := KP.ext E2
  have F_b2_modCount : Fld Z h2 b2 "java/util/AbstractList" "modCount" "I" (.int (0 : Int32)) := D2 (Or.inl (hw _ (List.mem_of_getElem? (i := 32) rfl))) (ty := .int) (by decide)
  have F_b2_elementData : Fld Z h2 b2 "java/util/ArrayList" "elementData" "[Ljava/lang/Object;" .null := D2 (Or.inl (hw _ (List.mem_of_getElem? (i := 35) rfl))) (ty := (.array (.object "java/lang/Object"))) (by decide)
  have F_b2_size : Fld Z h2 b2 "java/util/ArrayList" "size" "I" (.int (0 : Int32)) := D2 (Or.inl (hw _ (List.mem_of_getElem? (i := 73) rfl))) (ty := .int) (by decide)
  refine C2.dup d2_8 rfl rfl ?_
  refine C2.callN rfl (hw _ (List.mem_of_getElem? (i := 15) rfl)) (hw _ (List.mem_of_getElem? (i := 16) rfl)) (hw _ (List.mem_of_getElem? (i := 14) rfl)) (hw _ (List.mem_of_getElem? (i := 17) rfl)) (by decide) (a := b2) (rm4 l Z a0 hw b2 de (.int (0 : Int32)) .null h2 n0 C2.size E_b2 F_b2_modCount F_b2_elementData F_b2_size g_b2 S_DEFAULTCAPACITY_EMPTY_ELEMENTDATA) (argsL := []) pd4 rfl 2 (by decide) (by decide) (by decide) (by decide) (rest := [(.ref b2), (.ref o0)]) rfl rfl (Nat.le_of_eq rfl) d2_9 rfl (fun v3 T3 h3 C3 qq3 => ?_)
  obtain ⟨rfl, K3, p3_0, p3_1, p3_2⟩ := qq3
  have S_DEFAULTCAPACITY_EMPTY_ELEMENTDATA := own_stak S_DEFAULTCAPACITY_EMPTY_ELEMENTDATA K3 (allS (own_plainE E_b2) (all0))
  have E_o0 := E_o0.keep K3
  have F_o0_full := F_o0_full.keep K3 (ninS ne_o0_b2 nin0)
  have F_o0_chunk := F_o0_chunk.keep K3 (ninS ne_o0_b2 nin0)
  have F_o0_digits := F_o0_digits.keep K3 (ninS ne_o0_b2 nin0)
  have F_o0_file := F_o0_file.keep K3 (ninS ne_o0_b2 nin0)
  have F_o0_used := F_o0_used.keep K3 (ninS ne_o0_b2 nin0)
  have E_b2 := E_b2.keep K3
  have KP := KP.trans K3 (allS (Or.inr sz_b2) (all0))
  have E_b2 := p3_0
  have F_b2_modCount := p3_1
  have F_b2_size := p3_2
  show Go p e below F n0 (fun v h' => ∃ bl : Addr, ∃ bc : Addr, ∃ kc : ClassId, v = none ∧ Keep h0 h' [o0] ∧ Exa Z h' o0 "com/example/exdate/exdate/OutputBuffer" ∧ Fld Z h' o0 "com/example/exdate/exdate/OutputBuffer" "full" "Ljava/util/List;" (.ref bl) ∧ Fld Z h' o0 "com/example/exdate/exdate/OutputBuffer" "chunk" "[B" (.ref bc) ∧ Fld Z h' o0 "com/example/exdate/exdate/OutputBuffer" "file" "Lcom/example/exdate/exdate/OutputFile;" z1 ∧ Fld Z h' o0 "com/example/exdate/exdate/OutputBuffer" "used" "I" (.int (0 : Int32)) ∧ Exa Z h' bl "java/util/ArrayList" ∧ Fld Z h' bl "java/util/AbstractList" "modCount" "I" (.int (0 : Int32)) ∧ Fld Z h' bl "java/util/ArrayList" "size" "I" (.int (0 : Int32)) ∧ Arv Z h' bc kc .byte (65536 : Int32) (List.replicate 65536 (.int (0 : Int32))) (.int (0 : Int32)) ∧ n0 ≤ bl ∧ n0 ≤ bc) T3 (mkF m 12 #[.val (.ref o0), .val z1] [(.ref b2), (.ref o0)])
  refine C3.putF (host := "") (Or.inl (hw _ (List.mem_of_getElem? (i := 36) rfl))) Via.refl F_o0_full E_o0 (Or.inr ⟨(hw _ (List.mem_of_getElem? (i := 37) rfl)), rfl, rfl⟩) (hw _ (List.mem_of_getElem? (i := 1) rfl)) (ty := (.object "java/util/List")) (by decide) rfl rfl g_o0 d2_12 rfl (fun T4 h4 C4 W4 => ?_)
  have E_o0 := E_o0.wr W4
  have F_o0_chunk := F_o0_chunk.other W4 (Or.inr (slot_ne (Or.inl (hw _ (List.mem_of_getElem? (i := 41) rfl))) (Or.inr (hw _ (List.mem_of_getElem? (i := 37) rfl))) (by decide) (t := (.array .byte)) (t' := (.object "java/util/List")) (by decide) (by decide)))
  have F_o0_digits := F_o0_digits.other W4 (Or.inr (slot_ne (Or.inr (hw _ (List.mem_of_getElem? (i := 43) rfl))) (Or.inr (hw _ (List.mem_of_getElem? (i := 37) rfl))) (by decide) (t := (.array .byte)) (t' := (.object "java/util/List")) (by decide) (by decide)))
  have F_o0_file := F_o0_file.other W4 (Or.inr (slot_ne (Or.inr (hw _ (List.mem_of_getElem? (i := 45) rfl))) (Or.inr (hw _ (List.mem_of_getElem? (i := 37) rfl))) (by decide) (t := (.object "com/example/exdate/exdate/OutputFile")) (t' := (.object "java/util/List")) (by decide) (by decide)))
  have F_o0_used := F_o0_used.other W4 (Or.inr (slot_ne (Or.inl (hw _ (List.mem_of_getElem? (i := 57) rfl))) (Or.inr (hw _ (List.mem_of_getElem? (i := 37) rfl))) (by decide) (t := .int) (t' := (.object "java/util/List")) (by decide) (by decide)))
  have S_DEFAULTCAPACITY_EMPTY_ELEMENTDATA := S_DEFAULTCAPACITY_EMPTY_ELEMENTDATA.wr W4
  have E_b2 := E_b2.wr W4
  have F_b2_modCount := F_b2_modCount.other W4 (Or.inl (Ne.symm ne_o0_b2))
  have F_b2_size := F_b2_size.other W4 (Or.inl (Ne.symm ne_o0_b2))
  have KP := KP.wr W4 (Or.inl (by simp))
  have F_o0_full := F_o0_full.same W4
  refine C4.aloadN d2_15 rfl rfl rfl ?_
  refine C4.ldc (hw _ (List.mem_of_getElem? (i := 38) rfl)) d2_16 rfl ?_
  refine C4.newarr (hw _ (List.mem_of_getElem? (i := 39) rfl)) 65536 (by decide) (by decide) (by decide) (by decide) (by decide) d2_18 rfl (fun T5 h5 b5 k5 C5 e5 g_b5 E5 V_b5 => ?_)
  have ne_o0_b5 : o0 ≠ b5 := Nat.ne_of_lt (Nat.lt_of_lt_of_eq E_o0.lt e5.symm)
  have ne_b2_b5 : b2 ≠ b5 := Nat.ne_of_lt (Nat.lt_of_lt_of_eq E_b2.lt e5.symm)
  have sz_b5 : h0.size ≤ b5 := Nat.le_trans KP.1 (Nat.le_of_eq e5.symm)
  have E_o0 := E_o0.ext E5
  have F_o0_full := F_o0_full.ext E5
  have F_o0_chunk := F_o0_chunk.ext E5
  have F_o0_digits := F_o0_digits.ext E5
  have F_o0_file := F_o0_file.ext E5
  have F_o0_used := F_o0_used.ext E5
  have S_DEFAULTCAPACITY_EMPTY_ELEMENTDATA := S_DEFAULTCAPACITY_EMPTY_ELEMENTDATA.ext E5
  have E_b2 := E_b2.ext E5
  have F_b2_modCount := F_b2_modCount.ext E5
  have F_b2_size := F_b2_size.ext E5
  have KP := KP.ext E5
  have V_b5 : Arv Z h5 b5 k5 .byte (65536 : Int32) (List.replicate 65536 (.int (0 : Int32))) (.int (0 : Int32)) := V_b5
  refine C5.putF (host := "") (Or.inl (hw _ (List.mem_of_getElem? (i := 40) rfl))) Via.refl F_o0_chunk E_o0 (Or.inl (hw _ (List.mem_of_getElem? (i := 41) rfl))) (hw _ (List.mem_of_getElem? (i := 1) rfl)) (ty := (.array .byte)) (by decide) rfl rfl g_o0 d2_20 rfl (fun T6 h6 C6 W6 => ?_)
  have E_o0 := E_o0.wr W6
  have F_o0_full := F_o0_full.other W6 (Or.inr (slot_ne (Or.inr (hw _ (List.mem_of_getElem? (i := 37) rfl))) (Or.inl (hw _ (List.mem_of_getElem? (i := 41) rfl))) (by decide) (t := (.object "java/util/List")) (t' := (.array .byte)) (by decide) (by decide)))
  have F_o0_digits := F_o0_digits.other W6 (Or.inr (slot_ne (Or.inr (hw _ (List.mem_of_getElem? (i := 43) rfl))) (Or.inl (hw _ (List.mem_of_getElem? (i := 41) rfl))) (by decide) (t := (.array .byte)) (t' := (.array .byte)) (by decide) (by decide)))
  have F_o0_file := F_o0_file.other W6 (Or.inr (slot_ne (Or.inr (hw _ (List.mem_of_getElem? (i := 45) rfl))) (Or.inl (hw _ (List.mem_of_getElem? (i := 41) rfl))) (by decide) (t := (.object "com/example/exdate/exdate/OutputFile")) (t' := (.array .byte)) (by decide) (by decide)))
  have F_o0_used := F_o0_used.other W6 (Or.inr (slot_ne (Or.inl (hw _ (List.mem_of_getElem? (i := 57) rfl))) (Or.inl (hw _ (List.mem_of_getElem? (i := 41) rfl))) (by decide) (t := .int) (t' := (.array .byte)) (by decide) (by decide)))
  have S_DEFAULTCAPACITY_EMPTY_ELEMENTDATA := S_DEFAULTCAPACITY_EMPTY_ELEMENTDATA.wr W6
  have E_b2 := E_b2.wr W6
  have F_b2_modCount := F_b2_modCount.other W6 (Or.inl (Ne.symm ne_o0_b2))
  have F_b2_size := F_b2_size.other W6 (Or.inl (Ne.symm ne_o0_b2))
  have V_b5 := V_b5.other W6 (Ne.symm ne_o0_b5)
  have KP := KP.wr W6 (Or.inl (by simp))
  have F_o0_chunk := F_o0_chunk.same W6
  refine C6.aloadN d2_23 rfl rfl rfl ?_
  refine C6.bipush (121 : Int32) d2_24 rfl rfl ?_
  refine C6.newarr (hw _ (List.mem_of_getElem? (i := 39) rfl)) 121 (by decide) (by decide) (by decide) (by decide) (by decide) d2_26 rfl (fun T7 h7 b7 k7 C7 e7 g_b7 E7 V_b7 => ?_)
  have ne_o0_b7 : o0 ≠ b7 := Nat.ne_of_lt (Nat.lt_of_lt_of_eq E_o0.lt e7.symm)
  have ne_b2_b7 : b2 ≠ b7 := Nat.ne_of_lt (Nat.lt_of_lt_of_eq E_b2.lt e7.symm)
  have ne_b5_b7 : b5 ≠ b7 := Nat.ne_of_lt (Nat.lt_of_lt_of_eq V_b5.lt e7.symm)
  have sz_b7 : h0.size ≤ b7 := Nat.le_trans KP.1 (Nat.le_of_eq e7.symm)
  have E_o0 := E_o0.ext E7
  have F_o0_full := F_o0_full.ext E7
  have F_o0_chunk := F_o0_chunk.ext E7
  have F_o0_digits := F_o0_digits.ext E7
  have F_o0_file := F_o0_file.ext E7
  have F_o0_used := F_o0_used.ext E7
  have S_DEFAULTCAPACITY_EMPTY_ELEMENTDATA := S_DEFAULTCAPACITY_EMPTY_ELEMENTDATA.ext E7
  have E_b2 := E_b2.ext E7
  have F_b2_modCount := F_b2_modCount.ext E7
  have F_b2_size := F_b2_size.ext E7
  have V_b5 := V_b5.ext E7
  have KP := KP.ext E7
  have V_b7 : Arv Z h7 b7 k7 .byte (121 : Int32) (List.replicate 121 (.int (0 : Int32))) (.int (0 : Int32)) := V_b7
  refine C7.putF (host := "") (Or.inl (hw _ (List.mem_of_getElem? (i := 42) rfl))) Via.refl F_o0_digits E_o0 (Or.inr ⟨(hw _ (List.mem_of_getElem? (i := 43) rfl)), rfl, rfl⟩) (hw _ (List.mem_of_getElem? (i := 1) rfl)) (ty := (.array .byte)) (by decide) rfl rfl g_o0 d2_28 rfl (fun T8 h8 C8 W8 => ?_)
  have E_o0 := E_o0.wr W8
  have F_o0_full := F_o0_full.other W8 (Or.inr (slot_ne (Or.inr (hw _ (List.mem_of_getElem? (i := 37) rfl))) (Or.inr (hw _ (List.mem_of_getElem? (i := 43) rfl))) (by decide) (t := (.object "java/util/List")) (t' := (.array .byte)) (by decide) (by decide)))
  have F_o0_chunk := F_o0_chunk.other W8 (Or.inr (slot_ne (Or.inl (hw _ (List.mem_of_getElem? (i := 41) rfl))) (Or.inr (hw _ (List.mem_of_getElem? (i := 43) rfl))) (by decide) (t := (.array .byte)) (t' := (.array .byte)) (by decide) (by decide)))
  have F_o0_file := F_o0_file.other W8 (Or.inr (slot_ne (Or.inr (hw _ (List.mem_of_getElem? (i := 45) rfl))) (Or.inr (hw _ (List.mem_of_getElem? (i := 43) rfl))) (by decide) (t := (.object "com/example/exdate/exdate/OutputFile")) (t' := (.array .byte)) (by decide) (by decide)))
  have F_o0_used := F_o0_used.other W8 (Or.inr (slot_ne (Or.inl (hw _ (List.mem_of_getElem? (i := 57) rfl))) (Or.inr (hw _ (List.mem_of_getElem? (i := 43) rfl))) (by decide) (t := .int) (t' := (.array .byte)) (by decide) (by decide)))
  have S_DEFAULTCAPACITY_EMPTY_ELEMENTDATA := S_DEFAULTCAPACITY_EMPTY_ELEMENTDATA.wr W8
  have E_b2 := E_b2.wr W8
  have F_b2_modCount := F_b2_modCount.other W8 (Or.inl (Ne.symm ne_o0_b2))
  have F_b2_size := F_b2_size.other W8 (Or.inl (Ne.symm ne_o0_b2))
  have V_b5 := V_b5.other W8 (Ne.symm ne_o0_b5)
  have V_b7 := V_b7.other W8 (Ne.symm ne_o0_b7)
  have KP := KP.wr W8 (Or.inl (by simp))
  have F_o0_digits := F_o0_digits.same W8
  refine C8.aloadN d2_31 rfl rfl rfl ?_
  refine C8.aloadN d2_32 rfl rfl r_z1 ?_
  refine C8.putF (host := "") (Or.inl (hw _ (List.mem_of_getElem? (i := 44) rfl))) Via.refl F_o0_file E_o0 (Or.inr ⟨(hw _ (List.mem_of_getElem? (i := 45) rfl)), rfl, rfl⟩) (hw _ (List.mem_of_getElem? (i := 1) rfl)) (ty := (.object "com/example/exdate/exdate/OutputFile")) (by decide) rfl (own_fitr r_z1 rfl) g_o0 d2_33 rfl (fun T9 h9 C9 W9 => ?_)
  have E_o0 := E_o0.wr W9
  have F_o0_full := F_o0_full.other W9 (Or.inr (slot_ne (Or.inr (hw _ (List.mem_of_getElem? (i := 37) rfl))) (Or.inr (hw _ (List.mem_of_getElem? (i := 45) rfl))) (by decide) (t := (.object "java/util/List")) (t' := (.object "com/example/exdate/exdate/OutputFile")) (by decide) (by decide)))
  have F_o0_chunk := F_o0_chunk.other W9 (Or.inr (slot_ne (Or.inl (hw _ (List.mem_of_getElem? (i := 41) rfl))) (Or.inr (hw _ (List.mem_of_getElem? (i := 45) rfl))) (by decide) (t := (.array .byte)) (t' := (.object "com/example/exdate/exdate/OutputFile")) (by decide) (by decide)))
  have F_o0_digits := F_o0_digits.other W9 (Or.inr (slot_ne (Or.inr (hw _ (List.mem_of_getElem? (i := 43) rfl))) (Or.inr (hw _ (List.mem_of_getElem? (i := 45) rfl))) (by decide) (t := (.array .byte)) (t' := (.object "com/example/exdate/exdate/OutputFile")) (by decide) (by decide)))
  have F_o0_used := F_o0_used.other W9 (Or.inr (slot_ne (Or.inl (hw _ (List.mem_of_getElem? (i := 57) rfl))) (Or.inr (hw _ (List.mem_of_getElem? (i := 45) rfl))) (by decide) (t := .int) (t' := (.object "com/example/exdate/exdate/OutputFile")) (by decide) (by decide)))
  have S_DEFAULTCAPACITY_EMPTY_ELEMENTDATA := S_DEFAULTCAPACITY_EMPTY_ELEMENTDATA.wr W9
  have E_b2 := E_b2.wr W9
  have F_b2_modCount := F_b2_modCount.other W9 (Or.inl (Ne.symm ne_o0_b2))
  have F_b2_size := F_b2_size.other W9 (Or.inl (Ne.symm ne_o0_b2))
  have V_b5 := V_b5.other W9 (Ne.symm ne_o0_b5)
  have V_b7 := V_b7.other W9 (Ne.symm ne_o0_b7)
  have KP := KP.wr W9 (Or.inl (by simp))
  have F_o0_file := F_o0_file.same W9
  exact C9.retV d2_36 rfl (by decide) (by decide) ⟨b2, b5, k5, rfl, KP, E_o0, F_o0_full, F_o0_chunk, F_o0_file, F_o0_used, E_b2, F_b2_modCount, F_b2_size, V_b5, g_b2, g_b5⟩
theorem pn1 : plainName "com/example/exdate/exdate/OutputBuffer" = true := by first | (simp [plainName, overriddenIn]; done) | decide +kernel
theorem pd1 : parseMethodDescriptor "()V" = some ⟨[], none⟩ := by decide +kernel
theorem ef1 (m : MethodId) (o0 : Addr) : entryFrame m #[(.ref o0)] 1 = mkF m 0 #[.val (.ref o0)] [] := by first | (simp [entryFrame, mkF, argsToLocals, Value.category]; done) | rfl
theorem d1_0 : decode prog_17_method_1_code 0 = .ok (.aload_n 0, 1) := by decide +kernel
theorem d1_1 : decode prog_17_method_1_code 1 = .ok (.aconst_null, 1) := by decide +kernel
theorem d1_2 : decode prog_17_method_1_code 2 = .ok (.invokespecial 1, 3) := by decide +kernel
theorem d1_5 : decode prog_17_method_1_code 5 = .ok (.return_, 1) := by decide +kernel
set_option maxRecDepth 65536 in
set_option maxHeartbeats 40000000 in
theorem rm1 (l : Launch) (Z : State) (a0 : Array Value) (hw : ∀ d ∈ tables_1, d.before a0 Z = true) (o0 : Addr) (de : Addr) (x0 : Value) (x1 : Value) (x2 : Value) (x3 : Value) (h0 : Heap) (n0 : Nat) (Z0 : n0 ≤ h0.size) (E_o0 : Exa Z h0 o0 "com/example/exdate/exdate/OutputBuffer") (F_o0_full : Fld Z h0 o0 "com/example/exdate/exdate/OutputBuffer" "full" "Ljava/util/List;" x0) (F_o0_chunk : Fld Z h0 o0 "com/example/exdate/exdate/OutputBuffer" "chunk" "[B" x1) (F_o0_digits : Fld Z h0 o0 "com/example/exdate/exdate/OutputBuffer" "digits" "[B" x2) (F_o0_file : Fld Z h0 o0 "com/example/exdate/exdate/OutputBuffer" "file" "Lcom/example/exdate/exdate/OutputFile;" x3) (F_o0_used : Fld Z h0 o0 "com/example/exdate/exdate/OutputBuffer" "used" "I" (.int (0 : Int32))) (g_o0 : n0 ≤ o0) (S_DEFAULTCAPACITY_EMPTY_ELEMENTDATA : Sta Z h0 "java/util/ArrayList" "DEFAULTCAPACITY_EMPTY_ELEMENTDATA" "[Ljava/lang/Object;" (.ref de)) :
    Ctr l Z (⟨"com/example/exdate/exdate/OutputBuffer", "<init>", "()V"⟩ : MethodName) prog_17_method_1_code 1 none ({ frames := 5, cells := 3, slots := 65660, locals := 63 } : Room) #[(.ref o0)] h0 n0 (fun v h' => ∃ bl : Addr, ∃ bc : Addr, ∃ kc : ClassId, v = none ∧ Keep h0 h' [o0] ∧ Exa Z h' o0 "com/example/exdate/exdate/OutputBuffer" ∧ Fld Z h' o0 "com/example/exdate/exdate/OutputBuffer" "full" "Ljava/util/List;" (.ref bl) ∧ Fld Z h' o0 "com/example/exdate/exdate/OutputBuffer" "chunk" "[B" (.ref bc) ∧ Fld Z h' o0 "com/example/exdate/exdate/OutputBuffer" "file" "Lcom/example/exdate/exdate/OutputFile;" .null ∧ Fld Z h' o0 "com/example/exdate/exdate/OutputBuffer" "used" "I" (.int (0 : Int32)) ∧ Exa Z h' bl "java/util/ArrayList" ∧ Fld Z h' bl "java/util/AbstractList" "modCount" "I" (.int (0 : Int32)) ∧ Fld Z h' bl "java/util/ArrayList" "size" "I" (.int (0 : Int32)) ∧ Arv Z h' bc kc .byte (65536 : Int32) (List.replicate 65536 (.int (0 : Int32))) (.int (0 : Int32)) ∧ n0 ≤ bl ∧ n0 ≤ bc) := by
  refine Ctr.body (L := #[.val (.ref o0)]) (plainFor_of_name pn1) Z0 (fun m => ef1 m o0) ?_
  intro p e F m below meth c T0 C0
  have KP : Keep h0 h0 [o0] := Keep.refl h0 _
  refine C0.aloadN d1_0 rfl rfl rfl ?_
  refine C0.aconstNull d1_1 rfl ?_
  refine C0.callN rfl (hw _ (List.mem_of_getElem? (i := 6) rfl)) (hw _ (List.mem_of_getElem? (i := 7) rfl)) (hw _ (List.mem_of_getElem? (i := 2) rfl)) (hw _ (List.mem_of_getElem? (i := 8) rfl)) (by decide) (a := o0) (rm2 l Z a0 hw o0 .null de x0 x1 x2 x3 h0 n0 C0.size rfl E_o0 F_o0_full F_o0_chunk F_o0_digits F_o0_file F_o0_used g_o0 S_DEFAULTCAPACITY_EMPTY_ELEMENTDATA) (argsL := [.null]) pd2 rfl 0 (by decide) (by decide) (by decide) (by decide) (rest := []) rfl rfl (Nat.le_of_eq rfl) d1_2 rfl (fun v1 T1 h1 C1 qq1 => ?_)
  obtain ⟨bl1, bc1, kc1, rfl, K1, p1_0, p1_1, p1_2, p1_3, p1_4, p1_5, p1_6, p1_7, p1_8, p1_9, p1_10⟩ := qq1
  have S_DEFAULTCAPACITY_EMPTY_ELEMENTDATA := own_stak S_DEFAULTCAPACITY_EMPTY_ELEMENTDATA K1 (allS (own_plainE E_o0) (all0))
  have E_o0 := E_o0.keep K1
  have KP := KP.trans K1 (allS (Or.inl (by simp)) (all0))
  have E_o0 := p1_0
  have F_o0_full := p1_1
  have F_o0_chunk := p1_2
  have F_o0_file := p1_3
  have F_o0_used := p1_4
  have E_bl1 := p1_5
  have F_bl1_modCount := p1_6
  have F_bl1_size := p1_7
  have V_bc1 := p1_8
  have g_bl1 := p1_9
  have g_bc1 := p1_10
  show Go p e below F n0 (fun v h' => ∃ bl : Addr, ∃ bc : Addr, ∃ kc : ClassId, v = none ∧ Keep h0 h' [o0] ∧ Exa Z h' o0 "com/example/exdate/exdate/OutputBuffer" ∧ Fld Z h' o0 "com/example/exdate/exdate/OutputBuffer" "full" "Ljava/util/List;" (.ref bl) ∧ Fld Z h' o0 "com/example/exdate/exdate/OutputBuffer" "chunk" "[B" (.ref bc) ∧ Fld Z h' o0 "com/example/exdate/exdate/OutputBuffer" "file" "Lcom/example/exdate/exdate/OutputFile;" .null ∧ Fld Z h' o0 "com/example/exdate/exdate/OutputBuffer" "used" "I" (.int (0 : Int32)) ∧ Exa Z h' bl "java/util/ArrayList" ∧ Fld Z h' bl "java/util/AbstractList" "modCount" "I" (.int (0 : Int32)) ∧ Fld Z h' bl "java/util/ArrayList" "size" "I" (.int (0 : Int32)) ∧ Arv Z h' bc kc .byte (65536 : Int32) (List.replicate 65536 (.int (0 : Int32))) (.int (0 : Int32)) ∧ n0 ≤ bl ∧ n0 ≤ bc) T1 (mkF m 5 #[.val (.ref o0)] [])
  exact C1.retV d1_5 rfl (by decide) (by decide) ⟨bl1, bc1, kc1, rfl, KP, E_o0, F_o0_full, F_o0_chunk, F_o0_file, F_o0_used, E_bl1, F_bl1_modCount, F_bl1_size, V_bc1, g_bl1, g_bc1⟩
theorem pn7 : plainName "com/example/exdate/exdate/OutputBuffer" = true := by first | (simp [plainName, overriddenIn]; done) | decide +kernel
theorem pd7 : parseMethodDescriptor "()Z" = some ⟨[], some .boolean⟩ := by decide +kernel
theorem ef7 (m : MethodId) (o0 : Addr) : entryFrame m #[(.ref o0)] 1 = mkF m 0 #[.val (.ref o0)] [] := by first | (simp [entryFrame, mkF, argsToLocals, Value.category]; done) | rfl
theorem d7_0 : decode prog_17_method_7_code 0 = .ok (.aload_n 0, 1) := by decide +kernel
theorem d7_1 : decode prog_17_method_7_code 1 = .ok (.getfield 29, 3) := by decide +kernel
theorem d7_4 : decode prog_17_method_7_code 4 = .ok (.ifnull 7, 3) := by decide +kernel
theorem d7_11 : decode prog_17_method_7_code 11 = .ok (.iconst 0, 1) := by decide +kernel
theorem d7_12 : decode prog_17_method_7_code 12 = .ok (.ireturn, 1) := by decide +kernel
set_option maxRecDepth 65536 in
set_option maxHeartbeats 40000000 in
theorem rm7 (l : Launch) (Z : State) (a0 : Array Value) (hw : ∀ d ∈ tables_1, d.before a0 Z = true) (o0 : Addr) (h0 : Heap) (n0 : Nat) (Z0 : n0 ≤ h0.size) (F_o0_file : Fld Z h0 o0 "com/example/exdate/exdate/OutputBuffer" "file" "Lcom/example/exdate/exdate/OutputFile;" .null) :
    Ctr l Z (⟨"com/example/exdate/exdate/OutputBuffer", "writesToFile", "()Z"⟩ : MethodName) prog_17_method_7_code 1 (some .boolean) ({ frames := 0, cells := 0, slots := 0, locals := 0 } : Room) #[(.ref o0)] h0 n0 (fun v h' => v = some (.int (0 : Int32)) ∧ h' = h0) := by
  refine Ctr.body (L := #[.val (.ref o0)]) (plainFor_of_name pn7) Z0 (fun m => ef7 m o0) ?_
  intro p e F m below meth c T0 C0
  refine C0.aloadN d7_0 rfl rfl rfl ?_
  refine C0.getF (host := "") (Or.inl (hw _ (List.mem_of_getElem? (i := 44) rfl))) Via.refl F_o0_file d7_1 rfl (fun T1 C1 => ?_)
  refine C1.ifnullYes d7_4 (by decide) (by decide : _ = 11) ?_
  refine C1.iconst (0 : Int32) d7_11 rfl rfl ?_
  exact C1.retN (t := .boolean) d7_12 rfl (by simp) (by decide) (by decide) (w := (0 : Int32)) rfl ⟨rfl, rfl⟩
set_option maxRecDepth 65536 in
set_option maxHeartbeats 40000000 in
theorem own_pre8_0 (o0 : Addr) (i1 : Int32) (a1 : Addr) (x0 : Value) (x1 : Value) (k1 : ClassId) (vs : List Value) (dv : Value) (hl : 0 < vs.length) (ne_a1_o0 : a1 ≠ o0) : ((0 : Int32)).toNatClampNeg < vs.length := by
  first | exact ⟨by decide, by decide⟩ | exact hl
theorem pn8 : plainName "com/example/exdate/exdate/OutputBuffer" = true := by first | (simp [plainName, overriddenIn]; done) | decide +kernel
theorem pd8 : parseMethodDescriptor "(B)V" = some ⟨[.byte], none⟩ := by decide +kernel
theorem ef8 (m : MethodId) (o0 : Addr) (i1 : Int32) : entryFrame m #[(.ref o0), (.int i1)] 2 = mkF m 0 #[.val (.ref o0), .val (.int i1)] [] := by first | (simp [entryFrame, mkF, argsToLocals, Value.category]; done) | rfl
theorem d8_0 : decode prog_17_method_4_code 0 = .ok (.aload_n 0, 1) := by decide +kernel
theorem d8_1 : decode prog_17_method_4_code 1 = .ok (.getfield 33, 3) := by decide +kernel
theorem d8_4 : decode prog_17_method_4_code 4 = .ok (.aload_n 0, 1) := by decide +kernel
theorem d8_5 : decode prog_17_method_4_code 5 = .ok (.getfield 20, 3) := by decide +kernel
theorem d8_8 : decode prog_17_method_4_code 8 = .ok (.arraylength, 1) := by decide +kernel
theorem d8_9 : decode prog_17_method_4_code 9 = .ok (.if_icmp .ne 7, 3) := by decide +kernel
theorem d8_16 : decode prog_17_method_4_code 16 = .ok (.aload_n 0, 1) := by decide +kernel
theorem d8_17 : decode prog_17_method_4_code 17 = .ok (.getfield 20, 3) := by decide +kernel
theorem d8_20 : decode prog_17_method_4_code 20 = .ok (.aload_n 0, 1) := by decide +kernel
theorem d8_21 : decode prog_17_method_4_code 21 = .ok (.dup, 1) := by decide +kernel
theorem d8_22 : decode prog_17_method_4_code 22 = .ok (.getfield 33, 3) := by decide +kernel
theorem d8_25 : decode prog_17_method_4_code 25 = .ok (.dup_x1, 1) := by decide +kernel
theorem d8_26 : decode prog_17_method_4_code 26 = .ok (.iconst 1, 1) := by decide +kernel
theorem d8_27 : decode prog_17_method_4_code 27 = .ok (.iadd, 1) := by decide +kernel
theorem d8_28 : decode prog_17_method_4_code 28 = .ok (.putfield 33, 3) := by decide +kernel
theorem d8_31 : decode prog_17_method_4_code 31 = .ok (.iload_n 1, 1) := by decide +kernel
theorem d8_32 : decode prog_17_method_4_code 32 = .ok (.bastore, 1) := by decide +kernel
theorem d8_33 : decode prog_17_method_4_code 33 = .ok (.return_, 1) := by decide +kernel
set_option maxRecDepth 65536 in
set_option maxHeartbeats 40000000 in
theorem rm8 (l : Launch) (Z : State) (a0 : Array Value) (hw : ∀ d ∈ tables_1, d.before a0 Z = true) (o0 : Addr) (i1 : Int32) (a1 : Addr) (x0 : Value) (x1 : Value) (k1 : ClassId) (vs : List Value) (dv : Value) (h0 : Heap) (n0 : Nat) (Z0 : n0 ≤ h0.size) (E_o0 : Exa Z h0 o0 "com/example/exdate/exdate/OutputBuffer") (F_o0_full : Fld Z h0 o0 "com/example/exdate/exdate/OutputBuffer" "full" "Ljava/util/List;" x0) (F_o0_file : Fld Z h0 o0 "com/example/exdate/exdate/OutputBuffer" "file" "Lcom/example/exdate/exdate/OutputFile;" x1) (F_o0_used : Fld Z h0 o0 "com/example/exdate/exdate/OutputBuffer" "used" "I" (.int (0 : Int32))) (F_o0_chunk : Fld Z h0 o0 "com/example/exdate/exdate/OutputBuffer" "chunk" "[B" (.ref a1)) (V_a1 : Arv Z h0 a1 k1 .byte (65536 : Int32) vs dv) (g_o0 : n0 ≤ o0) (g_a1 : n0 ≤ a1) (hl : 0 < vs.length) :
    Ctr l Z (⟨"com/example/exdate/exdate/OutputBuffer", "write", "(B)V"⟩ : MethodName) prog_17_method_4_code 2 none ({ frames := 0, cells := 0, slots := 0, locals := 0 } : Room) #[(.ref o0), (.int i1)] h0 n0 (fun v h' => v = none ∧ Keep h0 h' [o0, a1] ∧ Exa Z h' o0 "com/example/exdate/exdate/OutputBuffer" ∧ Fld Z h' o0 "com/example/exdate/exdate/OutputBuffer" "full" "Ljava/util/List;" x0 ∧ Fld Z h' o0 "com/example/exdate/exdate/OutputBuffer" "file" "Lcom/example/exdate/exdate/OutputFile;" x1 ∧ Fld Z h' o0 "com/example/exdate/exdate/OutputBuffer" "used" "I" (.int (1 : Int32)) ∧ Fld Z h' o0 "com/example/exdate/exdate/OutputBuffer" "chunk" "[B" (.ref a1) ∧ Arv Z h' a1 k1 .byte (65536 : Int32) (vs.set 0 (.int (nar .byte i1))) dv) := by
  refine Ctr.body (L := #[.val (.ref o0), .val (.int i1)]) (plainFor_of_name pn8) Z0 (fun m => ef8 m o0 i1) ?_
  intro p e F m below meth c T0 C0
  have KP : Keep h0 h0 [o0, a1] := Keep.refl h0 _
  refine C0.aloadN d8_0 rfl rfl rfl ?_
  refine C0.getF (host := "") (Or.inl (hw _ (List.mem_of_getElem? (i := 56) rfl))) Via.refl F_o0_used d8_1 rfl (fun T1 C1 => ?_)
  refine C1.aloadN d8_4 rfl rfl rfl ?_
  refine C1.getF (host := "") (Or.inl (hw _ (List.mem_of_getElem? (i := 40) rfl))) Via.refl F_o0_chunk d8_5 rfl (fun T2 C2 => ?_)
  refine C2.arrlen V_a1 d8_8 rfl ?_
  refine C2.icmp_ne d8_9 (by decide) (by decide : _ = 16) rfl (fun _ => ?_) (fun q => absurd q (by decide))
  refine C2.aloadN d8_16 rfl rfl rfl ?_
  refine C2.getF (host := "") (Or.inl (hw _ (List.mem_of_getElem? (i := 40) rfl))) Via.refl F_o0_chunk d8_17 rfl (fun T3 C3 => ?_)
  refine C3.aloadN d8_20 rfl rfl rfl ?_
  refine C3.dup d8_21 rfl rfl ?_
  refine C3.getF (host := "") (Or.inl (hw _ (List.mem_of_getElem? (i := 56) rfl))) Via.refl F_o0_used d8_22 rfl (fun T4 C4 => ?_)
  refine C4.dupX1 d8_25 rfl rfl rfl ?_
  refine C4.iconst (1 : Int32) d8_26 rfl rfl ?_
  refine C4.iadd d8_27 rfl ?_
  refine C4.putF (host := "") (Or.inl (hw _ (List.mem_of_getElem? (i := 56) rfl))) Via.refl F_o0_used E_o0 (Or.inl (hw _ (List.mem_of_getElem? (i := 57) rfl))) (hw _ (List.mem_of_getElem? (i := 1) rfl)) (ty := .int) (by decide) rfl rfl g_o0 d8_28 rfl (fun T5 h5 C5 W5 => ?_)
  have ne_a1_o0 : a1 ≠ o0 := (Ne.symm (own_nea E_o0 (hw _ (List.mem_of_getElem? (i := 1) rfl)) V_a1))
  have E_o0 := E_o0.wr W5
  have F_o0_full := F_o0_full.other W5 (Or.inr (slot_ne (Or.inr (hw _ (List.mem_of_getElem? (i := 37) rfl))) (Or.inl (hw _ (List.mem_of_getElem? (i := 57) rfl))) (by decide) (t := (.object "java/util/List")) (t' := .int) (by decide) (by decide)))
  have F_o0_file := F_o0_file.other W5 (Or.inr (slot_ne (Or.inr (hw _ (List.mem_of_getElem? (i := 45) rfl))) (Or.inl (hw _ (List.mem_of_getElem? (i := 57) rfl))) (by decide) (t := (.object "com/example/exdate/exdate/OutputFile")) (t' := .int) (by decide) (by decide)))
  have F_o0_chunk := F_o0_chunk.other W5 (Or.inr (slot_ne (Or.inl (hw _ (List.mem_of_getElem? (i := 41) rfl))) (Or.inl (hw _ (List.mem_of_getElem? (i := 57) rfl))) (by decide) (t := (.array .byte)) (t' := .int) (by decide) (by decide)))
  have V_a1 := V_a1.other W5 ne_a1_o0
  have KP := KP.wr W5 (Or.inl (by simp))
  have F_o0_used := F_o0_used.same W5
  refine C5.iloadN d8_31 rfl rfl ?_
  refine C5.bastore V_a1 ⟨by decide, by decide⟩ (own_pre8_0 o0 i1 a1 x0 x1 k1 vs dv hl ne_a1_o0) g_a1 d8_32 rfl (fun T6 h6 C6 W6 Vn6 => ?_)
  have E_o0 := E_o0.wr W6
  have F_o0_full := F_o0_full.other W6 (Or.inl (Ne.symm ne_a1_o0))
  have F_o0_file := F_o0_file.other W6 (Or.inl (Ne.symm ne_a1_o0))
  have F_o0_used := F_o0_used.other W6 (Or.inl (Ne.symm ne_a1_o0))
  have F_o0_chunk := F_o0_chunk.other W6 (Or.inl (Ne.symm ne_a1_o0))
  have KP := KP.wr W6 (Or.inl (by simp))
  have V_a1 : Arv Z h6 a1 k1 .byte (65536 : Int32) (vs.set ((0 : Int32)).toNatClampNeg (.int (nar .byte i1))) dv := Vn6
  exact C6.retV d8_33 rfl (by decide) (by decide) ⟨rfl, KP, E_o0, F_o0_full, F_o0_file, F_o0_used, F_o0_chunk, V_a1⟩
theorem pn10 : plainName "java/util/ArrayList" = true := by first | (simp [plainName, overriddenIn]; done) | decide +kernel
theorem pd10 : parseMethodDescriptor "()I" = some ⟨[], some .int⟩ := by decide +kernel
theorem ef10 (m : MethodId) (o0 : Addr) : entryFrame m #[(.ref o0)] 1 = mkF m 0 #[.val (.ref o0)] [] := by first | (simp [entryFrame, mkF, argsToLocals, Value.category]; done) | rfl
theorem d10_0 : decode jdk_38_method_8_code 0 = .ok (.aload_n 0, 1) := by decide +kernel
theorem d10_1 : decode jdk_38_method_8_code 1 = .ok (.getfield 48, 3) := by decide +kernel
theorem d10_4 : decode jdk_38_method_8_code 4 = .ok (.ireturn, 1) := by decide +kernel
set_option maxRecDepth 65536 in
set_option maxHeartbeats 40000000 in
theorem rm10 (l : Launch) (Z : State) (a0 : Array Value) (hw : ∀ d ∈ tables_1, d.before a0 Z = true) (o0 : Addr) (y0 : Int32) (h0 : Heap) (n0 : Nat) (Z0 : n0 ≤ h0.size) (F_o0_size : Fld Z h0 o0 "java/util/ArrayList" "size" "I" (.int y0)) :
    Ctr l Z (⟨"java/util/ArrayList", "size", "()I"⟩ : MethodName) jdk_38_method_8_code 1 (some .int) ({ frames := 0, cells := 0, slots := 0, locals := 0 } : Room) #[(.ref o0)] h0 n0 (fun v h' => v = some (.int y0) ∧ h' = h0) := by
  refine Ctr.body (L := #[.val (.ref o0)]) (plainFor_of_name pn10) Z0 (fun m => ef10 m o0) ?_
  intro p e F m below meth c T0 C0
  refine C0.aloadN d10_0 rfl rfl rfl ?_
  refine C0.getF (host := "") (Or.inl (hw _ (List.mem_of_getElem? (i := 72) rfl))) Via.refl F_o0_size d10_1 rfl (fun T1 C1 => ?_)
  exact C1.retI d10_4 rfl (by decide) (by decide) ⟨rfl, rfl⟩
set_option maxRecDepth 65536 in
set_option maxHeartbeats 40000000 in
theorem own_ret11_0 (j0 : Int64) (y1 : Int32) (hx : j0 = y1.toInt64) : (j0.toInt32) = y1 := by
  rw [hx]; simp
theorem pd11 : parseMethodDescriptor "(J)I" = some ⟨[.long], some .int⟩ := by decide +kernel
theorem ef11 (m : MethodId) (j0 : Int64) : entryFrame m #[(.long j0)] 2 = mkF m 0 #[.val (.long j0), .second] [] := by first | (simp [entryFrame, mkF, argsToLocals, Value.category]; done) | rfl
theorem d11_0 : decode jdk_29_method_43_code 0 = .ok (.lload_n 0, 1) := by decide +kernel
theorem d11_1 : decode jdk_29_method_43_code 1 = .ok (.l2i, 1) := by decide +kernel
theorem d11_2 : decode jdk_29_method_43_code 2 = .ok (.i2l, 1) := by decide +kernel
theorem d11_3 : decode jdk_29_method_43_code 3 = .ok (.lload_n 0, 1) := by decide +kernel
theorem d11_4 : decode jdk_29_method_43_code 4 = .ok (.lcmp, 1) := by decide +kernel
theorem d11_5 : decode jdk_29_method_43_code 5 = .ok (.ifCond .eq 13, 3) := by decide +kernel
theorem d11_18 : decode jdk_29_method_43_code 18 = .ok (.lload_n 0, 1) := by decide +kernel
theorem d11_19 : decode jdk_29_method_43_code 19 = .ok (.l2i, 1) := by decide +kernel
theorem d11_20 : decode jdk_29_method_43_code 20 = .ok (.ireturn, 1) := by decide +kernel
set_option maxRecDepth 65536 in
set_option maxHeartbeats 40000000 in
theorem rm11 (l : Launch) (Z : State) (a0 : Array Value) (hw : ∀ d ∈ tables_1, d.before a0 Z = true) (j0 : Int64) (y1 : Int32) (h0 : Heap) (n0 : Nat) (Z0 : n0 ≤ h0.size) (hx : j0 = y1.toInt64) :
    Ctr l Z (⟨"java/lang/Math", "toIntExact", "(J)I"⟩ : MethodName) jdk_29_method_43_code 2 (some .int) ({ frames := 0, cells := 0, slots := 0, locals := 0 } : Room) #[(.long j0)] h0 n0 (fun v h' => v = some (.int y1) ∧ h' = h0) := by
  refine Ctr.body (L := #[.val (.long j0), .second]) (Jvm.Free.JP.mathPlain rfl (by decide +kernel)) Z0 (fun m => ef11 m j0) ?_
  intro p e F m below meth c T0 C0
  refine C0.lloadN d11_0 rfl rfl ?_
  refine C0.l2i d11_1 rfl ?_
  refine C0.i2l d11_2 rfl ?_
  refine C0.lloadN d11_3 rfl rfl ?_
  refine C0.lif_eq d11_4 rfl d11_5 (by decide) (by decide : _ = 18) rfl (fun _ => ?_) (fun q => absurd (by rw [hx]; simp) q)
  refine C0.lloadN d11_18 rfl rfl ?_
  refine C0.l2i d11_19 rfl ?_
  exact C0.retI d11_20 rfl (by decide) (by decide) ⟨congrArg (fun z => some (Value.int z)) (own_ret11_0 j0 y1 hx), rfl⟩
theorem pn13 : plainName "java/util/ArrayList$Itr" = true := by first | (simp [plainName, overriddenIn]; done) | decide +kernel
theorem pd13 : parseMethodDescriptor "(Ljava/util/ArrayList;)V" = some ⟨[(.object "java/util/ArrayList")], none⟩ := by decide +kernel
theorem ef13 (m : MethodId) (o0 : Addr) (o1 : Addr) : entryFrame m #[(.ref o0), (.ref o1)] 2 = mkF m 0 #[.val (.ref o0), .val (.ref o1)] [] := by first | (simp [entryFrame, mkF, argsToLocals, Value.category]; done) | rfl
theorem d13_0 : decode jdk_49_method_1_code 0 = .ok (.aload_n 0, 1) := by decide +kernel
theorem d13_1 : decode jdk_49_method_1_code 1 = .ok (.aload_n 1, 1) := by decide +kernel
theorem d13_2 : decode jdk_49_method_1_code 2 = .ok (.putfield 1, 3) := by decide +kernel
theorem d13_5 : decode jdk_49_method_1_code 5 = .ok (.aload_n 0, 1) := by decide +kernel
theorem d13_6 : decode jdk_49_method_1_code 6 = .ok (.invokespecial 7, 3) := by decide +kernel
theorem d13_9 : decode jdk_49_method_1_code 9 = .ok (.aload_n 0, 1) := by decide +kernel
theorem d13_10 : decode jdk_49_method_1_code 10 = .ok (.iconst (-1), 1) := by decide +kernel
theorem d13_11 : decode jdk_49_method_1_code 11 = .ok (.putfield 13, 3) := by decide +kernel
theorem d13_14 : decode jdk_49_method_1_code 14 = .ok (.aload_n 0, 1) := by decide +kernel
theorem d13_15 : decode jdk_49_method_1_code 15 = .ok (.aload_n 0, 1) := by decide +kernel
theorem d13_16 : decode jdk_49_method_1_code 16 = .ok (.getfield 1, 3) := by decide +kernel
theorem d13_19 : decode jdk_49_method_1_code 19 = .ok (.getfield 17, 3) := by decide +kernel
theorem d13_22 : decode jdk_49_method_1_code 22 = .ok (.putfield 22, 3) := by decide +kernel
theorem d13_25 : decode jdk_49_method_1_code 25 = .ok (.return_, 1) := by decide +kernel
set_option maxRecDepth 65536 in
set_option maxHeartbeats 40000000 in
theorem rm13 (l : Launch) (Z : State) (a0 : Array Value) (hw : ∀ d ∈ tables_1, d.before a0 Z = true) (o0 : Addr) (o1 : Addr) (x0 : Value) (x1 : Value) (x2 : Value) (y0 : Int32) (h0 : Heap) (n0 : Nat) (Z0 : n0 ≤ h0.size) (E_o0 : Exa Z h0 o0 "java/util/ArrayList$Itr") (F_o0_this_0 : Fld Z h0 o0 "java/util/ArrayList$Itr" "this$0" "Ljava/util/ArrayList;" x0) (F_o0_lastRet : Fld Z h0 o0 "java/util/ArrayList$Itr" "lastRet" "I" x1) (F_o0_expectedModCount : Fld Z h0 o0 "java/util/ArrayList$Itr" "expectedModCount" "I" x2) (F_o0_cursor : Fld Z h0 o0 "java/util/ArrayList$Itr" "cursor" "I" (.int (0 : Int32))) (g_o0 : n0 ≤ o0) (E_o1 : Exa Z h0 o1 "java/util/ArrayList") (F_o1_modCount : Fld Z h0 o1 "java/util/AbstractList" "modCount" "I" (.int y0)) :
    Ctr l Z (⟨"java/util/ArrayList$Itr", "<init>", "(Ljava/util/ArrayList;)V"⟩ : MethodName) jdk_49_method_1_code 2 none ({ frames := 1, cells := 0, slots := 0, locals := 12 } : Room) #[(.ref o0), (.ref o1)] h0 n0 (fun v h' => v = none ∧ Keep h0 h' [o0] ∧ Exa Z h' o0 "java/util/ArrayList$Itr" ∧ Fld Z h' o0 "java/util/ArrayList$Itr" "this$0" "Ljava/util/ArrayList;" (.ref o1) ∧ Fld Z h' o0 "java/util/ArrayList$Itr" "cursor" "I" (.int (0 : Int32))) := by
  refine Ctr.body (L := #[.val (.ref o0), .val (.ref o1)]) (plainFor_of_name pn13) Z0 (fun m => ef13 m o0 o1) ?_
  intro p e F m below meth c T0 C0
  have KP : Keep h0 h0 [o0] := Keep.refl h0 _
  refine C0.aloadN d13_0 rfl rfl rfl ?_
  refine C0.aloadN d13_1 rfl rfl rfl ?_
  refine C0.putF (host := "") (Or.inl (hw _ (List.mem_of_getElem? (i := 94) rfl))) Via.refl F_o0_this_0 E_o0 (Or.inr ⟨(hw _ (List.mem_of_getElem? (i := 95) rfl)), rfl, rfl⟩) (hw _ (List.mem_of_getElem? (i := 88) rfl)) (ty := (.object "java/util/ArrayList")) (by decide) rfl rfl g_o0 d13_2 rfl (fun T1 h1 C1 W1 => ?_)
  have ne_o1_o0 : o1 ≠ o0 := (ne_exa E_o1 E_o0 (by decide))
  have E_o0 := E_o0.wr W1
  have F_o0_lastRet := F_o0_lastRet.other W1 (Or.inr (slot_ne (Or.inl (hw _ (List.mem_of_getElem? (i := 98) rfl))) (Or.inr (hw _ (List.mem_of_getElem? (i := 95) rfl))) (by decide) (t := .int) (t' := (.object "java/util/ArrayList")) (by decide) (by decide)))
  have F_o0_expectedModCount := F_o0_expectedModCount.other W1 (Or.inr (slot_ne (Or.inl (hw _ (List.mem_of_getElem? (i := 102) rfl))) (Or.inr (hw _ (List.mem_of_getElem? (i := 95) rfl))) (by decide) (t := .int) (t' := (.object "java/util/ArrayList")) (by decide) (by decide)))
  have F_o0_cursor := F_o0_cursor.other W1 (Or.inr (slot_ne (Or.inl (hw _ (List.mem_of_getElem? (i := 113) rfl))) (Or.inr (hw _ (List.mem_of_getElem? (i := 95) rfl))) (by decide) (t := .int) (t' := (.object "java/util/ArrayList")) (by decide) (by decide)))
  have E_o1 := E_o1.wr W1
  have F_o1_modCount := F_o1_modCount.other W1 (Or.inl ne_o1_o0)
  have KP := KP.wr W1 (Or.inl (by simp))
  have F_o0_this_0 := F_o0_this_0.same W1
  refine C1.aloadN d13_5 rfl rfl rfl ?_
  refine C1.initObj (hw _ (List.mem_of_getElem? (i := 96) rfl)) (hw _ (List.mem_of_getElem? (i := 10) rfl)) (hw _ (List.mem_of_getElem? (i := 11) rfl)) rfl (by decide) 0 (Nat.le_of_eq rfl) (by decide) d13_6 rfl (fun T2 C2 => ?_)
  refine C2.aloadN d13_9 rfl rfl rfl ?_
  refine C2.iconst (-1 : Int32) d13_10 rfl rfl ?_
  refine C2.putF (host := "") (Or.inl (hw _ (List.mem_of_getElem? (i := 97) rfl))) Via.refl F_o0_lastRet E_o0 (Or.inl (hw _ (List.mem_of_getElem? (i := 98) rfl))) (hw _ (List.mem_of_getElem? (i := 88) rfl)) (ty := .int) (by decide) rfl rfl g_o0 d13_11 rfl (fun T3 h3 C3 W3 => ?_)
  have E_o0 := E_o0.wr W3
  have F_o0_this_0 := F_o0_this_0.other W3 (Or.inr (slot_ne (Or.inr (hw _ (List.mem_of_getElem? (i := 95) rfl))) (Or.inl (hw _ (List.mem_of_getElem? (i := 98) rfl))) (by decide) (t := (.object "java/util/ArrayList")) (t' := .int) (by decide) (by decide)))
  have F_o0_expectedModCount := F_o0_expectedModCount.other W3 (Or.inr (slot_ne (Or.inl (hw _ (List.mem_of_getElem? (i := 102) rfl))) (Or.inl (hw _ (List.mem_of_getElem? (i := 98) rfl))) (by decide) (t := .int) (t' := .int) (by decide) (by decide)))
  have F_o0_cursor := F_o0_cursor.other W3 (Or.inr (slot_ne (Or.inl (hw _ (List.mem_of_getElem? (i := 113) rfl))) (Or.inl (hw _ (List.mem_of_getElem? (i := 98) rfl))) (by decide) (t := .int) (t' := .int) (by decide) (by decide)))
  have E_o1 := E_o1.wr W3
  have F_o1_modCount := F_o1_modCount.other W3 (Or.inl ne_o1_o0)
  have KP := KP.wr W3 (Or.inl (by simp))
  have F_o0_lastRet := F_o0_lastRet.same W3
  refine C3.aloadN d13_14 rfl rfl rfl ?_
  refine C3.aloadN d13_15 rfl rfl rfl ?_
  refine C3.getF (host := "") (Or.inl (hw _ (List.mem_of_getElem? (i := 94) rfl))) Via.refl F_o0_this_0 d13_16 rfl (fun T4 C4 => ?_)
  refine C4.getF (host := "") (Or.inl (hw _ (List.mem_of_getElem? (i := 99) rfl))) (Via.of (hw _ (List.mem_of_getElem? (i := 100) rfl))) F_o1_modCount d13_19 rfl (fun T5 C5 => ?_)
  refine C5.putF (host := "") (Or.inl (hw _ (List.mem_of_getElem? (i := 101) rfl))) Via.refl F_o0_expectedModCount E_o0 (Or.inl (hw _ (List.mem_of_getElem? (i := 102) rfl))) (hw _ (List.mem_of_getElem? (i := 88) rfl)) (ty := .int) (by decide) rfl rfl g_o0 d13_22 rfl (fun T6 h6 C6 W6 => ?_)
  have E_o0 := E_o0.wr W6
  have F_o0_this_0 := F_o0_this_0.other W6 (Or.inr (slot_ne (Or.inr (hw _ (List.mem_of_getElem? (i := 95) rfl))) (Or.inl (hw _ (List.mem_of_getElem? (i := 102) rfl))) (by decide) (t := (.object "java/util/ArrayList")) (t' := .int) (by decide) (by decide)))
  have F_o0_lastRet := F_o0_lastRet.other W6 (Or.inr (slot_ne (Or.inl (hw _ (List.mem_of_getElem? (i := 98) rfl))) (Or.inl (hw _ (List.mem_of_getElem? (i := 102) rfl))) (by decide) (t := .int) (t' := .int) (by decide) (by decide)))
  have F_o0_cursor := F_o0_cursor.other W6 (Or.inr (slot_ne (Or.inl (hw _ (List.mem_of_getElem? (i := 113) rfl))) (Or.inl (hw _ (List.mem_of_getElem? (i := 102) rfl))) (by decide) (t := .int) (t' := .int) (by decide) (by decide)))
  have E_o1 := E_o1.wr W6
  have F_o1_modCount := F_o1_modCount.other W6 (Or.inl ne_o1_o0)
  have KP := KP.wr W6 (Or.inl (by simp))
  have F_o0_expectedModCount := F_o0_expectedModCount.same W6
  exact C6.retV d13_25 rfl (by decide) (by decide) ⟨rfl, KP, E_o0, F_o0_this_0, F_o0_cursor⟩
theorem pn12 : plainName "java/util/ArrayList" = true := by first | (simp [plainName, overriddenIn]; done) | decide +kernel
theorem pd12 : parseMethodDescriptor "()Ljava/util/Iterator;" = some ⟨[], some (.object "java/util/Iterator")⟩ := by decide +kernel
theorem ef12 (m : MethodId) (o0 : Addr) : entryFrame m #[(.ref o0)] 1 = mkF m 0 #[.val (.ref o0)] [] := by first | (simp [entryFrame, mkF, argsToLocals, Value.category]; done) | rfl
theorem d12_0 : decode jdk_38_method_55_code 0 = .ok (.new 267, 3) := by decide +kernel
theorem d12_3 : decode jdk_38_method_55_code 3 = .ok (.dup, 1) := by decide +kernel
theorem d12_4 : decode jdk_38_method_55_code 4 = .ok (.aload_n 0, 1) := by decide +kernel
theorem d12_5 : decode jdk_38_method_55_code 5 = .ok (.invokespecial 269, 3) := by decide +kernel
theorem d12_8 : decode jdk_38_method_55_code 8 = .ok (.areturn, 1) := by decide +kernel
set_option maxRecDepth 65536 in
set_option maxHeartbeats 40000000 in
theorem rm12 (l : Launch) (Z : State) (a0 : Array Value) (hw : ∀ d ∈ tables_1, d.before a0 Z = true) (o0 : Addr) (y0 : Int32) (h0 : Heap) (n0 : Nat) (Z0 : n0 ≤ h0.size) (E_o0 : Exa Z h0 o0 "java/util/ArrayList") (F_o0_modCount : Fld Z h0 o0 "java/util/AbstractList" "modCount" "I" (.int y0)) :
    Ctr l Z (⟨"java/util/ArrayList", "iterator", "()Ljava/util/Iterator;"⟩ : MethodName) jdk_38_method_55_code 1 (some (.object "java/util/Iterator")) ({ frames := 2, cells := 1, slots := 4, locals := 26 } : Room) #[(.ref o0)] h0 n0 (fun v h' => ∃ bi : Addr, v = some (.ref bi) ∧ Keep h0 h' [] ∧ Exa Z h' bi "java/util/ArrayList$Itr" ∧ Fld Z h' bi "java/util/ArrayList$Itr" "this$0" "Ljava/util/ArrayList;" (.ref o0) ∧ Fld Z h' bi "java/util/ArrayList$Itr" "cursor" "I" (.int (0 : Int32)) ∧ n0 ≤ bi) := by
  refine Ctr.body (L := #[.val (.ref o0)]) (plainFor_of_name pn12) Z0 (fun m => ef12 m o0) ?_
  intro p e F m below meth c T0 C0
  have KP : Keep h0 h0 [] := Keep.refl h0 _
  refine C0.new (hw _ (List.mem_of_getElem? (i := 87) rfl)) (hw _ (List.mem_of_getElem? (i := 88) rfl)) (hw _ (List.mem_of_getElem? (i := 89) rfl)) d12_0 rfl (by decide) (by decide) (fun T1 h1 b1 C1 e1 g_b1 E1 E_b1 D1 => ?_)
  have ne_o0_b1 : o0 ≠ b1 := Nat.ne_of_lt (Nat.lt_of_lt_of_eq E_o0.lt e1.symm)
  have sz_b1 : h0.size ≤ b1 := Nat.le_trans KP.1 (Nat.le_of_eq e1.symm)
  have E_o0 := E_o0.ext E1
  have F_o0_modCount := F_o0_modCount.ext E1
  have KP := KP.ext E1
  have F_b1_this_0 : Fld Z h1 b1 "java/util/ArrayList$Itr" "this$0" "Ljava/util/ArrayList;" .null := D1 (Or.inr (hw _ (List.mem_of_getElem? (i := 95) rfl))) (ty := (.object "java/util/ArrayList")) (by decide)
  have F_b1_lastRet : Fld Z h1 b1 "java/util/ArrayList$Itr" "lastRet" "I" (.int (0 : Int32)) := D1 (Or.inl (hw _ (List.mem_of_getElem? (i := 98) rfl))) (ty := .int) (by decide)
  have F_b1_expectedModCount : Fld Z h1 b1 "java/util/ArrayList$Itr" "expectedModCount" "I" (.int (0 : Int32)) := D1 (Or.inl (hw _ (List.mem_of_getElem? (i := 102) rfl))) (ty := .int) (by decide)
  have F_b1_cursor : Fld Z h1 b1 "java/util/ArrayList$Itr" "cursor" "I" (.int (0 : Int32)) := D1 (Or.inl (hw _ (List.mem_of_getElem? (i := 113) rfl))) (ty := .int) (by decide)
  refine C1.dup d12_3 rfl rfl ?_
  refine C1.aloadN d12_4 rfl rfl rfl ?_
  refine C1.callN rfl (hw _ (List.mem_of_getElem? (i := 90) rfl)) (hw _ (List.mem_of_getElem? (i := 91) rfl)) (hw _ (List.mem_of_getElem? (i := 89) rfl)) (hw _ (List.mem_of_getElem? (i := 93) rfl)) (by decide) (a := b1) (rm13 l Z a0 hw b1 o0 .null (.int (0 : Int32)) (.int (0 : Int32)) y0 h1 n0 C1.size E_b1 F_b1_this_0 F_b1_lastRet F_b1_expectedModCount F_b1_cursor g_b1 E_o0 F_o0_modCount) (argsL := [(.ref o0)]) pd13 rfl 1 (by decide) (by decide) (by decide) (by decide) (rest := [(.ref b1)]) rfl rfl (Nat.le_of_eq rfl) d12_5 rfl (fun v2 T2 h2 C2 qq2 => ?_)
  obtain ⟨rfl, K2, p2_0, p2_1, p2_2⟩ := qq2
  have E_o0 := E_o0.keep K2
  have F_o0_modCount := F_o0_modCount.keep K2 (ninS ne_o0_b1 nin0)
  have E_b1 := E_b1.keep K2
  have KP := KP.trans K2 (allS (Or.inr sz_b1) (all0))
  have E_b1 := p2_0
  have F_b1_this_0 := p2_1
  have F_b1_cursor := p2_2
  show Go p e below F n0 (fun v h' => ∃ bi : Addr, v = some (.ref bi) ∧ Keep h0 h' [] ∧ Exa Z h' bi "java/util/ArrayList$Itr" ∧ Fld Z h' bi "java/util/ArrayList$Itr" "this$0" "Ljava/util/ArrayList;" (.ref o0) ∧ Fld Z h' bi "java/util/ArrayList$Itr" "cursor" "I" (.int (0 : Int32)) ∧ n0 ≤ bi) T2 (mkF m 8 #[.val (.ref o0)] [(.ref b1)])
  exact C2.retA d12_8 rfl rfl rfl (by decide) (by decide) ⟨b1, rfl, KP, E_b1, F_b1_this_0, F_b1_cursor, g_b1⟩
theorem pn14 : plainName "java/util/ArrayList$Itr" = true := by first | (simp [plainName, overriddenIn]; done) | decide +kernel
theorem pd14 : parseMethodDescriptor "()Z" = some ⟨[], some .boolean⟩ := by decide +kernel
theorem ef14 (m : MethodId) (o0 : Addr) : entryFrame m #[(.ref o0)] 1 = mkF m 0 #[.val (.ref o0)] [] := by first | (simp [entryFrame, mkF, argsToLocals, Value.category]; done) | rfl
theorem d14_0 : decode jdk_49_method_2_code 0 = .ok (.aload_n 0, 1) := by decide +kernel
theorem d14_1 : decode jdk_49_method_2_code 1 = .ok (.getfield 25, 3) := by decide +kernel
theorem d14_4 : decode jdk_49_method_2_code 4 = .ok (.aload_n 0, 1) := by decide +kernel
theorem d14_5 : decode jdk_49_method_2_code 5 = .ok (.getfield 1, 3) := by decide +kernel
theorem d14_8 : decode jdk_49_method_2_code 8 = .ok (.getfield 28, 3) := by decide +kernel
theorem d14_11 : decode jdk_49_method_2_code 11 = .ok (.if_icmp .eq 7, 3) := by decide +kernel
theorem d14_18 : decode jdk_49_method_2_code 18 = .ok (.iconst 0, 1) := by decide +kernel
theorem d14_19 : decode jdk_49_method_2_code 19 = .ok (.ireturn, 1) := by decide +kernel
set_option maxRecDepth 65536 in
set_option maxHeartbeats 40000000 in
theorem rm14 (l : Launch) (Z : State) (a0 : Array Value) (hw : ∀ d ∈ tables_1, d.before a0 Z = true) (o0 : Addr) (a1 : Addr) (h0 : Heap) (n0 : Nat) (Z0 : n0 ≤ h0.size) (F_o0_this_0 : Fld Z h0 o0 "java/util/ArrayList$Itr" "this$0" "Ljava/util/ArrayList;" (.ref a1)) (F_o0_cursor : Fld Z h0 o0 "java/util/ArrayList$Itr" "cursor" "I" (.int (0 : Int32))) (F_a1_size : Fld Z h0 a1 "java/util/ArrayList" "size" "I" (.int (0 : Int32))) :
    Ctr l Z (⟨"java/util/ArrayList$Itr", "hasNext", "()Z"⟩ : MethodName) jdk_49_method_2_code 1 (some .boolean) ({ frames := 0, cells := 0, slots := 0, locals := 0 } : Room) #[(.ref o0)] h0 n0 (fun v h' => v = some (.int (0 : Int32)) ∧ h' = h0) := by
  refine Ctr.body (L := #[.val (.ref o0)]) (plainFor_of_name pn14) Z0 (fun m => ef14 m o0) ?_
  intro p e F m below meth c T0 C0
  refine C0.aloadN d14_0 rfl rfl rfl ?_
  refine C0.getF (host := "") (Or.inl (hw _ (List.mem_of_getElem? (i := 112) rfl))) Via.refl F_o0_cursor d14_1 rfl (fun T1 C1 => ?_)
  refine C1.aloadN d14_4 rfl rfl rfl ?_
  refine C1.getF (host := "") (Or.inl (hw _ (List.mem_of_getElem? (i := 94) rfl))) Via.refl F_o0_this_0 d14_5 rfl (fun T2 C2 => ?_)
  refine C2.getF (Or.inr (hw _ (List.mem_of_getElem? (i := 114) rfl))) Via.refl F_a1_size d14_8 rfl (fun T3 C3 => ?_)
  refine C3.icmp_eq d14_11 (by decide) (by decide : _ = 18) rfl (fun _ => ?_) (fun q => absurd (by decide) q)
  refine C3.iconst (0 : Int32) d14_18 rfl rfl ?_
  exact C3.retN (t := .boolean) d14_19 rfl (by simp) (by decide) (by decide) (w := (0 : Int32)) rfl ⟨rfl, rfl⟩
set_option maxRecDepth 65536 in
set_option maxHeartbeats 40000000 in
theorem own_pre9_0 (o0 : Addr) (bl : Addr) (a1 : Addr) (y0 : Int32) (k1 : ClassId) (vs : List Value) (dv : Value) (hy : y0 = (0 : Int32) ∨ y0 = (1 : Int32)) : ((((0 : Int32).toInt64) * (65536 : Int64)) + (y0.toInt64)) = y0.toInt64 := by
  rcases hy with rfl | rfl <;> first | decide | rfl | (simp; done)
set_option maxRecDepth 65536 in
set_option maxHeartbeats 40000000 in
theorem own_pre9_1 (o0 : Addr) (bl : Addr) (a1 : Addr) (y0 : Int32) (k1 : ClassId) (vs : List Value) (dv : Value) (hy : y0 = (0 : Int32) ∨ y0 = (1 : Int32)) : ¬ y0 < (0 : Int32) := by
  rcases hy with rfl | rfl <;> first | decide | rfl | (simp; done)
set_option maxRecDepth 65536 in
set_option maxHeartbeats 40000000 in
theorem own_pre9_2 (o0 : Addr) (bl : Addr) (a1 : Addr) (y0 : Int32) (k1 : ClassId) (vs : List Value) (dv : Value) (hy : y0 = (0 : Int32) ∨ y0 = (1 : Int32)) : (y0).toNatClampNeg ≤ 1 := by
  rcases hy with rfl | rfl <;> first | decide | rfl | (simp; done)
set_option maxRecDepth 65536 in
set_option maxHeartbeats 40000000 in
theorem own_cpy9_0 (o0 : Addr) (bl : Addr) (a1 : Addr) (y0 : Int32) (k1 : ClassId) (vs : List Value) (dv : Value) (hy : y0 = (0 : Int32) ∨ y0 = (1 : Int32)) : ¬ (0 : Int32) < 0 := by
  rcases hy with rfl | rfl <;> first | decide | rfl | (simp; done)
set_option maxRecDepth 65536 in
set_option maxHeartbeats 40000000 in
theorem own_cpy9_1 (o0 : Addr) (bl : Addr) (a1 : Addr) (y0 : Int32) (k1 : ClassId) (vs : List Value) (dv : Value) (hy : y0 = (0 : Int32) ∨ y0 = (1 : Int32)) : ¬ y0 < 0 := by
  rcases hy with rfl | rfl <;> first | decide | rfl | (simp; done)
set_option maxRecDepth 65536 in
set_option maxHeartbeats 40000000 in
theorem own_cpy9_2 (o0 : Addr) (bl : Addr) (a1 : Addr) (y0 : Int32) (k1 : ClassId) (vs : List Value) (dv : Value) (hy : y0 = (0 : Int32) ∨ y0 = (1 : Int32)) : ((0 : Int32)).toNatClampNeg + (y0).toNatClampNeg ≤ ((65536 : Int32)).toNatClampNeg := by
  rcases hy with rfl | rfl <;> first | decide | rfl | (simp; done)
set_option maxRecDepth 65536 in
set_option maxHeartbeats 40000000 in
theorem own_cpy9_3 (o0 : Addr) (bl : Addr) (a1 : Addr) (y0 : Int32) (k1 : ClassId) (vs : List Value) (dv : Value) (hy : y0 = (0 : Int32) ∨ y0 = (1 : Int32)) : ((0 : Int32)).toNatClampNeg + (y0).toNatClampNeg ≤ (y0).toNatClampNeg := by
  rcases hy with rfl | rfl <;> first | decide | rfl | (simp; done)
set_option maxRecDepth 65536 in
set_option maxHeartbeats 40000000 in
theorem own_cpy9_4 (o0 : Addr) (bl : Addr) (a1 : Addr) (y0 : Int32) (k1 : ClassId) (vs : List Value) (dv : Value) (hy : y0 = (0 : Int32) ∨ y0 = (1 : Int32)) : ((0 : Int32)).toNatClampNeg + (y0).toNatClampNeg ≤ [(Value.int (0 : Int32))].length := by
  rcases hy with rfl | rfl <;> first | decide | rfl | (simp; done)
theorem pn9 : plainName "com/example/exdate/exdate/OutputBuffer" = true := by first | (simp [plainName, overriddenIn]; done) | decide +kernel
theorem pd9 : parseMethodDescriptor "()[B" = some ⟨[], some (.array .byte)⟩ := by decide +kernel
theorem ef9 (m : MethodId) (o0 : Addr) : entryFrame m #[(.ref o0)] 5 = mkF m 0 #[.val (.ref o0), .unset, .unset, .unset, .unset] [] := by first | (simp [entryFrame, mkF, argsToLocals, Value.category]; done) | rfl
theorem d9_0 : decode prog_17_method_9_code 0 = .ok (.aload_n 0, 1) := by decide +kernel
theorem d9_1 : decode prog_17_method_9_code 1 = .ok (.getfield 15, 3) := by decide +kernel
theorem d9_4 : decode prog_17_method_9_code 4 = .ok (.invokeinterface 105 1, 5) := by decide +kernel
theorem d9_9 : decode prog_17_method_9_code 9 = .ok (.i2l, 1) := by decide +kernel
theorem d9_10 : decode prog_17_method_9_code 10 = .ok (.ldc2_w 110, 3) := by decide +kernel
theorem d9_13 : decode prog_17_method_9_code 13 = .ok (.lmul, 1) := by decide +kernel
theorem d9_14 : decode prog_17_method_9_code 14 = .ok (.aload_n 0, 1) := by decide +kernel
theorem d9_15 : decode prog_17_method_9_code 15 = .ok (.getfield 33, 3) := by decide +kernel
theorem d9_18 : decode prog_17_method_9_code 18 = .ok (.i2l, 1) := by decide +kernel
theorem d9_19 : decode prog_17_method_9_code 19 = .ok (.ladd, 1) := by decide +kernel
theorem d9_20 : decode prog_17_method_9_code 20 = .ok (.invokestatic 112, 3) := by decide +kernel
theorem d9_23 : decode prog_17_method_9_code 23 = .ok (.newarray .byte, 2) := by decide +kernel
theorem d9_25 : decode prog_17_method_9_code 25 = .ok (.astore_n 1, 1) := by decide +kernel
theorem d9_26 : decode prog_17_method_9_code 26 = .ok (.iconst 0, 1) := by decide +kernel
theorem d9_27 : decode prog_17_method_9_code 27 = .ok (.istore_n 2, 1) := by decide +kernel
theorem d9_28 : decode prog_17_method_9_code 28 = .ok (.aload_n 0, 1) := by decide +kernel
theorem d9_29 : decode prog_17_method_9_code 29 = .ok (.getfield 15, 3) := by decide +kernel
theorem d9_32 : decode prog_17_method_9_code 32 = .ok (.invokeinterface 118 1, 5) := by decide +kernel
theorem d9_37 : decode prog_17_method_9_code 37 = .ok (.astore_n 3, 1) := by decide +kernel
theorem d9_38 : decode prog_17_method_9_code 38 = .ok (.aload_n 3, 1) := by decide +kernel
theorem d9_39 : decode prog_17_method_9_code 39 = .ok (.invokeinterface 122 1, 5) := by decide +kernel
theorem d9_44 : decode prog_17_method_9_code 44 = .ok (.ifCond .eq 34, 3) := by decide +kernel
theorem d9_78 : decode prog_17_method_9_code 78 = .ok (.aload_n 0, 1) := by decide +kernel
theorem d9_79 : decode prog_17_method_9_code 79 = .ok (.getfield 20, 3) := by decide +kernel
theorem d9_82 : decode prog_17_method_9_code 82 = .ok (.iconst 0, 1) := by decide +kernel
theorem d9_83 : decode prog_17_method_9_code 83 = .ok (.aload_n 1, 1) := by decide +kernel
theorem d9_84 : decode prog_17_method_9_code 84 = .ok (.iload_n 2, 1) := by decide +kernel
theorem d9_85 : decode prog_17_method_9_code 85 = .ok (.aload_n 0, 1) := by decide +kernel
theorem d9_86 : decode prog_17_method_9_code 86 = .ok (.getfield 33, 3) := by decide +kernel
theorem d9_89 : decode prog_17_method_9_code 89 = .ok (.invokestatic 41, 3) := by decide +kernel
theorem d9_92 : decode prog_17_method_9_code 92 = .ok (.aload_n 1, 1) := by decide +kernel
theorem d9_93 : decode prog_17_method_9_code 93 = .ok (.areturn, 1) := by decide +kernel
set_option maxRecDepth 65536 in
set_option maxHeartbeats 40000000 in
theorem rm9 (l : Launch) (Z : State) (a0 : Array Value) (hw : ∀ d ∈ tables_1, d.before a0 Z = true) (o0 : Addr) (bl : Addr) (a1 : Addr) (y0 : Int32) (k1 : ClassId) (vs : List Value) (dv : Value) (h0 : Heap) (n0 : Nat) (Z0 : n0 ≤ h0.size) (E_o0 : Exa Z h0 o0 "com/example/exdate/exdate/OutputBuffer") (F_o0_full : Fld Z h0 o0 "com/example/exdate/exdate/OutputBuffer" "full" "Ljava/util/List;" (.ref bl)) (F_o0_chunk : Fld Z h0 o0 "com/example/exdate/exdate/OutputBuffer" "chunk" "[B" (.ref a1)) (F_o0_used : Fld Z h0 o0 "com/example/exdate/exdate/OutputBuffer" "used" "I" (.int y0)) (E_bl : Exa Z h0 bl "java/util/ArrayList") (F_bl_modCount : Fld Z h0 bl "java/util/AbstractList" "modCount" "I" (.int (0 : Int32))) (F_bl_size : Fld Z h0 bl "java/util/ArrayList" "size" "I" (.int (0 : Int32))) (V_a1 : Arv Z h0 a1 k1 .byte (65536 : Int32) vs dv) (hy : y0 = (0 : Int32) ∨ y0 = (1 : Int32)) :
    Ctr l Z (⟨"com/example/exdate/exdate/OutputBuffer", "toByteArray", "()[B"⟩ : MethodName) prog_17_method_9_code 5 (some (.array .byte)) ({ frames := 3, cells := 2, slots := 5, locals := 40 } : Room) #[(.ref o0)] h0 n0 (fun v h' => ∃ bo : Addr, ∃ ko : ClassId, v = some (.ref bo) ∧ Keep h0 h' [] ∧ Arv Z h' bo ko .byte y0 (own_cp vs dv y0) (.int (0 : Int32)) ∧ n0 ≤ bo) := by
  refine Ctr.body (L := #[.val (.ref o0), .unset, .unset, .unset, .unset]) (plainFor_of_name pn9) Z0 (fun m => ef9 m o0) ?_
  intro p e F m below meth c T0 C0
  have KP : Keep h0 h0 [] := Keep.refl h0 _
  refine C0.aloadN d9_0 rfl rfl rfl ?_
  refine C0.getF (host := "") (Or.inl (hw _ (List.mem_of_getElem? (i := 36) rfl))) Via.refl F_o0_full d9_1 rfl (fun T1 C1 => ?_)
  refine C1.callF (hw _ (List.mem_of_getElem? (i := 63) rfl)) (hw _ (List.mem_of_getElem? (i := 64) rfl)) (hw _ (List.mem_of_getElem? (i := 65) rfl)) (hw _ (List.mem_of_getElem? (i := 66) rfl)) (hw _ (List.mem_of_getElem? (i := 67) rfl)) (hw _ (List.mem_of_getElem? (i := 68) rfl)) (hw _ (List.mem_of_getElem? (i := 69) rfl)) (hw _ (List.mem_of_getElem? (i := 70) rfl)) (hw _ (List.mem_of_getElem? (i := 14) rfl)) (hw _ (List.mem_of_getElem? (i := 71) rfl)) E_bl (by decide) (a := bl) (rm10 l Z a0 hw bl (0 : Int32) h0 n0 C1.size F_bl_size) (argsL := []) pd10 rfl 0 (by decide) (by decide) (by decide) (by decide) (rest := []) rfl rfl (Nat.le_of_eq rfl) d9_4 rfl (fun v2 T2 h2 C2 qq2 => ?_)
  obtain ⟨rfl, hh2⟩ := qq2
  have hh2 := hh2.symm; subst hh2
  show Go p e below F n0 (fun v h' => ∃ bo : Addr, ∃ ko : ClassId, v = some (.ref bo) ∧ Keep h0 h' [] ∧ Arv Z h' bo ko .byte y0 (own_cp vs dv y0) (.int (0 : Int32)) ∧ n0 ≤ bo) T2 (mkF m 9 #[.val (.ref o0), .unset, .unset, .unset, .unset] [(.int (0 : Int32))])
  refine C2.i2l d9_9 rfl ?_
  refine C2.ldc2 (hw _ (List.mem_of_getElem? (i := 74) rfl)) d9_10 rfl ?_
  refine C2.lmul d9_13 rfl ?_
  refine C2.aloadN d9_14 rfl rfl rfl ?_
  refine C2.getF (host := "") (Or.inl (hw _ (List.mem_of_getElem? (i := 56) rfl))) Via.refl F_o0_used d9_15 rfl (fun T3 C3 => ?_)
  refine C3.i2l d9_18 rfl ?_
  refine C3.ladd d9_19 rfl ?_
  refine C3.callS (hw _ (List.mem_of_getElem? (i := 75) rfl)) (hw _ (List.mem_of_getElem? (i := 76) rfl)) (hw _ (List.mem_of_getElem? (i := 77) rfl)) (hw _ (List.mem_of_getElem? (i := 78) rfl)) (by decide) (rm11 l Z a0 hw ((((0 : Int32).toInt64) * (65536 : Int64)) + (y0.toInt64)) y0 h0 n0 C3.size (own_pre9_0 o0 bl a1 y0 k1 vs dv hy)) (argsL := [(.long ((((0 : Int32).toInt64) * (65536 : Int64)) + (y0.toInt64)))]) pd11 rfl 0 (by decide) (by decide) (by decide) (by decide) (rest := []) rfl rfl (Nat.le_of_eq rfl) d9_20 rfl (fun v4 T4 h4 C4 qq4 => ?_)
  obtain ⟨rfl, hh4⟩ := qq4
  have hh4 := hh4.symm; subst hh4
  show Go p e below F n0 (fun v h' => ∃ bo : Addr, ∃ ko : ClassId, v = some (.ref bo) ∧ Keep h0 h' [] ∧ Arv Z h' bo ko .byte y0 (own_cp vs dv y0) (.int (0 : Int32)) ∧ n0 ≤ bo) T4 (mkF m 23 #[.val (.ref o0), .unset, .unset, .unset, .unset] [(.int y0)])
  refine C4.newarr (hw _ (List.mem_of_getElem? (i := 39) rfl)) 1 (own_pre9_1 o0 bl a1 y0 k1 vs dv hy) (own_pre9_2 o0 bl a1 y0 k1 vs dv hy) (by decide) (by decide) (by decide) d9_23 rfl (fun T5 h5 b5 k5 C5 e5 g_b5 E5 V_b5 => ?_)
  have ne_o0_b5 : o0 ≠ b5 := Nat.ne_of_lt (Nat.lt_of_lt_of_eq E_o0.lt e5.symm)
  have ne_bl_b5 : bl ≠ b5 := Nat.ne_of_lt (Nat.lt_of_lt_of_eq E_bl.lt e5.symm)
  have ne_a1_b5 : a1 ≠ b5 := Nat.ne_of_lt (Nat.lt_of_lt_of_eq V_a1.lt e5.symm)
  have sz_b5 : h0.size ≤ b5 := Nat.le_trans KP.1 (Nat.le_of_eq e5.symm)
  have E_o0 := E_o0.ext E5
  have F_o0_full := F_o0_full.ext E5
  have F_o0_chunk := F_o0_chunk.ext E5
  have F_o0_used := F_o0_used.ext E5
  have E_bl := E_bl.ext E5
  have F_bl_modCount := F_bl_modCount.ext E5
  have F_bl_size := F_bl_size.ext E5
  have V_a1 := V_a1.ext E5
  have KP := KP.ext E5
  have V_b5 : Arv Z h5 b5 k5 .byte y0 [(.int (0 : Int32))] (.int (0 : Int32)) := V_b5
  refine C5.astoreN d9_25 rfl rfl (L' := #[.val (.ref o0), .val (.ref b5), .unset, .unset, .unset]) rfl ?_
  refine C5.iconst (0 : Int32) d9_26 rfl rfl ?_
  refine C5.istoreN d9_27 rfl (L' := #[.val (.ref o0), .val (.ref b5), .val (.int (0 : Int32)), .unset, .unset]) rfl ?_
  refine C5.aloadN d9_28 rfl rfl rfl ?_
  refine C5.getF (host := "") (Or.inl (hw _ (List.mem_of_getElem? (i := 36) rfl))) Via.refl F_o0_full d9_29 rfl (fun T6 C6 => ?_)
  refine C6.callF (hw _ (List.mem_of_getElem? (i := 79) rfl)) (hw _ (List.mem_of_getElem? (i := 80) rfl)) (hw _ (List.mem_of_getElem? (i := 81) rfl)) (hw _ (List.mem_of_getElem? (i := 82) rfl)) (hw _ (List.mem_of_getElem? (i := 83) rfl)) (hw _ (List.mem_of_getElem? (i := 84) rfl)) (hw _ (List.mem_of_getElem? (i := 85) rfl)) (hw _ (List.mem_of_getElem? (i := 70) rfl)) (hw _ (List.mem_of_getElem? (i := 14) rfl)) (hw _ (List.mem_of_getElem? (i := 86) rfl)) E_bl (by decide) (a := bl) (rm12 l Z a0 hw bl (0 : Int32) h5 n0 C6.size E_bl F_bl_modCount) (argsL := []) pd12 rfl 0 (by decide) (by decide) (by decide) (by decide) (rest := []) rfl rfl (Nat.le_of_eq rfl) d9_32 rfl (fun v7 T7 h7 C7 qq7 => ?_)
  obtain ⟨bi7, rfl, K7, p7_0, p7_1, p7_2, p7_3⟩ := qq7
  have K7 := ext_keep K7
  have E_o0 := E_o0.ext K7
  have F_o0_full := F_o0_full.ext K7
  have F_o0_chunk := F_o0_chunk.ext K7
  have F_o0_used := F_o0_used.ext K7
  have E_bl := E_bl.ext K7
  have F_bl_modCount := F_bl_modCount.ext K7
  have F_bl_size := F_bl_size.ext K7
  have V_a1 := V_a1.ext K7
  have V_b5 := V_b5.ext K7
  have KP := KP.ext K7
  have E_bi7 := p7_0
  have F_bi7_this_0 := p7_1
  have F_bi7_cursor := p7_2
  have g_bi7 := p7_3
  show Go p e below F n0 (fun v h' => ∃ bo : Addr, ∃ ko : ClassId, v = some (.ref bo) ∧ Keep h0 h' [] ∧ Arv Z h' bo ko .byte y0 (own_cp vs dv y0) (.int (0 : Int32)) ∧ n0 ≤ bo) T7 (mkF m 37 #[.val (.ref o0), .val (.ref b5), .val (.int (0 : Int32)), .unset, .unset] [(.ref bi7)])
  refine C7.astoreN d9_37 rfl rfl (L' := #[.val (.ref o0), .val (.ref b5), .val (.int (0 : Int32)), .val (.ref bi7), .unset]) rfl ?_
  refine C7.aloadN d9_38 rfl rfl rfl ?_
  refine C7.callF (hw _ (List.mem_of_getElem? (i := 103) rfl)) (hw _ (List.mem_of_getElem? (i := 104) rfl)) (hw _ (List.mem_of_getElem? (i := 105) rfl)) (hw _ (List.mem_of_getElem? (i := 106) rfl)) (hw _ (List.mem_of_getElem? (i := 107) rfl)) (hw _ (List.mem_of_getElem? (i := 108) rfl)) (hw _ (List.mem_of_getElem? (i := 109) rfl)) (hw _ (List.mem_of_getElem? (i := 110) rfl)) (hw _ (List.mem_of_getElem? (i := 89) rfl)) (hw _ (List.mem_of_getElem? (i := 111) rfl)) E_bi7 (by decide) (a := bi7) (rm14 l Z a0 hw bi7 bl h7 n0 C7.size F_bi7_this_0 F_bi7_cursor F_bl_size) (argsL := []) pd14 rfl 0 (by decide) (by decide) (by decide) (by decide) (rest := []) rfl rfl (Nat.le_of_eq rfl) d9_39 rfl (fun v8 T8 h8 C8 qq8 => ?_)
  obtain ⟨rfl, hh8⟩ := qq8
  have hh8 := hh8.symm; subst hh8
  show Go p e below F n0 (fun v h' => ∃ bo : Addr, ∃ ko : ClassId, v = some (.ref bo) ∧ Keep h0 h' [] ∧ Arv Z h' bo ko .byte y0 (own_cp vs dv y0) (.int (0 : Int32)) ∧ n0 ≤ bo) T8 (mkF m 44 #[.val (.ref o0), .val (.ref b5), .val (.int (0 : Int32)), .val (.ref bi7), .unset] [(.int (0 : Int32))])
  refine C8.if_eq d9_44 (by decide) (by decide : _ = 78) rfl (fun _ => ?_) (fun q => absurd (by decide) q)
  refine C8.aloadN d9_78 rfl rfl rfl ?_
  refine C8.getF (host := "") (Or.inl (hw _ (List.mem_of_getElem? (i := 40) rfl))) Via.refl F_o0_chunk d9_79 rfl (fun T9 C9 => ?_)
  refine C9.iconst (0 : Int32) d9_82 rfl rfl ?_
  refine C9.aloadN d9_83 rfl rfl rfl ?_
  refine C9.iloadN d9_84 rfl rfl ?_
  refine C9.aloadN d9_85 rfl rfl rfl ?_
  refine C9.getF (host := "") (Or.inl (hw _ (List.mem_of_getElem? (i := 56) rfl))) Via.refl F_o0_used d9_86 rfl (fun T10 C10 => ?_)
  refine C10.acopy (us := ((List.range (y0).toNatClampNeg).map fun i => vs.getD (((0 : Int32)).toNatClampNeg + i) dv)) (hw _ (List.mem_of_getElem? (i := 115) rfl)) (hw _ (List.mem_of_getElem? (i := 118) rfl)) (hw _ (List.mem_of_getElem? (i := 116) rfl)) (hw _ (List.mem_of_getElem? (i := 117) rfl)) V_a1 V_b5 rfl (own_cpy9_0 o0 bl a1 y0 k1 vs dv hy) (own_cpy9_0 o0 bl a1 y0 k1 vs dv hy) (own_cpy9_1 o0 bl a1 y0 k1 vs dv hy) (own_cpy9_2 o0 bl a1 y0 k1 vs dv hy) (own_cpy9_3 o0 bl a1 y0 k1 vs dv hy) rfl (own_cpy9_4 o0 bl a1 y0 k1 vs dv hy) g_b5 rfl (by decide) 0 (Nat.le_of_eq rfl) (by decide) d9_89 rfl (fun T11 h11 C11 K11 Vn11 => ?_)
  have ne_bi7_b5 : bi7 ≠ b5 := (own_nea E_bi7 (hw _ (List.mem_of_getElem? (i := 88) rfl)) V_b5)
  have E_o0 := E_o0.keep K11
  have F_o0_full := F_o0_full.keep K11 (ninS ne_o0_b5 nin0)
  have F_o0_chunk := F_o0_chunk.keep K11 (ninS ne_o0_b5 nin0)
  have F_o0_used := F_o0_used.keep K11 (ninS ne_o0_b5 nin0)
  have E_bl := E_bl.keep K11
  have F_bl_modCount := F_bl_modCount.keep K11 (ninS ne_bl_b5 nin0)
  have F_bl_size := F_bl_size.keep K11 (ninS ne_bl_b5 nin0)
  have V_a1 := V_a1.keep K11 (ninS ne_a1_b5 nin0)
  have E_bi7 := E_bi7.keep K11
  have F_bi7_this_0 := F_bi7_this_0.keep K11 (ninS ne_bi7_b5 nin0)
  have F_bi7_cursor := F_bi7_cursor.keep K11 (ninS ne_bi7_b5 nin0)
  have KP := KP.trans K11 (allS (Or.inr sz_b5) (all0))
  have V_b5 := Vn11
  refine C11.aloadN d9_92 rfl rfl rfl ?_
  exact C11.retA d9_93 rfl rfl rfl (by decide) (by decide) ⟨b5, k5, rfl, KP, V_b5, g_b5⟩
set_option maxRecDepth 65536 in
set_option maxHeartbeats 40000000 in
theorem own_bad0 (i0 : Int32) (i1 : Int32) (de : Addr) (u1 : Int32) (hu1 : u1 = (if (i1 &&& (1 : Int32)) = (0 : Int32) then (0 : Int32) else (1 : Int32))) (c27 : ¬ u1 = (0 : Int32)) (c79 : ¬ (nar .byte (i0.toInt8.toInt32)) = (i0.toInt8.toInt32)) : False := by
  first | (exact c79 (own_narb i0)) | exact c64 rfl | (simp_all; done)
theorem pn0 : plainName "com/example/exdate/exdate/OutputBufferWritesToFilePinLaw" = true := by first | (simp [plainName, overriddenIn]; done) | decide +kernel
theorem ef0 (m : MethodId) (i0 : Int32) (i1 : Int32) : entryFrame m #[(.int i0), (.int i1)] maxLocals = mkF m 0 #[.val (.int i0), .val (.int i1), .unset, .unset, .unset, .unset, .unset, .unset] [] := by first | (simp [entryFrame, mkF, argsToLocals, Value.category, maxLocals]; done) | rfl
set_option maxRecDepth 65536 in
set_option maxHeartbeats 40000000 in
theorem rm0 (l : Launch) (Z : State) (a0 : Array Value) (hw : ∀ d ∈ tables_1, d.before a0 Z = true) (i0 : Int32) (i1 : Int32) (de : Addr) (h0 : Heap) (n0 : Nat) (Z0 : n0 ≤ h0.size) (S_DEFAULTCAPACITY_EMPTY_ELEMENTDATA : Sta Z h0 "java/util/ArrayList" "DEFAULTCAPACITY_EMPTY_ELEMENTDATA" "[Ljava/lang/Object;" (.ref de)) :
    Ctr l Z x code maxLocals ret room_1 #[(.int i0), (.int i1)] h0 n0 (fun v _ => v = some (.int (1 : Int32))) := by
  refine Ctr.body (L := #[.val (.int i0), .val (.int i1), .unset, .unset, .unset, .unset, .unset, .unset]) (plainFor_of_name pn0) Z0 (fun m => ef0 m i0 i1) ?_
  intro p e F m below meth c T0 C0
  refine C0.iloadN at_0 rfl rfl ?_
  refine C0.iconst (1 : Int32) at_1 rfl rfl ?_
  refine C0.iand at_2 rfl ?_
  have J11 : ∀ (T2 : State) (u1 : Int32), Cx p l e room_1 m #[(.int i0), (.int i1)] below meth c Z x code maxLocals ret n0 false F T2 h0 0 0 → u1 = (if (i1 &&& (1 : Int32)) = (0 : Int32) then (0 : Int32) else (1 : Int32)) → Go p e below F n0 (fun v _ => v = some (.int (1 : Int32))) T2 (mkF m 11 #[.val (.int i0), .val (.int i1), .unset, .unset, .unset, .unset, .unset, .unset] [(.int u1)]) := by
    intro T2 u1 C2 hu1
    refine C2.istoreN at_11 rfl (L' := #[.val (.int i0), .val (.int i1), .val (.int u1), .unset, .unset, .unset, .unset, .unset]) rfl ?_
    refine C2.new (hw _ (List.mem_of_getElem? (i := 0) rfl)) (hw _ (List.mem_of_getElem? (i := 1) rfl)) (hw _ (List.mem_of_getElem? (i := 2) rfl)) at_12 rfl (by decide) (by decide) (fun T3 h3 b3 C3 e3 g_b3 E3 E_b3 D3 => ?_)
    have S_DEFAULTCAPACITY_EMPTY_ELEMENTDATA := S_DEFAULTCAPACITY_EMPTY_ELEMENTDATA.ext E3
    have F_b3_full : Fld Z h3 b3 "com/example/exdate/exdate/OutputBuffer" "full" "Ljava/util/List;" .null := D3 (Or.inr (hw _ (List.mem_of_getElem? (i := 37) rfl))) (ty := (.object "java/util/List")) (by decide)
    have F_b3_chunk : Fld Z h3 b3 "com/example/exdate/exdate/OutputBuffer" "chunk" "[B" .null := D3 (Or.inl (hw _ (List.mem_of_getElem? (i := 41) rfl))) (ty := (.array .byte)) (by decide)
    have F_b3_digits : Fld Z h3 b3 "com/example/exdate/exdate/OutputBuffer" "digits" "[B" .null := D3 (Or.inr (hw _ (List.mem_of_getElem? (i := 43) rfl))) (ty := (.array .byte)) (by decide)
    have F_b3_file : Fld Z h3 b3 "com/example/exdate/exdate/OutputBuffer" "file" "Lcom/example/exdate/exdate/OutputFile;" .null := D3 (Or.inr (hw _ (List.mem_of_getElem? (i := 45) rfl))) (ty := (.object "com/example/exdate/exdate/OutputFile")) (by decide)
    have F_b3_used : Fld Z h3 b3 "com/example/exdate/exdate/OutputBuffer" "used" "I" (.int (0 : Int32)) := D3 (Or.inl (hw _ (List.mem_of_getElem? (i := 57) rfl))) (ty := .int) (by decide)
    refine C3.dup at_15 rfl rfl ?_
    refine C3.callN rfl (hw _ (List.mem_of_getElem? (i := 3) rfl)) (hw _ (List.mem_of_getElem? (i := 4) rfl)) (hw _ (List.mem_of_getElem? (i := 2) rfl)) (hw _ (List.mem_of_getElem? (i := 5) rfl)) (by decide) (a := b3) (rm1 l Z a0 hw b3 de .null .null .null .null h3 n0 C3.size E_b3 F_b3_full F_b3_chunk F_b3_digits F_b3_file F_b3_used g_b3 S_DEFAULTCAPACITY_EMPTY_ELEMENTDATA) (argsL := []) pd1 rfl 1 (by decide) (by decide) (by decide) (by decide) (rest := [(.ref b3)]) rfl rfl (Nat.le_of_eq rfl) at_16 rfl (fun v4 T4 h4 C4 qq4 => ?_)
    obtain ⟨bl4, bc4, kc4, rfl, K4, p4_0, p4_1, p4_2, p4_3, p4_4, p4_5, p4_6, p4_7, p4_8, p4_9, p4_10⟩ := qq4
    have S_DEFAULTCAPACITY_EMPTY_ELEMENTDATA := own_stak S_DEFAULTCAPACITY_EMPTY_ELEMENTDATA K4 (allS (own_plainE E_b3) (all0))
    have E_b3 := E_b3.keep K4
    have E_b3 := p4_0
    have F_b3_full := p4_1
    have F_b3_chunk := p4_2
    have F_b3_file := p4_3
    have F_b3_used := p4_4
    have E_bl4 := p4_5
    have F_bl4_modCount := p4_6
    have F_bl4_size := p4_7
    have V_bc4 := p4_8
    have g_bl4 := p4_9
    have g_bc4 := p4_10
    show Go p e below F n0 (fun v _ => v = some (.int (1 : Int32))) T4 (mkF m 19 #[.val (.int i0), .val (.int i1), .val (.int u1), .unset, .unset, .unset, .unset, .unset] [(.ref b3)])
    refine C4.astoreN at_19 rfl rfl (L' := #[.val (.int i0), .val (.int i1), .val (.int u1), .val (.ref b3), .unset, .unset, .unset, .unset]) rfl ?_
    refine C4.aloadN at_20 rfl rfl rfl ?_
    refine C4.callV (hw _ (List.mem_of_getElem? (i := 46) rfl)) (hw _ (List.mem_of_getElem? (i := 47) rfl)) (hw _ (List.mem_of_getElem? (i := 49) rfl)) (hw _ (List.mem_of_getElem? (i := 48) rfl)) (hw _ (List.mem_of_getElem? (i := 2) rfl)) (hw _ (List.mem_of_getElem? (i := 50) rfl)) E_b3 (by decide) (a := b3) (rm7 l Z a0 hw b3 h4 n0 C4.size F_b3_file) (argsL := []) pd7 rfl 0 (by decide) (by decide) (by decide) (by decide) (rest := []) rfl rfl (Nat.le_of_eq rfl) at_21 rfl (fun v5 T5 h5 C5 qq5 => ?_)
    obtain ⟨rfl, hh5⟩ := qq5
    have hh5 := hh5.symm; subst hh5
    show Go p e below F n0 (fun v _ => v = some (.int (1 : Int32))) T5 (mkF m 24 #[.val (.int i0), .val (.int i1), .val (.int u1), .val (.ref b3), .unset, .unset, .unset, .unset] [(.int (0 : Int32))])
    refine C5.istore at_24 rfl (L' := #[.val (.int i0), .val (.int i1), .val (.int u1), .val (.ref b3), .val (.int (0 : Int32)), .unset, .unset, .unset]) rfl ?_
    refine C5.iloadN at_26 rfl rfl ?_
    refine C5.if_eq at_27 (by decide) (by decide : _ = 36) rfl (fun c27 => ?_) (fun c27 => ?_)
    · refine C5.aloadN at_36 rfl rfl rfl ?_
      refine C5.callV (hw _ (List.mem_of_getElem? (i := 46) rfl)) (hw _ (List.mem_of_getElem? (i := 47) rfl)) (hw _ (List.mem_of_getElem? (i := 49) rfl)) (hw _ (List.mem_of_getElem? (i := 48) rfl)) (hw _ (List.mem_of_getElem? (i := 2) rfl)) (hw _ (List.mem_of_getElem? (i := 50) rfl)) E_b3 (by decide) (a := b3) (rm7 l Z a0 hw b3 h4 n0 C5.size F_b3_file) (argsL := []) pd7 rfl 0 (by decide) (by decide) (by decide) (by decide) (rest := []) rfl rfl (Nat.le_of_eq rfl) at_37 rfl (fun v6 T6 h6 C6 qq6 => ?_)
      obtain ⟨rfl, hh6⟩ := qq6
      have hh6 := hh6.symm; subst hh6
      show Go p e below F n0 (fun v _ => v = some (.int (1 : Int32))) T6 (mkF m 40 #[.val (.int i0), .val (.int i1), .val (.int u1), .val (.ref b3), .val (.int (0 : Int32)), .unset, .unset, .unset] [(.int (0 : Int32))])
      refine C6.istore at_40 rfl (L' := #[.val (.int i0), .val (.int i1), .val (.int u1), .val (.ref b3), .val (.int (0 : Int32)), .val (.int (0 : Int32)), .unset, .unset]) rfl ?_
      refine C6.aloadN at_42 rfl rfl rfl ?_
      refine C6.callV (hw _ (List.mem_of_getElem? (i := 58) rfl)) (hw _ (List.mem_of_getElem? (i := 59) rfl)) (hw _ (List.mem_of_getElem? (i := 61) rfl)) (hw _ (List.mem_of_getElem? (i := 60) rfl)) (hw _ (List.mem_of_getElem? (i := 2) rfl)) (hw _ (List.mem_of_getElem? (i := 62) rfl)) E_b3 (by decide) (a := b3) (rm9 l Z a0 hw b3 bl4 bc4 (0 : Int32) kc4 (List.replicate 65536 (.int (0 : Int32))) (.int (0 : Int32)) h4 n0 C6.size E_b3 F_b3_full F_b3_chunk F_b3_used E_bl4 F_bl4_modCount F_bl4_size V_bc4 (Or.inl rfl)) (argsL := []) pd9 rfl 0 (by decide) (by decide) (by decide) (by decide) (rest := []) rfl rfl (Nat.le_of_eq rfl) at_43 rfl (fun v7 T7 h7 C7 qq7 => ?_)
      obtain ⟨bo7, ko7, rfl, K7, p7_0, p7_1⟩ := qq7
      have K7 := ext_keep K7
      have S_DEFAULTCAPACITY_EMPTY_ELEMENTDATA := S_DEFAULTCAPACITY_EMPTY_ELEMENTDATA.ext K7
      have E_b3 := E_b3.ext K7
      have F_b3_full := F_b3_full.ext K7
      have F_b3_chunk := F_b3_chunk.ext K7
      have F_b3_file := F_b3_file.ext K7
      have F_b3_used := F_b3_used.ext K7
      have E_bl4 := E_bl4.ext K7
      have F_bl4_modCount := F_bl4_modCount.ext K7
      have F_bl4_size := F_bl4_size.ext K7
      have V_bc4 := V_bc4.ext K7
      have V_bo7 := p7_0
      have g_bo7 := p7_1
      show Go p e below F n0 (fun v _ => v = some (.int (1 : Int32))) T7 (mkF m 46 #[.val (.int i0), .val (.int i1), .val (.int u1), .val (.ref b3), .val (.int (0 : Int32)), .val (.int (0 : Int32)), .unset, .unset] [(.ref bo7)])
      refine C7.astore at_46 rfl rfl (L' := #[.val (.int i0), .val (.int i1), .val (.int u1), .val (.ref b3), .val (.int (0 : Int32)), .val (.int (0 : Int32)), .val (.ref bo7), .unset]) rfl ?_
      refine C7.iloadN at_48 rfl rfl ?_
      refine C7.if_eq at_49 (by decide) (by decide : _ = 56) rfl (fun _ => ?_) (fun q => absurd c27 q)
      refine C7.iconst (0 : Int32) at_56 rfl rfl ?_
      refine C7.istore at_57 rfl (L' := #[.val (.int i0), .val (.int i1), .val (.int u1), .val (.ref b3), .val (.int (0 : Int32)), .val (.int (0 : Int32)), .val (.ref bo7), .val (.int (0 : Int32))]) rfl ?_
      refine C7.aload at_59 rfl rfl rfl ?_
      refine C7.arrlen V_bo7 at_61 rfl ?_
      refine C7.iload at_62 rfl rfl ?_
      refine C7.icmp_eq at_64 (by decide) (by decide : _ = 69) rfl (fun _ => ?_) (fun q => absurd (by decide) q)
      refine C7.iloadN at_69 rfl rfl ?_
      refine C7.if_eq at_70 (by decide) (by decide : _ = 84) rfl (fun _ => ?_) (fun q => absurd c27 q)
      refine C7.iload at_84 rfl rfl ?_
      refine C7.if_ne at_86 (by decide) (by decide : _ = 98) rfl (fun q => absurd (by decide) q) (fun _ => ?_)
      refine C7.iload at_89 rfl rfl ?_
      refine C7.if_ne at_91 (by decide) (by decide : _ = 98) rfl (fun q => absurd (by decide) q) (fun _ => ?_)
      refine C7.iconst (1 : Int32) at_94 rfl rfl ?_
      refine C7.goto at_95 (by decide) (by decide : _ = 99) ?_
      exact C7.retN (t := .boolean) at_99 rfl (by simp) (by decide) (by decide) (w := (1 : Int32)) rfl rfl
    · refine C5.aloadN at_30 rfl rfl rfl ?_
      refine C5.iloadN at_31 rfl rfl ?_
      refine C5.i2b at_32 rfl ?_
      refine C5.callV (hw _ (List.mem_of_getElem? (i := 51) rfl)) (hw _ (List.mem_of_getElem? (i := 52) rfl)) (hw _ (List.mem_of_getElem? (i := 54) rfl)) (hw _ (List.mem_of_getElem? (i := 53) rfl)) (hw _ (List.mem_of_getElem? (i := 2) rfl)) (hw _ (List.mem_of_getElem? (i := 55) rfl)) E_b3 (by decide) (a := b3) (rm8 l Z a0 hw b3 (i0.toInt8.toInt32) bc4 (.ref bl4) .null kc4 (List.replicate 65536 (.int (0 : Int32))) (.int (0 : Int32)) h4 n0 C5.size E_b3 F_b3_full F_b3_file F_b3_used F_b3_chunk V_bc4 g_b3 g_bc4 own_rl) (argsL := [(.int (i0.toInt8.toInt32))]) pd8 rfl 0 (by decide) (by decide) (by decide) (by decide) (rest := []) rfl rfl (Nat.le_of_eq rfl) at_33 rfl (fun v8 T8 h8 C8 qq8 => ?_)
      obtain ⟨rfl, K8, p8_0, p8_1, p8_2, p8_3, p8_4, p8_5⟩ := qq8
      have ne_bl4_b3 : bl4 ≠ b3 := (ne_exa E_bl4 E_b3 (by decide))
      have ne_bl4_bc4 : bl4 ≠ bc4 := (own_nea E_bl4 (hw _ (List.mem_of_getElem? (i := 13) rfl)) V_bc4)
      have S_DEFAULTCAPACITY_EMPTY_ELEMENTDATA := own_stak S_DEFAULTCAPACITY_EMPTY_ELEMENTDATA K8 (allS (own_plainE E_b3) (allS (own_plainV V_bc4) (all0)))
      have E_b3 := E_b3.keep K8
      have E_bl4 := E_bl4.keep K8
      have F_bl4_modCount := F_bl4_modCount.keep K8 (ninS ne_bl4_b3 (ninS ne_bl4_bc4 nin0))
      have F_bl4_size := F_bl4_size.keep K8 (ninS ne_bl4_b3 (ninS ne_bl4_bc4 nin0))
      have E_b3 := p8_0
      have F_b3_full := p8_1
      have F_b3_file := p8_2
      have F_b3_used := p8_3
      have F_b3_chunk := p8_4
      have V_bc4 := p8_5
      show Go p e below F n0 (fun v _ => v = some (.int (1 : Int32))) T8 (mkF m 36 #[.val (.int i0), .val (.int i1), .val (.int u1), .val (.ref b3), .val (.int (0 : Int32)), .unset, .unset, .unset] [])
      refine C8.aloadN at_36 rfl rfl rfl ?_
      refine C8.callV (hw _ (List.mem_of_getElem? (i := 46) rfl)) (hw _ (List.mem_of_getElem? (i := 47) rfl)) (hw _ (List.mem_of_getElem? (i := 49) rfl)) (hw _ (List.mem_of_getElem? (i := 48) rfl)) (hw _ (List.mem_of_getElem? (i := 2) rfl)) (hw _ (List.mem_of_getElem? (i := 50) rfl)) E_b3 (by decide) (a := b3) (rm7 l Z a0 hw b3 h8 n0 C8.size F_b3_file) (argsL := []) pd7 rfl 0 (by decide) (by decide) (by decide) (by decide) (rest := []) rfl rfl (Nat.le_of_eq rfl) at_37 rfl (fun v9 T9 h9 C9 qq9 => ?_)
      obtain ⟨rfl, hh9⟩ := qq9
      have hh9 := hh9.symm; subst hh9
      show Go p e below F n0 (fun v _ => v = some (.int (1 : Int32))) T9 (mkF m 40 #[.val (.int i0), .val (.int i1), .val (.int u1), .val (.ref b3), .val (.int (0 : Int32)), .unset, .unset, .unset] [(.int (0 : Int32))])
      refine C9.istore at_40 rfl (L' := #[.val (.int i0), .val (.int i1), .val (.int u1), .val (.ref b3), .val (.int (0 : Int32)), .val (.int (0 : Int32)), .unset, .unset]) rfl ?_
      refine C9.aloadN at_42 rfl rfl rfl ?_
      refine C9.callV (hw _ (List.mem_of_getElem? (i := 58) rfl)) (hw _ (List.mem_of_getElem? (i := 59) rfl)) (hw _ (List.mem_of_getElem? (i := 61) rfl)) (hw _ (List.mem_of_getElem? (i := 60) rfl)) (hw _ (List.mem_of_getElem? (i := 2) rfl)) (hw _ (List.mem_of_getElem? (i := 62) rfl)) E_b3 (by decide) (a := b3) (rm9 l Z a0 hw b3 bl4 bc4 (1 : Int32) kc4 ((List.replicate 65536 (.int (0 : Int32))).set 0 (.int (nar .byte (i0.toInt8.toInt32)))) (.int (0 : Int32)) h8 n0 C9.size E_b3 F_b3_full F_b3_chunk F_b3_used E_bl4 F_bl4_modCount F_bl4_size V_bc4 (Or.inr rfl)) (argsL := []) pd9 rfl 0 (by decide) (by decide) (by decide) (by decide) (rest := []) rfl rfl (Nat.le_of_eq rfl) at_43 rfl (fun v10 T10 h10 C10 qq10 => ?_)
      obtain ⟨bo10, ko10, rfl, K10, p10_0, p10_1⟩ := qq10
      have K10 := ext_keep K10
      have S_DEFAULTCAPACITY_EMPTY_ELEMENTDATA := S_DEFAULTCAPACITY_EMPTY_ELEMENTDATA.ext K10
      have E_b3 := E_b3.ext K10
      have E_bl4 := E_bl4.ext K10
      have F_bl4_modCount := F_bl4_modCount.ext K10
      have F_bl4_size := F_bl4_size.ext K10
      have F_b3_full := F_b3_full.ext K10
      have F_b3_file := F_b3_file.ext K10
      have F_b3_used := F_b3_used.ext K10
      have F_b3_chunk := F_b3_chunk.ext K10
      have V_bc4 := V_bc4.ext K10
      have V_bo10 := p10_0
      have g_bo10 := p10_1
      show Go p e below F n0 (fun v _ => v = some (.int (1 : Int32))) T10 (mkF m 46 #[.val (.int i0), .val (.int i1), .val (.int u1), .val (.ref b3), .val (.int (0 : Int32)), .val (.int (0 : Int32)), .unset, .unset] [(.ref bo10)])
      refine C10.astore at_46 rfl rfl (L' := #[.val (.int i0), .val (.int i1), .val (.int u1), .val (.ref b3), .val (.int (0 : Int32)), .val (.int (0 : Int32)), .val (.ref bo10), .unset]) rfl ?_
      refine C10.iloadN at_48 rfl rfl ?_
      refine C10.if_eq at_49 (by decide) (by decide : _ = 56) rfl (fun q => absurd q c27) (fun _ => ?_)
      refine C10.iconst (1 : Int32) at_52 rfl rfl ?_
      refine C10.goto at_53 (by decide) (by decide : _ = 57) ?_
      refine C10.istore at_57 rfl (L' := #[.val (.int i0), .val (.int i1), .val (.int u1), .val (.ref b3), .val (.int (0 : Int32)), .val (.int (0 : Int32)), .val (.ref bo10), .val (.int (1 : Int32))]) rfl ?_
      refine C10.aload at_59 rfl rfl rfl ?_
      refine C10.arrlen V_bo10 at_61 rfl ?_
      refine C10.iload at_62 rfl rfl ?_
      refine C10.icmp_eq at_64 (by decide) (by decide : _ = 69) rfl (fun _ => ?_) (fun q => absurd (by decide) q)
      refine C10.iloadN at_69 rfl rfl ?_
      refine C10.if_eq at_70 (by decide) (by decide : _ = 84) rfl (fun q => absurd q c27) (fun _ => ?_)
      refine C10.aload at_73 rfl rfl rfl ?_
      refine C10.iconst (0 : Int32) at_75 rfl rfl ?_
      refine C10.baload (v := (nar .byte (i0.toInt8.toInt32))) V_bo10 ⟨by decide, by decide⟩ (own_cp0 own_rl) at_76 rfl ?_
      refine C10.iloadN at_77 rfl rfl ?_
      refine C10.i2b at_78 rfl ?_
      refine C10.icmp_eq at_79 (by decide) (by decide : _ = 84) rfl (fun c79 => ?_) (fun c79 => ?_)
      · refine C10.iload at_84 rfl rfl ?_
        refine C10.if_ne at_86 (by decide) (by decide : _ = 98) rfl (fun q => absurd (by decide) q) (fun _ => ?_)
        refine C10.iload at_89 rfl rfl ?_
        refine C10.if_ne at_91 (by decide) (by decide : _ = 98) rfl (fun q => absurd (by decide) q) (fun _ => ?_)
        refine C10.iconst (1 : Int32) at_94 rfl rfl ?_
        refine C10.goto at_95 (by decide) (by decide : _ = 99) ?_
        exact C10.retN (t := .boolean) at_99 rfl (by simp) (by decide) (by decide) (w := (1 : Int32)) rfl rfl
      · refine C10.iconst (0 : Int32) at_82 rfl rfl ?_
        exact (own_bad0 i0 i1 de u1 hu1 c27 c79).elim
  refine C0.if_eq at_3 (by decide) (by decide : _ = 10) rfl (fun c3 => ?_) (fun c3 => ?_)
  · refine C0.iconst (0 : Int32) at_10 rfl rfl ?_
    exact J11 _ (0 : Int32) C0 (by simp only [if_pos c3])
  · refine C0.iconst (1 : Int32) at_6 rfl rfl ?_
    refine C0.goto at_7 (by decide) (by decide : _ = 11) ?_
    exact J11 _ (1 : Int32) C0 (by simp only [if_neg c3])
set_option maxRecDepth 65536 in
set_option maxHeartbeats 40000000 in
theorem comes_1 {Post : Tables → Env → Array Value → State → Outcome → State → Prop} (hpost : ∀ tb e args s v u, (limb_1_1.after args s (.returned v) u = true ∧ limb_1_2.after args s (.returned v) u = true ∧ True) → FrameEnd s (.returned v) u (Jvm.fieldLocs frame_1_writes args s ++ Jvm.arrayLocs frame_1_arrays args s ++ Jvm.staticLocs frame_1_statics s) 24 131456 → Post tb e args s (.returned v) u) :
    ArmFor flags0 classFile x code maxLocals ret World_1 tables_1 room_1 Calls_1 rest_1 Pre_1 Post := by
  intro l hfl _ _ p e ha hc hk s m args below hf hA hF happ hP
  obtain ⟨hcalls, hrest, hpre⟩ := hP
  obtain ⟨-, -, -, hnamed, -, -, -, hat⟩ := (Spec.applies_iff hf).mp happ
  obtain ⟨hg, hn⟩ := and_e (Cond.before_iff.mp (show (Jvm.Cond.and given_1 narrow_1).before args s = true from hpre))
  obtain ⟨g1, g2⟩ := and_e hg
  obtain ⟨g3, g4⟩ := and_e g2
  obtain ⟨w0, w1, rfl⟩ : ∃ w0 w1 : Value, args = #[w0, w1] := by
    have hs : args.size = 2 := by simpa [Cond.value, given_1] using g1
    obtain ⟨L⟩ := args
    match L, hs with
    | [w0, w1], _ => exact ⟨w0, w1, rfl⟩
  have hw := fun d (hd : d ∈ tables_1) => atoms_spec (ws := Jvm.Cond.code x code maxLocals ret :: tables_1) hat d (List.mem_cons_of_mem _ hd)
  have hfit : Fit s := fun {y c} hc i hi => by
    obtain ⟨ha, rfl⟩ := Array.getElem?_eq_some_iff.mp hc
    have q := List.all_eq_true.mp ((Array.all_eq_true_iff_forall_mem.mp hF) _ (Array.getElem_mem ha)) i (List.mem_range.mpr hi)
    simpa [Array.getElem?_eq_getElem hi] using q
  obtain ⟨hsets, hown0⟩ := atoms_of _ (rest_1_c_eq ▸ (show rest_1_c.before _ s = true from hrest))
  have hr0 := Cond.before_iff.mp hown0
  obtain ⟨i0, ei0⟩ := is_v g3
  obtain rfl : w0 = (.int i0) := Option.some.inj ei0
  obtain ⟨i1, ei1⟩ := is_v g4
  obtain rfl : w1 = (.int i1) := Option.some.inj ei1
  obtain ⟨de, ev1⟩ := exa_v (Cond.before_iff.mp (hsets _ (List.mem_of_getElem? (i := 7) rfl)))
  have S1 := Sta.start ev1 (Or.inr ⟨hw _ (List.mem_of_getElem? (i := 14) rfl), hsets _ (List.mem_of_getElem? (i := 2) rfl)⟩)
  obtain ⟨n, o, h1, h2, h3, _, L, rfl, ⟨⟨rfl, -⟩, N⟩, hq⟩ := rm0 l s _ hw i0 i1 de s.heap s.heap.size (Nat.le_refl _) S1 tables_1 p e ha hc hk s m _ below hf ((Spec.applies_iff_loose hf).mp happ).1 ⟨rfl, State.Warmed39.refl s, rfl⟩ trivial
  refine ⟨n, _, h1, h2, h3, hpost _ _ _ _ _ _ ⟨Cond.after_iff.mpr rfl, Cond.after_iff.mpr (eq_i res_at (Term.int_eval (1)) rfl), trivial⟩ ⟨hq.1, hq.2.1, (hq.2.2.sift fun y hy => Or.inr (N y hy)).mono (by decide) (by decide)⟩⟩
theorem main_1_1 : Claimed_1_1 := comes_1 fun _ _ _ _ _ _ h hF => ⟨h.1, hF⟩
theorem main_1_2 : Claimed_1_2 := comes_1 fun _ _ _ _ _ _ h hF => ⟨h.2.1, hF⟩
end Jvm.Pilot.@@N@@
namespace Jvm.Pilot.@@N@@
open Jvm Jvm.ClassFile Sem Op Lib Jvm.Free Jvm.Stand Jvm.Pilot.@@N@@.Jvm.D
/-! MADE BY PROGRAM (witnessworld.py) out of the Statement's table words and the real class files: 22 classes; the members and pool entries that the words name. The judged class is class 1, her method 1. -/
namespace start1
open Jvm.ClassFile
def u (s : String) : CpInfo := .utf8 (stringToUtf16 s)
/-- a pool by its gaps: so many unusable entries, then the entry; so many at the end -/
def gap : Nat → List CpInfo → List CpInfo
  | 0, r => r
  | n + 1, r => .unusable :: gap n r
def poolList (es : List (Nat × CpInfo)) (last : Nat) : List CpInfo := es.foldr (fun e r => gap e.1 (e.2 :: r)) (gap last [])
def pool (es : List (Nat × CpInfo)) (last : Nat) : Array CpInfo := ⟨poolList es last⟩
def fileOf (pool : Array CpInfo) (this : Nat) (attrs : Array Attribute := #[]) (ms : Array MethodInfo := #[]) (fl : Nat := 33) (sup : Nat := 0) (ifs : Array Nat := #[]) (fds : Array FieldInfo := #[]) : ClassFile where
  minorVersion := 0
  majorVersion := 65
  constantPool := pool
  accessFlags := fl
  thisClass := this
  superClass := sup
  interfaces := ifs
  fields := fds
  methods := ms
  attributes := attrs
def plain (name : String) (sup : Option ClassId) : Class where
  name := name
  kind := .ordinary
  loader := none
  accessFlags := 33
  super := sup
  interfaces := #[]
  cf := none
  fields := #[]
  methods := #[]
  instanceTypes := #[]
  staticTypes := #[]
  resolved := #[]
  callSites := []
  init := .initialized
  statics := none
  mirror := none

def pool0 : Array CpInfo := pool [(5, u "<init>"), (0, u "()V"), (1, .class_ 10), (1, u "java/lang/Object")] 113

def k0c0 : Code := { maxStack := 0, maxLocals := 1, code := object_method_1_code, exceptionTable := #[], attributes := #[] }
def k0m0 : Method := { name := "<init>", desc := "()V", sig := { parameters := [], returnType := none }, accessFlags := 1, code := some k0c0 }
/-- java/lang/Object -/
def k0 : Class := { plain "java/lang/Object" none with
  accessFlags := 33
  interfaces := #[]
  cf := some (fileOf pool0 8 #[] #[{ accessFlags := 1, nameIndex := 5, descriptorIndex := 6, attributes := #[] }] 33 0 #[] #[])
  fields := #[]
  methods := #[k0m0]
  instanceTypes := #[]
  staticTypes := #[]
  resolved := Array.replicate 124 none
  statics := none }

def pool1 : Array CpInfo := pool [(2, .class_ 4), (0, .nameAndType 5 6), (0, u "java/lang/Object"), (0, u "<init>"), (0, u "()V"), (0, .class_ 8), (0, u "com/example/exdate/exdate/OutputBuffer"), (0, .methodref 7 3), (0, .methodref 7 11), (0, .nameAndType 12 13), (0, u "writesToFile"), (0, u "()Z"), (0, .methodref 7 15), (0, .nameAndType 16 17), (0, u "write"), (0, u "(B)V"), (0, .methodref 7 19), (0, .nameAndType 20 21), (0, u "toByteArray"), (0, u "()[B"), (0, .class_ 23), (0, u "com/example/exdate/exdate/OutputBufferWritesToFilePinLaw"), (2, u "law"), (0, u "(II)Z")] 5

def k1m0 : Method := { name := "<init>", desc := "()V", sig := { parameters := [], returnType := none }, accessFlags := 2, code := none }
def k1c1 : Code := { maxStack := 2, maxLocals := 8, code := code, exceptionTable := #[], attributes := #[] }
def k1m1 : Method := { name := "law", desc := "(II)Z", sig := { parameters := [.int, .int], returnType := some .boolean }, accessFlags := 9, code := some k1c1 }
/-- com/example/exdate/exdate/OutputBufferWritesToFilePinLaw -/
def k1 : Class := { plain "com/example/exdate/exdate/OutputBufferWritesToFilePinLaw" (some 0) with
  accessFlags := 49
  interfaces := #[]
  cf := some (fileOf pool1 22 #[] #[{ accessFlags := 2, nameIndex := 5, descriptorIndex := 6, attributes := #[] }, { accessFlags := 9, nameIndex := 26, descriptorIndex := 27, attributes := #[] }] 49 2 #[] #[])
  fields := #[]
  methods := #[k1m0, k1m1]
  instanceTypes := #[]
  staticTypes := #[]
  resolved := Array.replicate 33 none
  statics := none }

def pool2 : Array CpInfo := pool [(1, .methodref 2 3), (0, .class_ 4), (0, .nameAndType 5 6), (0, u "com/example/exdate/exdate/OutputBuffer"), (0, u "<init>"), (0, u "(Lcom/example/exdate/exdate/OutputFile;)V"), (0, .methodref 8 9), (0, .class_ 10), (0, .nameAndType 5 11), (0, u "java/lang/Object"), (0, u "()V"), (0, .class_ 13), (0, u "java/util/ArrayList"), (0, .methodref 12 9), (0, .fieldref 2 16), (0, .nameAndType 17 18), (0, u "full"), (0, u "Ljava/util/List;"), (0, .integer 65536), (0, .fieldref 2 21), (0, .nameAndType 22 23), (0, u "chunk"), (0, u "[B"), (2, .fieldref 2 27), (0, .nameAndType 28 23), (0, u "digits"), (0, .fieldref 2 30), (0, .nameAndType 31 32), (0, u "file"), (0, u "Lcom/example/exdate/exdate/OutputFile;"), (0, .fieldref 2 34), (0, .nameAndType 35 36), (0, u "used"), (0, u "I"), (4, .methodref 42 43), (0, .class_ 44), (0, .nameAndType 45 46), (0, u "java/lang/System"), (0, u "arraycopy"), (0, u "(Ljava/lang/Object;ILjava/lang/Object;II)V"), (8, u "()I"), (16, u "write"), (18, u "()Z"), (8, u "toByteArray"), (0, u "()[B"), (3, .interfaceMethodref 106 107), (0, .class_ 108), (0, .nameAndType 109 55), (0, u "java/util/List"), (0, u "size"), (0, .long 65536), (1, .methodref 113 114), (0, .class_ 115), (0, .nameAndType 116 117), (0, u "java/lang/Math"), (0, u "toIntExact"), (0, u "(J)I"), (0, .interfaceMethodref 106 119), (0, .nameAndType 120 121), (0, u "iterator"), (0, u "()Ljava/util/Iterator;"), (0, .interfaceMethodref 123 124), (0, .class_ 125), (0, .nameAndType 126 91), (0, u "java/util/Iterator"), (0, u "hasNext"), (9, u "CHUNK"), (6, u "(B)V"), (1, u "writesToFile")] 2

def k2c0 : Code := { maxStack := 2, maxLocals := 1, code := prog_17_method_1_code, exceptionTable := #[], attributes := #[] }
def k2m0 : Method := { name := "<init>", desc := "()V", sig := { parameters := [], returnType := none }, accessFlags := 0, code := some k2c0 }
def k2c1 : Code := { maxStack := 3, maxLocals := 2, code := prog_17_method_2_code, exceptionTable := #[], attributes := #[] }
def k2m1 : Method := { name := "<init>", desc := "(Lcom/example/exdate/exdate/OutputFile;)V", sig := { parameters := [(.object "com/example/exdate/exdate/OutputFile")], returnType := none }, accessFlags := 0, code := some k2c1 }
def k2c2 : Code := { maxStack := 5, maxLocals := 2, code := prog_17_method_4_code, exceptionTable := #[], attributes := #[] }
def k2m2 : Method := { name := "write", desc := "(B)V", sig := { parameters := [.byte], returnType := none }, accessFlags := 0, code := some k2c2 }
def k2c3 : Code := { maxStack := 1, maxLocals := 1, code := prog_17_method_7_code, exceptionTable := #[], attributes := #[] }
def k2m3 : Method := { name := "writesToFile", desc := "()Z", sig := { parameters := [], returnType := some .boolean }, accessFlags := 0, code := some k2c3 }
def k2c4 : Code := { maxStack := 5, maxLocals := 5, code := prog_17_method_9_code, exceptionTable := #[], attributes := #[] }
def k2m4 : Method := { name := "toByteArray", desc := "()[B", sig := { parameters := [], returnType := some (.array .byte) }, accessFlags := 0, code := some k2c4 }
/-- com/example/exdate/exdate/OutputBuffer -/
def k2 : Class := { plain "com/example/exdate/exdate/OutputBuffer" (some 0) with
  accessFlags := 48
  interfaces := #[]
  cf := some (fileOf pool2 2 #[] #[{ accessFlags := 0, nameIndex := 5, descriptorIndex := 11, attributes := #[] }, { accessFlags := 0, nameIndex := 5, descriptorIndex := 6, attributes := #[] }, { accessFlags := 0, nameIndex := 72, descriptorIndex := 143, attributes := #[] }, { accessFlags := 0, nameIndex := 145, descriptorIndex := 91, attributes := #[] }, { accessFlags := 0, nameIndex := 100, descriptorIndex := 101, attributes := #[] }] 48 8 #[] #[{ accessFlags := 26, nameIndex := 136, descriptorIndex := 36, attributes := #[] }, { accessFlags := 18, nameIndex := 31, descriptorIndex := 32, attributes := #[] }, { accessFlags := 18, nameIndex := 17, descriptorIndex := 18, attributes := #[] }, { accessFlags := 2, nameIndex := 22, descriptorIndex := 23, attributes := #[] }, { accessFlags := 2, nameIndex := 35, descriptorIndex := 36, attributes := #[] }, { accessFlags := 18, nameIndex := 28, descriptorIndex := 23, attributes := #[] }])
  fields := #[{ name := "CHUNK", type := .int, accessFlags := 26, slot := 0, constantValue := 0 }, { name := "file", type := (.object "com/example/exdate/exdate/OutputFile"), accessFlags := 18, slot := 0, constantValue := 0 }, { name := "full", type := (.object "java/util/List"), accessFlags := 18, slot := 1, constantValue := 0 }, { name := "chunk", type := (.array .byte), accessFlags := 2, slot := 2, constantValue := 0 }, { name := "used", type := .int, accessFlags := 2, slot := 3, constantValue := 0 }, { name := "digits", type := (.array .byte), accessFlags := 18, slot := 4, constantValue := 0 }]
  methods := #[k2m0, k2m1, k2m2, k2m3, k2m4]
  instanceTypes := #[(.object "com/example/exdate/exdate/OutputFile"), (.object "java/util/List"), (.array .byte), .int, (.array .byte)]
  staticTypes := #[.int]
  resolved := Array.replicate 148 none
  statics := none }

def pool3 : Array CpInfo := pool [(8, .class_ 10), (1, u "java/lang/Iterable"), (24, .class_ 36), (0, u "java/lang/Object")] 25

/-- java/lang/Iterable -/
def k3 : Class := { plain "java/lang/Iterable" (some 0) with
  accessFlags := 1537
  interfaces := #[]
  cf := some (fileOf pool3 8 #[] #[] 1537 35 #[] #[])
  fields := #[]
  methods := #[]
  instanceTypes := #[]
  staticTypes := #[]
  resolved := Array.replicate 62 none
  statics := none }

def pool4 : Array CpInfo := pool [(10, .class_ 12), (1, u "java/util/Collection"), (47, .class_ 61), (0, u "java/lang/Object"), (0, .class_ 63), (0, u "java/lang/Iterable")] 51

/-- java/util/Collection -/
def k4 : Class := { plain "java/util/Collection" (some 0) with
  accessFlags := 1537
  interfaces := #[3]
  cf := some (fileOf pool4 10 #[] #[] 1537 60 #[62] #[])
  fields := #[]
  methods := #[]
  instanceTypes := #[]
  staticTypes := #[]
  resolved := Array.replicate 115 none
  statics := none }

def pool5 : Array CpInfo := pool [(1, .methodref 2 3), (0, .class_ 4), (0, .nameAndType 5 6), (0, u "java/lang/Object"), (0, u "<init>"), (0, u "()V"), (1, .class_ 10), (1, u "java/util/AbstractCollection"), (66, .class_ 78), (0, u "java/util/Collection")] 81

def k5c0 : Code := { maxStack := 1, maxLocals := 1, code := jdk_22_method_1_code, exceptionTable := #[], attributes := #[] }
def k5m0 : Method := { name := "<init>", desc := "()V", sig := { parameters := [], returnType := none }, accessFlags := 4, code := some k5c0 }
/-- java/util/AbstractCollection -/
def k5 : Class := { plain "java/util/AbstractCollection" (some 0) with
  accessFlags := 1057
  interfaces := #[4]
  cf := some (fileOf pool5 8 #[] #[{ accessFlags := 4, nameIndex := 5, descriptorIndex := 6, attributes := #[] }] 1057 2 #[77] #[])
  fields := #[]
  methods := #[k5m0]
  instanceTypes := #[]
  staticTypes := #[]
  resolved := Array.replicate 160 none
  statics := none }

def pool6 : Array CpInfo := pool [(8, .class_ 10), (1, u "java/util/SequencedCollection"), (15, .class_ 27), (0, u "java/lang/Object"), (0, .class_ 29), (0, u "java/util/Collection")] 27

/-- java/util/SequencedCollection -/
def k6 : Class := { plain "java/util/SequencedCollection" (some 0) with
  accessFlags := 1537
  interfaces := #[4]
  cf := some (fileOf pool6 8 #[] #[] 1537 26 #[28] #[])
  fields := #[]
  methods := #[]
  instanceTypes := #[]
  staticTypes := #[]
  resolved := Array.replicate 57 none
  statics := none }

def pool7 : Array CpInfo := pool [(8, .class_ 10), (1, u "java/util/List"), (68, u "size"), (0, u "()I"), (22, .class_ 104), (0, u "java/lang/Object"), (15, .class_ 121), (0, u "java/util/SequencedCollection"), (1, u "iterator"), (0, u "()Ljava/util/Iterator;")] 126

def k7m0 : Method := { name := "size", desc := "()I", sig := { parameters := [], returnType := some .int }, accessFlags := 1025, code := none }
def k7m1 : Method := { name := "iterator", desc := "()Ljava/util/Iterator;", sig := { parameters := [], returnType := some (.object "java/util/Iterator") }, accessFlags := 1025, code := none }
/-- java/util/List -/
def k7 : Class := { plain "java/util/List" (some 0) with
  accessFlags := 1537
  interfaces := #[6]
  cf := some (fileOf pool7 8 #[] #[{ accessFlags := 1025, nameIndex := 79, descriptorIndex := 80, attributes := #[] }, { accessFlags := 1025, nameIndex := 123, descriptorIndex := 124, attributes := #[] }] 1537 103 #[120] #[])
  fields := #[]
  methods := #[k7m0, k7m1]
  instanceTypes := #[]
  staticTypes := #[]
  resolved := Array.replicate 251 none
  statics := none }

def pool8 : Array CpInfo := pool [(1, .methodref 2 3), (0, .class_ 4), (0, .nameAndType 5 6), (0, u "java/util/AbstractCollection"), (0, u "<init>"), (0, u "()V"), (0, .fieldref 8 9), (0, .class_ 10), (0, .nameAndType 11 12), (0, u "java/util/AbstractList"), (0, u "modCount"), (0, u "I"), (64, .class_ 78), (0, u "java/util/AbstractList$Itr"), (3, .class_ 83), (0, u "java/util/AbstractList$ListItr"), (9, .class_ 94), (0, u "java/util/AbstractList$RandomAccessSubList"), (3, .class_ 99), (0, u "java/util/AbstractList$SubList"), (33, .class_ 134), (0, u "java/util/List"), (73, .class_ 209), (0, u "java/util/AbstractList$SubList$1"), (0, .class_ 211), (0, u "java/util/AbstractList$RandomAccessSpliterator")] 6

def k8c0 : Code := { maxStack := 2, maxLocals := 1, code := jdk_39_method_1_code, exceptionTable := #[], attributes := #[] }
def k8m0 : Method := { name := "<init>", desc := "()V", sig := { parameters := [], returnType := none }, accessFlags := 4, code := some k8c0 }
/-- java/util/AbstractList -/
def k8 : Class := { plain "java/util/AbstractList" (some 5) with
  accessFlags := 1057
  interfaces := #[7]
  cf := some (fileOf pool8 8 #[.nestMembers #[93, 98, 208, 210, 82, 77]] #[{ accessFlags := 4, nameIndex := 5, descriptorIndex := 6, attributes := #[] }] 1057 2 #[133] #[{ accessFlags := 132, nameIndex := 11, descriptorIndex := 12, attributes := #[] }])
  fields := #[{ name := "modCount", type := .int, accessFlags := 132, slot := 0, constantValue := 0 }]
  methods := #[k8m0]
  instanceTypes := #[.int]
  staticTypes := #[]
  resolved := Array.replicate 218 none
  statics := none }

def pool9 : Array CpInfo := pool [(1, .class_ 2), (0, u "java/util/RandomAccess"), (0, .class_ 4), (0, u "java/lang/Object")] 2

/-- java/util/RandomAccess -/
def k9 : Class := { plain "java/util/RandomAccess" (some 0) with
  accessFlags := 1537
  interfaces := #[]
  cf := some (fileOf pool9 1 #[] #[] 1537 3 #[] #[])
  fields := #[]
  methods := #[]
  instanceTypes := #[]
  staticTypes := #[]
  resolved := Array.replicate 7 none
  statics := none }

def pool10 : Array CpInfo := pool [(1, .class_ 2), (0, u "java/lang/Cloneable"), (0, .class_ 4), (0, u "java/lang/Object")] 2

/-- java/lang/Cloneable -/
def k10 : Class := { plain "java/lang/Cloneable" (some 0) with
  accessFlags := 1537
  interfaces := #[]
  cf := some (fileOf pool10 1 #[] #[] 1537 3 #[] #[])
  fields := #[]
  methods := #[]
  instanceTypes := #[]
  staticTypes := #[]
  resolved := Array.replicate 7 none
  statics := none }

def pool11 : Array CpInfo := pool [(1, .class_ 2), (0, u "java/io/Serializable"), (0, .class_ 4), (0, u "java/lang/Object")] 2

/-- java/io/Serializable -/
def k11 : Class := { plain "java/io/Serializable" (some 0) with
  accessFlags := 1537
  interfaces := #[]
  cf := some (fileOf pool11 1 #[] #[] 1537 3 #[] #[])
  fields := #[]
  methods := #[]
  instanceTypes := #[]
  staticTypes := #[]
  resolved := Array.replicate 7 none
  statics := none }

def pool12 : Array CpInfo := pool [(1, .methodref 2 3), (0, .class_ 4), (0, .nameAndType 5 6), (0, u "java/util/AbstractList"), (0, u "<init>"), (0, u "()V"), (2, .fieldref 10 11), (0, .class_ 12), (0, .nameAndType 13 14), (0, u "java/util/ArrayList"), (0, u "elementData"), (0, u "[Ljava/lang/Object;"), (2, u "EMPTY_ELEMENTDATA"), (21, .fieldref 10 40), (0, .nameAndType 41 14), (0, u "DEFAULTCAPACITY_EMPTY_ELEMENTDATA"), (6, .fieldref 10 49), (0, .nameAndType 50 51), (0, u "size"), (0, u "I"), (96, .class_ 149), (0, u "java/util/List"), (16, u "iterator"), (0, u "()Ljava/util/Iterator;"), (18, u "()I"), (75, .class_ 263), (0, u "java/util/ArrayList$ListItr"), (3, .class_ 268), (0, u "java/util/ArrayList$Itr"), (0, .methodref 267 270), (0, .nameAndType 5 271), (0, u "(Ljava/util/ArrayList;)V"), (4, .class_ 277), (0, u "java/util/ArrayList$SubList"), (12, .class_ 291), (0, u "java/util/ArrayList$ArrayListSpliterator"), (37, .class_ 330), (0, u "java/util/RandomAccess"), (0, .class_ 332), (0, u "java/lang/Cloneable"), (0, .class_ 334), (0, u "java/io/Serializable"), (0, u "serialVersionUID"), (0, u "J"), (3, u "DEFAULT_CAPACITY"), (159, .class_ 501), (0, u "java/util/ArrayList$SubList$2"), (0, .class_ 503), (0, u "java/util/ArrayList$SubList$1")] 5

def k12c0 : Code := { maxStack := 2, maxLocals := 1, code := jdk_38_method_2_code, exceptionTable := #[], attributes := #[] }
def k12m0 : Method := { name := "<init>", desc := "()V", sig := { parameters := [], returnType := none }, accessFlags := 1, code := some k12c0 }
def k12c1 : Code := { maxStack := 1, maxLocals := 1, code := jdk_38_method_8_code, exceptionTable := #[], attributes := #[] }
def k12m1 : Method := { name := "size", desc := "()I", sig := { parameters := [], returnType := some .int }, accessFlags := 1, code := some k12c1 }
def k12c2 : Code := { maxStack := 3, maxLocals := 1, code := jdk_38_method_55_code, exceptionTable := #[], attributes := #[] }
def k12m2 : Method := { name := "iterator", desc := "()Ljava/util/Iterator;", sig := { parameters := [], returnType := some (.object "java/util/Iterator") }, accessFlags := 1, code := some k12c2 }
/-- java/util/ArrayList -/
def k12 : Class := { plain "java/util/ArrayList" (some 8) with
  accessFlags := 33
  interfaces := #[7, 9, 10, 11]
  cf := some (fileOf pool12 10 #[.nestMembers #[290, 276, 500, 502, 262, 267]] #[{ accessFlags := 1, nameIndex := 5, descriptorIndex := 6, attributes := #[] }, { accessFlags := 1, nameIndex := 50, descriptorIndex := 186, attributes := #[] }, { accessFlags := 1, nameIndex := 166, descriptorIndex := 167, attributes := #[] }] 33 2 #[148, 329, 331, 333] #[{ accessFlags := 26, nameIndex := 335, descriptorIndex := 336, attributes := #[] }, { accessFlags := 26, nameIndex := 340, descriptorIndex := 51, attributes := #[] }, { accessFlags := 26, nameIndex := 17, descriptorIndex := 14, attributes := #[] }, { accessFlags := 26, nameIndex := 41, descriptorIndex := 14, attributes := #[] }, { accessFlags := 128, nameIndex := 13, descriptorIndex := 14, attributes := #[] }, { accessFlags := 2, nameIndex := 50, descriptorIndex := 51, attributes := #[] }])
  fields := #[{ name := "serialVersionUID", type := .long, accessFlags := 26, slot := 0, constantValue := 0 }, { name := "DEFAULT_CAPACITY", type := .int, accessFlags := 26, slot := 1, constantValue := 0 }, { name := "EMPTY_ELEMENTDATA", type := (.array (.object "java/lang/Object")), accessFlags := 26, slot := 2, constantValue := 0 }, { name := "DEFAULTCAPACITY_EMPTY_ELEMENTDATA", type := (.array (.object "java/lang/Object")), accessFlags := 26, slot := 3, constantValue := 0 }, { name := "elementData", type := (.array (.object "java/lang/Object")), accessFlags := 128, slot := 1, constantValue := 0 }, { name := "size", type := .int, accessFlags := 2, slot := 2, constantValue := 0 }]
  methods := #[k12m0, k12m1, k12m2]
  instanceTypes := #[.int, (.array (.object "java/lang/Object")), .int]
  staticTypes := #[.long, .int, (.array (.object "java/lang/Object")), (.array (.object "java/lang/Object"))]
  resolved := Array.replicate 509 none
  statics := some 0 }

def pool13 : Array CpInfo := pool [(1, .class_ 2), (0, u "java/lang/Math"), (1, .class_ 6), (1, u "java/lang/Object"), (0, u "<init>"), (0, u "()V"), (89, .class_ 100), (1, u "java/lang/Math$RandomNumberGeneratorHolder"), (71, u "negativeZeroFloatBits"), (0, u "J"), (2, u "negativeZeroDoubleBits"), (68, u "$assertionsDisabled"), (0, u "Z"), (91, u "twoToTheDoubleScaleDown"), (0, u "D"), (4, u "twoToTheDoubleScaleUp"), (9, u "E"), (3, u "PI"), (2, u "TAU"), (2, u "DEGREES_TO_RADIANS"), (0, u "RADIANS_TO_DEGREES"), (39, u "toIntExact"), (0, u "(J)I")] 53

def k13m0 : Method := { name := "<init>", desc := "()V", sig := { parameters := [], returnType := none }, accessFlags := 2, code := none }
def k13c1 : Code := { maxStack := 4, maxLocals := 2, code := jdk_29_method_43_code, exceptionTable := #[], attributes := #[] }
def k13m1 : Method := { name := "toIntExact", desc := "(J)I", sig := { parameters := [.long], returnType := some .int }, accessFlags := 9, code := some k13c1 }
/-- java/lang/Math -/
def k13 : Class := { plain "java/lang/Math" (some 0) with
  accessFlags := 49
  interfaces := #[]
  cf := some (fileOf pool13 1 #[.nestMembers #[98]] #[{ accessFlags := 2, nameIndex := 7, descriptorIndex := 8, attributes := #[] }, { accessFlags := 9, nameIndex := 405, descriptorIndex := 406, attributes := #[] }] 49 4 #[] #[{ accessFlags := 25, nameIndex := 354, descriptorIndex := 339, attributes := #[] }, { accessFlags := 25, nameIndex := 358, descriptorIndex := 339, attributes := #[] }, { accessFlags := 25, nameIndex := 361, descriptorIndex := 339, attributes := #[] }, { accessFlags := 26, nameIndex := 364, descriptorIndex := 339, attributes := #[] }, { accessFlags := 26, nameIndex := 365, descriptorIndex := 339, attributes := #[] }, { accessFlags := 26, nameIndex := 172, descriptorIndex := 173, attributes := #[] }, { accessFlags := 26, nameIndex := 176, descriptorIndex := 173, attributes := #[] }, { accessFlags := 8, nameIndex := 344, descriptorIndex := 339, attributes := #[] }, { accessFlags := 8, nameIndex := 338, descriptorIndex := 339, attributes := #[] }, { accessFlags := 4120, nameIndex := 245, descriptorIndex := 246, attributes := #[] }])
  fields := #[{ name := "E", type := .double, accessFlags := 25, slot := 0, constantValue := 0 }, { name := "PI", type := .double, accessFlags := 25, slot := 1, constantValue := 0 }, { name := "TAU", type := .double, accessFlags := 25, slot := 2, constantValue := 0 }, { name := "DEGREES_TO_RADIANS", type := .double, accessFlags := 26, slot := 3, constantValue := 0 }, { name := "RADIANS_TO_DEGREES", type := .double, accessFlags := 26, slot := 4, constantValue := 0 }, { name := "negativeZeroFloatBits", type := .long, accessFlags := 26, slot := 5, constantValue := 0 }, { name := "negativeZeroDoubleBits", type := .long, accessFlags := 26, slot := 6, constantValue := 0 }, { name := "twoToTheDoubleScaleUp", type := .double, accessFlags := 8, slot := 7, constantValue := 0 }, { name := "twoToTheDoubleScaleDown", type := .double, accessFlags := 8, slot := 8, constantValue := 0 }, { name := "$assertionsDisabled", type := .boolean, accessFlags := 4120, slot := 9, constantValue := 0 }]
  methods := #[k13m0, k13m1]
  instanceTypes := #[]
  staticTypes := #[.double, .double, .double, .double, .double, .long, .long, .double, .double, .boolean]
  resolved := Array.replicate 460 none
  statics := none }

def pool14 : Array CpInfo := pool [(16, .class_ 18), (1, u "java/util/Iterator"), (0, u "hasNext"), (0, u "()Z"), (10, .class_ 32), (0, u "java/lang/Object")] 20

def k14m0 : Method := { name := "hasNext", desc := "()Z", sig := { parameters := [], returnType := some .boolean }, accessFlags := 1025, code := none }
/-- java/util/Iterator -/
def k14 : Class := { plain "java/util/Iterator" (some 0) with
  accessFlags := 1537
  interfaces := #[]
  cf := some (fileOf pool14 16 #[] #[{ accessFlags := 1025, nameIndex := 19, descriptorIndex := 20, attributes := #[] }] 1537 31 #[] #[])
  fields := #[]
  methods := #[k14m0]
  instanceTypes := #[]
  staticTypes := #[]
  resolved := Array.replicate 53 none
  statics := none }

def pool15 : Array CpInfo := pool [(1, .fieldref 2 3), (0, .class_ 4), (0, .nameAndType 5 6), (0, u "java/util/ArrayList$Itr"), (0, u "this$0"), (0, u "Ljava/util/ArrayList;"), (0, .methodref 8 9), (0, .class_ 10), (0, .nameAndType 11 12), (0, u "java/lang/Object"), (0, u "<init>"), (0, u "()V"), (0, .fieldref 2 14), (0, .nameAndType 15 16), (0, u "lastRet"), (0, u "I"), (0, .fieldref 18 19), (0, .class_ 20), (0, .nameAndType 21 16), (0, u "java/util/ArrayList"), (0, u "modCount"), (0, .fieldref 2 23), (0, .nameAndType 24 16), (0, u "expectedModCount"), (0, .fieldref 2 26), (0, .nameAndType 27 16), (0, u "cursor"), (0, .fieldref 18 29), (0, .nameAndType 30 16), (0, u "size"), (38, .class_ 70), (0, u "java/util/Iterator"), (0, u "(Ljava/util/ArrayList;)V"), (8, u "hasNext"), (0, u "()Z")] 22

def k15c0 : Code := { maxStack := 2, maxLocals := 2, code := jdk_49_method_1_code, exceptionTable := #[], attributes := #[] }
def k15m0 : Method := { name := "<init>", desc := "(Ljava/util/ArrayList;)V", sig := { parameters := [(.object "java/util/ArrayList")], returnType := none }, accessFlags := 0, code := some k15c0 }
def k15c1 : Code := { maxStack := 2, maxLocals := 1, code := jdk_49_method_2_code, exceptionTable := #[], attributes := #[] }
def k15m1 : Method := { name := "hasNext", desc := "()Z", sig := { parameters := [], returnType := some .boolean }, accessFlags := 1, code := some k15c1 }
/-- java/util/ArrayList$Itr -/
def k15 : Class := { plain "java/util/ArrayList$Itr" (some 0) with
  accessFlags := 32
  interfaces := #[14]
  cf := some (fileOf pool15 2 #[.nestHost 18] #[{ accessFlags := 0, nameIndex := 11, descriptorIndex := 71, attributes := #[] }, { accessFlags := 1, nameIndex := 80, descriptorIndex := 81, attributes := #[] }] 32 8 #[69] #[{ accessFlags := 0, nameIndex := 27, descriptorIndex := 16, attributes := #[] }, { accessFlags := 0, nameIndex := 15, descriptorIndex := 16, attributes := #[] }, { accessFlags := 0, nameIndex := 24, descriptorIndex := 16, attributes := #[] }, { accessFlags := 4112, nameIndex := 5, descriptorIndex := 6, attributes := #[] }])
  fields := #[{ name := "cursor", type := .int, accessFlags := 0, slot := 0, constantValue := 0 }, { name := "lastRet", type := .int, accessFlags := 0, slot := 1, constantValue := 0 }, { name := "expectedModCount", type := .int, accessFlags := 0, slot := 2, constantValue := 0 }, { name := "this$0", type := (.object "java/util/ArrayList"), accessFlags := 4112, slot := 3, constantValue := 0 }]
  methods := #[k15m0, k15m1]
  instanceTypes := #[.int, .int, .int, (.object "java/util/ArrayList")]
  staticTypes := #[]
  resolved := Array.replicate 104 none
  statics := none }

def pool16 : Array CpInfo := pool [(2, .class_ 4), (1, u "java/lang/Object"), (0, u "<init>"), (0, u "()V"), (1, .class_ 10), (1, u "java/lang/System"), (0, u "allowSecurityManager"), (0, u "I"), (16, u "cons"), (0, u "Ljava/io/Console;"), (77, .class_ 110), (1, u "java/lang/System$CallersHolder"), (43, u "initialErrStream"), (0, u "Ljava/io/PrintStream;"), (19, u "security"), (0, u "Ljava/lang/SecurityManager;"), (31, .class_ 209), (0, u "java/lang/System$1"), (7, u "props"), (0, u "Ljava/util/Properties;"), (2, u "lineSeparator"), (0, u "Ljava/lang/String;"), (96, .class_ 321), (1, u "java/lang/System$LoggerFinder"), (5, .class_ 328), (0, u "java/lang/System$Logger"), (67, u "err"), (2, u "out"), (91, u "notSupportedJnuEncoding"), (15, u "in"), (17, u "initialIn"), (0, u "Ljava/io/InputStream;"), (35, u "bootLayer"), (0, u "Ljava/lang/ModuleLayer;"), (99, .class_ 664), (0, u "java/lang/System$2"), (9, u "NEVER"), (2, u "MAYBE"), (49, u "arraycopy"), (0, u "(Ljava/lang/Object;ILjava/lang/Object;II)V"), (72, .class_ 802), (0, u "java/lang/System$Logger$Level")] 31

def k16m0 : Method := { name := "<init>", desc := "()V", sig := { parameters := [], returnType := none }, accessFlags := 2, code := none }
def k16m1 : Method := { name := "arraycopy", desc := "(Ljava/lang/Object;ILjava/lang/Object;II)V", sig := { parameters := [(.object "java/lang/Object"), .int, (.object "java/lang/Object"), .int, .int], returnType := none }, accessFlags := 265, code := none }
/-- java/lang/System -/
def k16 : Class := { plain "java/lang/System" (some 0) with
  accessFlags := 49
  interfaces := #[]
  cf := some (fileOf pool16 8 #[.nestMembers #[319, 327, 801, 108, 663, 208]] #[{ accessFlags := 2, nameIndex := 5, descriptorIndex := 6, attributes := #[] }, { accessFlags := 265, nameIndex := 727, descriptorIndex := 728, attributes := #[] }] 49 2 #[] #[{ accessFlags := 25, nameIndex := 507, descriptorIndex := 526, attributes := #[] }, { accessFlags := 25, nameIndex := 399, descriptorIndex := 155, attributes := #[] }, { accessFlags := 25, nameIndex := 396, descriptorIndex := 155, attributes := #[] }, { accessFlags := 10, nameIndex := 525, descriptorIndex := 526, attributes := #[] }, { accessFlags := 26, nameIndex := 674, descriptorIndex := 12, attributes := #[] }, { accessFlags := 26, nameIndex := 677, descriptorIndex := 12, attributes := #[] }, { accessFlags := 10, nameIndex := 11, descriptorIndex := 12, attributes := #[] }, { accessFlags := 74, nameIndex := 175, descriptorIndex := 176, attributes := #[] }, { accessFlags := 10, nameIndex := 491, descriptorIndex := 222, attributes := #[] }, { accessFlags := 74, nameIndex := 29, descriptorIndex := 30, attributes := #[] }, { accessFlags := 74, nameIndex := 154, descriptorIndex := 155, attributes := #[] }, { accessFlags := 10, nameIndex := 217, descriptorIndex := 218, attributes := #[] }, { accessFlags := 10, nameIndex := 221, descriptorIndex := 222, attributes := #[] }, { accessFlags := 8, nameIndex := 562, descriptorIndex := 563, attributes := #[] }])
  fields := #[{ name := "in", type := (.object "java/io/InputStream"), accessFlags := 25, slot := 0, constantValue := 0 }, { name := "out", type := (.object "java/io/PrintStream"), accessFlags := 25, slot := 1, constantValue := 0 }, { name := "err", type := (.object "java/io/PrintStream"), accessFlags := 25, slot := 2, constantValue := 0 }, { name := "initialIn", type := (.object "java/io/InputStream"), accessFlags := 10, slot := 3, constantValue := 0 }, { name := "NEVER", type := .int, accessFlags := 26, slot := 4, constantValue := 0 }, { name := "MAYBE", type := .int, accessFlags := 26, slot := 5, constantValue := 0 }, { name := "allowSecurityManager", type := .int, accessFlags := 10, slot := 6, constantValue := 0 }, { name := "security", type := (.object "java/lang/SecurityManager"), accessFlags := 74, slot := 7, constantValue := 0 }, { name := "notSupportedJnuEncoding", type := (.object "java/lang/String"), accessFlags := 10, slot := 8, constantValue := 0 }, { name := "cons", type := (.object "java/io/Console"), accessFlags := 74, slot := 9, constantValue := 0 }, { name := "initialErrStream", type := (.object "java/io/PrintStream"), accessFlags := 74, slot := 10, constantValue := 0 }, { name := "props", type := (.object "java/util/Properties"), accessFlags := 10, slot := 11, constantValue := 0 }, { name := "lineSeparator", type := (.object "java/lang/String"), accessFlags := 10, slot := 12, constantValue := 0 }, { name := "bootLayer", type := (.object "java/lang/ModuleLayer"), accessFlags := 8, slot := 13, constantValue := 0 }]
  methods := #[k16m0, k16m1]
  instanceTypes := #[]
  staticTypes := #[(.object "java/io/InputStream"), (.object "java/io/PrintStream"), (.object "java/io/PrintStream"), (.object "java/io/InputStream"), .int, .int, .int, (.object "java/lang/SecurityManager"), (.object "java/lang/String"), (.object "java/io/Console"), (.object "java/io/PrintStream"), (.object "java/util/Properties"), (.object "java/lang/String"), (.object "java/lang/ModuleLayer")]
  resolved := Array.replicate 834 none
  statics := none }

/-- the primitive byte -/
def k17 : Class := { plain "byte" none with kind := .primitive 'B', accessFlags := 0x411 }
/-- [B -/
def k18 : Class := { plain "[B" (some 0) with kind := .array 17 .byte, interfaces := #[10, 11], accessFlags := 1041 }

/-- the primitive int -/
def k19 : Class := { plain "int" none with kind := .primitive 'I', accessFlags := 0x411 }
/-- [I -/
def k20 : Class := { plain "[I" (some 0) with kind := .array 19 .int, interfaces := #[10, 11], accessFlags := 1041 }

/-- [Ljava/lang/Object; -/
def k21 : Class := { plain "[Ljava/lang/Object;" (some 0) with kind := .array 0 (.object "java/lang/Object"), interfaces := #[10, 11], accessFlags := 1041 }

def heap : Heap := #[{ cls := 12, slots := #[.long 0, .int 0, .ref 1, .ref 2], vm := .statics 12 },
  { cls := 21, slots := #[], vm := .none },
  { cls := 21, slots := #[], vm := .none }]
def classes : Array Class := #[k0, k1, k2, k3, k4, k5, k6, k7, k8, k9, k10, k11, k12, k13, k14, k15, k16, k17, k18, k19, k20, k21]
def interned : List (Array UInt16 × Addr) := []
def slotsUsed : Nat := 4
def theMethod : MethodId := ⟨1, 1⟩
def args0 : Array Value := #[.int 5, .int 7]
def aboutOver (below : List Frame) : State where
  vm := { classes := classes, interned := interned.toArray }
  heap := heap
  slotsUsed := slotsUsed
  threads := #[{ frames := .invoking theMethod args0 :: below }]
def below0 : List Frame := [.native { method := ⟨0, 0⟩, args := #[] }]
def about1 : State := aboutOver below0
def p0 : Program := .bare "" "" ""
def e0 : Env := launch0.env 0 0 0
theorem w_frames : about1.frames = Frame.invoking theMethod args0 :: below0 := rfl
set_option maxRecDepth 65536 in
theorem w_args : argsFit about1.vm theMethod args0 = true := by decide +kernel
set_option maxRecDepth 65536 in
theorem w_heap : heapFits about1 = true := by decide +kernel
set_option maxRecDepth 65536 in
theorem w_runnable : about1.curStatus? = some .runnable := by decide +kernel
set_option maxRecDepth 65536 in
theorem w_alone : about1.alone = true := by decide +kernel
set_option maxRecDepth 65536 in
theorem w_named : about1.methodNamed? x = some theMethod := by decide +kernel
set_option maxRecDepth 65536 in
theorem w_hears : about1.hears theMethod below0 = true := by decide +kernel
set_option maxRecDepth 65536 in
theorem w_ripe : about1.ripe theMethod args0 below0 = true := by decide +kernel
theorem w_running : about1.status = .running := rfl
set_option maxRecDepth 65536 in
theorem w_room : about1.hasRoom e0.platform room_1 = true :=
  launch0.hasRoom_least _ room_1 (by decide +kernel) (by decide +kernel) (by decide +kernel) (by decide +kernel) (by decide +kernel) (by decide +kernel)
theorem allAtoms_all (ts : List Jvm.Cond) (a : Array Jvm.Value) (st : Jvm.State) : (allAtoms ts).before a st = ts.all (fun c => c.before a st) := by
  induction ts with
  | nil => rfl
  | cons c t ih =>
    show (Jvm.Cond.and c (allAtoms t)).before a st = _
    rw [Jvm.Cond.before_and, ih, List.all_cons]
def words1 : List Jvm.Cond := Jvm.Cond.code x code maxLocals ret :: tables_1
/-- a 'code' word, met by the world's own term for the bytes: nothing is compared byte by byte -/
theorem code_word {y : MethodName} {bytes : ByteArray} {mx : Nat} {rt : Option FieldType} {a : Array Value} {s : State} {m : MethodId} {meth : Method} {c : Code} (h1 : s.methodNamed? y = some m) (h2 : s.vm.method? m = some meth) (h3 : meth.code = some c) (h4 : c.code = bytes)
    (h5 : (c.maxLocals == mx && c.exceptionTable.isEmpty && decide (c.maxStack ≤ mostOperands) && decide (meth.sig.returnType = rt) && !meth.locks && decide (parseMethodDescriptor y.desc = some meth.sig)) = true) : (Jvm.Cond.code y bytes mx rt).before a s = true := by
  simp only [Bool.and_eq_true, beq_iff_eq, Bool.not_eq_true', decide_eq_true_eq] at h5
  obtain ⟨⟨⟨⟨⟨g1, g2⟩, g3⟩, g4⟩, g5⟩, g6⟩ := h5
  simp [Cond.before, Cond.holds, Cond.value, h1, h2, h3, h4, g1, g2, g3, g4, g5, g6]
def isCode : Jvm.Cond → Bool
  | .code _ _ _ _ => true
  | _ => false
theorem all_split {L : List Jvm.Cond} {P : Jvm.Cond → Bool} (h1 : L.all (fun c => isCode c || P c) = true) (h2 : ∀ c ∈ L.filter isCode, P c = true) : L.all P = true := by
  refine List.all_eq_true.mpr fun c hc => ?_
  have h := List.all_eq_true.mp h1 c hc
  rcases Bool.eq_false_or_eq_true (isCode c) with hi | hi
  · exact h2 c (List.mem_filter.mpr ⟨hc, hi⟩)
  · simpa [hi] using h
set_option maxRecDepth 65536 in
theorem w_c0 : (Jvm.Cond.code x code maxLocals ret).before args0 about1 = true := code_word (m := ⟨1, 1⟩) (meth := k1m1) (c := k1c1) (by decide +kernel) rfl rfl rfl (by decide +kernel)
set_option maxRecDepth 65536 in
theorem w_c1 : (Jvm.Cond.code ({ cls := "com/example/exdate/exdate/OutputBuffer", name := "<init>", desc := "()V" } : Jvm.MethodName) prog_17_method_1_code (1 : Nat) (Option.none : Option Jvm.ClassFile.FieldType)).before args0 about1 = true := code_word (m := ⟨2, 0⟩) (meth := k2m0) (c := k2c0) (by decide +kernel) rfl rfl rfl (by decide +kernel)
set_option maxRecDepth 65536 in
theorem w_c2 : (Jvm.Cond.code ({ cls := "com/example/exdate/exdate/OutputBuffer", name := "<init>", desc := "(Lcom/example/exdate/exdate/OutputFile;)V" } : Jvm.MethodName) prog_17_method_2_code (2 : Nat) (Option.none : Option Jvm.ClassFile.FieldType)).before args0 about1 = true := code_word (m := ⟨2, 1⟩) (meth := k2m1) (c := k2c1) (by decide +kernel) rfl rfl rfl (by decide +kernel)
set_option maxRecDepth 65536 in
theorem w_c3 : (Jvm.Cond.code ({ cls := "java/lang/Object", name := "<init>", desc := "()V" } : Jvm.MethodName) object_method_1_code (1 : Nat) (Option.none : Option Jvm.ClassFile.FieldType)).before args0 about1 = true := code_word (m := ⟨0, 0⟩) (meth := k0m0) (c := k0c0) (by decide +kernel) rfl rfl rfl (by decide +kernel)
set_option maxRecDepth 65536 in
theorem w_c4 : (Jvm.Cond.code ({ cls := "java/util/ArrayList", name := "<init>", desc := "()V" } : Jvm.MethodName) jdk_38_method_2_code (1 : Nat) (Option.none : Option Jvm.ClassFile.FieldType)).before args0 about1 = true := code_word (m := ⟨12, 0⟩) (meth := k12m0) (c := k12c0) (by decide +kernel) rfl rfl rfl (by decide +kernel)
set_option maxRecDepth 65536 in
theorem w_c5 : (Jvm.Cond.code ({ cls := "java/util/AbstractList", name := "<init>", desc := "()V" } : Jvm.MethodName) jdk_39_method_1_code (1 : Nat) (Option.none : Option Jvm.ClassFile.FieldType)).before args0 about1 = true := code_word (m := ⟨8, 0⟩) (meth := k8m0) (c := k8c0) (by decide +kernel) rfl rfl rfl (by decide +kernel)
set_option maxRecDepth 65536 in
theorem w_c6 : (Jvm.Cond.code ({ cls := "java/util/AbstractCollection", name := "<init>", desc := "()V" } : Jvm.MethodName) jdk_22_method_1_code (1 : Nat) (Option.none : Option Jvm.ClassFile.FieldType)).before args0 about1 = true := code_word (m := ⟨5, 0⟩) (meth := k5m0) (c := k5c0) (by decide +kernel) rfl rfl rfl (by decide +kernel)
set_option maxRecDepth 65536 in
theorem w_c7 : (Jvm.Cond.code ({ cls := "com/example/exdate/exdate/OutputBuffer", name := "writesToFile", desc := "()Z" } : Jvm.MethodName) prog_17_method_7_code (1 : Nat) (Option.some Jvm.ClassFile.FieldType.boolean)).before args0 about1 = true := code_word (m := ⟨2, 3⟩) (meth := k2m3) (c := k2c3) (by decide +kernel) rfl rfl rfl (by decide +kernel)
set_option maxRecDepth 65536 in
theorem w_c8 : (Jvm.Cond.code ({ cls := "com/example/exdate/exdate/OutputBuffer", name := "write", desc := "(B)V" } : Jvm.MethodName) prog_17_method_4_code (2 : Nat) (Option.none : Option Jvm.ClassFile.FieldType)).before args0 about1 = true := code_word (m := ⟨2, 2⟩) (meth := k2m2) (c := k2c2) (by decide +kernel) rfl rfl rfl (by decide +kernel)
set_option maxRecDepth 65536 in
theorem w_c9 : (Jvm.Cond.code ({ cls := "com/example/exdate/exdate/OutputBuffer", name := "toByteArray", desc := "()[B" } : Jvm.MethodName) prog_17_method_9_code (5 : Nat) (Option.some (Jvm.ClassFile.FieldType.array Jvm.ClassFile.FieldType.byte))).before args0 about1 = true := code_word (m := ⟨2, 4⟩) (meth := k2m4) (c := k2c4) (by decide +kernel) rfl rfl rfl (by decide +kernel)
set_option maxRecDepth 65536 in
theorem w_c10 : (Jvm.Cond.code ({ cls := "java/util/ArrayList", name := "size", desc := "()I" } : Jvm.MethodName) jdk_38_method_8_code (1 : Nat) (Option.some Jvm.ClassFile.FieldType.int)).before args0 about1 = true := code_word (m := ⟨12, 1⟩) (meth := k12m1) (c := k12c1) (by decide +kernel) rfl rfl rfl (by decide +kernel)
set_option maxRecDepth 65536 in
theorem w_c11 : (Jvm.Cond.code ({ cls := "java/lang/Math", name := "toIntExact", desc := "(J)I" } : Jvm.MethodName) jdk_29_method_43_code (2 : Nat) (Option.some Jvm.ClassFile.FieldType.int)).before args0 about1 = true := code_word (m := ⟨13, 1⟩) (meth := k13m1) (c := k13c1) (by decide +kernel) rfl rfl rfl (by decide +kernel)
set_option maxRecDepth 65536 in
theorem w_c12 : (Jvm.Cond.code ({ cls := "java/util/ArrayList", name := "iterator", desc := "()Ljava/util/Iterator;" } : Jvm.MethodName) jdk_38_method_55_code (1 : Nat) (Option.some (Jvm.ClassFile.FieldType.object "java/util/Iterator"))).before args0 about1 = true := code_word (m := ⟨12, 2⟩) (meth := k12m2) (c := k12c2) (by decide +kernel) rfl rfl rfl (by decide +kernel)
set_option maxRecDepth 65536 in
theorem w_c13 : (Jvm.Cond.code ({ cls := "java/util/ArrayList$Itr", name := "<init>", desc := "(Ljava/util/ArrayList;)V" } : Jvm.MethodName) jdk_49_method_1_code (2 : Nat) (Option.none : Option Jvm.ClassFile.FieldType)).before args0 about1 = true := code_word (m := ⟨15, 0⟩) (meth := k15m0) (c := k15c0) (by decide +kernel) rfl rfl rfl (by decide +kernel)
set_option maxRecDepth 65536 in
theorem w_c14 : (Jvm.Cond.code ({ cls := "java/util/ArrayList$Itr", name := "hasNext", desc := "()Z" } : Jvm.MethodName) jdk_49_method_2_code (1 : Nat) (Option.some Jvm.ClassFile.FieldType.boolean)).before args0 about1 = true := code_word (m := ⟨15, 1⟩) (meth := k15m1) (c := k15c1) (by decide +kernel) rfl rfl rfl (by decide +kernel)
def codes1 : List Jvm.Cond := [Jvm.Cond.code x code maxLocals ret, Jvm.Cond.code ({ cls := "com/example/exdate/exdate/OutputBuffer", name := "<init>", desc := "()V" } : Jvm.MethodName) prog_17_method_1_code (1 : Nat) (Option.none : Option Jvm.ClassFile.FieldType), Jvm.Cond.code ({ cls := "com/example/exdate/exdate/OutputBuffer", name := "<init>", desc := "(Lcom/example/exdate/exdate/OutputFile;)V" } : Jvm.MethodName) prog_17_method_2_code (2 : Nat) (Option.none : Option Jvm.ClassFile.FieldType), Jvm.Cond.code ({ cls := "java/lang/Object", name := "<init>", desc := "()V" } : Jvm.MethodName) object_method_1_code (1 : Nat) (Option.none : Option Jvm.ClassFile.FieldType), Jvm.Cond.code ({ cls := "java/util/ArrayList", name := "<init>", desc := "()V" } : Jvm.MethodName) jdk_38_method_2_code (1 : Nat) (Option.none : Option Jvm.ClassFile.FieldType), Jvm.Cond.code ({ cls := "java/util/AbstractList", name := "<init>", desc := "()V" } : Jvm.MethodName) jdk_39_method_1_code (1 : Nat) (Option.none : Option Jvm.ClassFile.FieldType), Jvm.Cond.code ({ cls := "java/util/AbstractCollection", name := "<init>", desc := "()V" } : Jvm.MethodName) jdk_22_method_1_code (1 : Nat) (Option.none : Option Jvm.ClassFile.FieldType), Jvm.Cond.code ({ cls := "com/example/exdate/exdate/OutputBuffer", name := "writesToFile", desc := "()Z" } : Jvm.MethodName) prog_17_method_7_code (1 : Nat) (Option.some Jvm.ClassFile.FieldType.boolean), Jvm.Cond.code ({ cls := "com/example/exdate/exdate/OutputBuffer", name := "write", desc := "(B)V" } : Jvm.MethodName) prog_17_method_4_code (2 : Nat) (Option.none : Option Jvm.ClassFile.FieldType), Jvm.Cond.code ({ cls := "com/example/exdate/exdate/OutputBuffer", name := "toByteArray", desc := "()[B" } : Jvm.MethodName) prog_17_method_9_code (5 : Nat) (Option.some (Jvm.ClassFile.FieldType.array Jvm.ClassFile.FieldType.byte)), Jvm.Cond.code ({ cls := "java/util/ArrayList", name := "size", desc := "()I" } : Jvm.MethodName) jdk_38_method_8_code (1 : Nat) (Option.some Jvm.ClassFile.FieldType.int), Jvm.Cond.code ({ cls := "java/lang/Math", name := "toIntExact", desc := "(J)I" } : Jvm.MethodName) jdk_29_method_43_code (2 : Nat) (Option.some Jvm.ClassFile.FieldType.int), Jvm.Cond.code ({ cls := "java/util/ArrayList", name := "iterator", desc := "()Ljava/util/Iterator;" } : Jvm.MethodName) jdk_38_method_55_code (1 : Nat) (Option.some (Jvm.ClassFile.FieldType.object "java/util/Iterator")), Jvm.Cond.code ({ cls := "java/util/ArrayList$Itr", name := "<init>", desc := "(Ljava/util/ArrayList;)V" } : Jvm.MethodName) jdk_49_method_1_code (2 : Nat) (Option.none : Option Jvm.ClassFile.FieldType), Jvm.Cond.code ({ cls := "java/util/ArrayList$Itr", name := "hasNext", desc := "()Z" } : Jvm.MethodName) jdk_49_method_2_code (1 : Nat) (Option.some Jvm.ClassFile.FieldType.boolean)]
set_option maxRecDepth 65536 in
theorem codes_eq : words1.filter isCode = codes1 := rfl
theorem w_codes : ∀ c ∈ words1.filter isCode, c.before args0 about1 = true := by
  rw [codes_eq]
  intro c hc
  simp only [codes1, List.mem_cons, List.not_mem_nil, or_false] at hc
  rcases hc with rfl | rfl | rfl | rfl | rfl | rfl | rfl | rfl | rfl | rfl | rfl | rfl | rfl | rfl | rfl
  · exact w_c0
  · exact w_c1
  · exact w_c2
  · exact w_c3
  · exact w_c4
  · exact w_c5
  · exact w_c6
  · exact w_c7
  · exact w_c8
  · exact w_c9
  · exact w_c10
  · exact w_c11
  · exact w_c12
  · exact w_c13
  · exact w_c14
set_option maxRecDepth 65536 in
theorem w_t1 : (words1.take 24).all (fun c => isCode c || c.before args0 about1) = true := by decide +kernel
set_option maxRecDepth 65536 in
theorem w_t2 : ((words1.drop 24).take 24).all (fun c => isCode c || c.before args0 about1) = true := by decide +kernel
set_option maxRecDepth 65536 in
theorem w_t3 : (((words1.drop 24).drop 24).take 24).all (fun c => isCode c || c.before args0 about1) = true := by decide +kernel
set_option maxRecDepth 65536 in
theorem w_t4 : ((((words1.drop 24).drop 24).drop 24).take 24).all (fun c => isCode c || c.before args0 about1) = true := by decide +kernel
set_option maxRecDepth 65536 in
theorem w_t5 : ((((words1.drop 24).drop 24).drop 24).drop 24).all (fun c => isCode c || c.before args0 about1) = true := by decide +kernel
theorem w_tables : (allAtoms (Jvm.Cond.code x code maxLocals ret :: tables_1)).before args0 about1 = true := by
  rw [allAtoms_all]
  show words1.all (fun c => c.before args0 about1) = true
  refine all_split ?_ w_codes
  rw [← List.take_append_drop 24 words1, List.all_append, w_t1, ← List.take_append_drop 24 (words1.drop 24), List.all_append, w_t2, ← List.take_append_drop 24 ((words1.drop 24).drop 24), List.all_append, w_t3, ← List.take_append_drop 24 (((words1.drop 24).drop 24).drop 24), List.all_append, w_t4, w_t5]
  rfl
set_option maxRecDepth 65536 in
theorem w_rest : rest_1_c.before args0 about1 = true := by decide +kernel
set_option maxRecDepth 65536 in
theorem w_case : (Jvm.Cond.and given_1 narrow_1).before args0 about1 = true := by decide +kernel
theorem w_applies : (headSpec (Jvm.Cond.code x code maxLocals ret :: tables_1) room_1).applies x e0.platform about1 = true :=
  (Spec.applies_iff w_frames).mpr ⟨w_running, w_runnable, w_alone, w_named, w_hears, w_ripe, w_room, w_tables⟩
theorem atStart : AtStart classFile x code maxLocals ret World_1 tables_1 room_1 Calls_1 rest_1 Pre_1 launch0 p0 e0 about1 theMethod args0 below0 :=
  ⟨lists_1, trivial, launch0.admits_env _ _ _, launch0.least_env, fairChoices_fair.cas, fairChoices_fair.clock, w_frames, w_args, w_heap, w_applies, trivial, w_rest, w_case⟩
end start1
theorem witness_1 : WitnessClaimed_1 := ⟨start1.p0, start1.e0, start1.about1, start1.theMethod, start1.args0, start1.below0, start1.atStart⟩
end Jvm.Pilot.@@N@@
