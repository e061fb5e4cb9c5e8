import JvmDerived
import JvmDerived.Pilot.@@N@@Statement
import JvmDerived.Pilot.@@N@@Code
set_option linter.unusedVariables false
set_option linter.unusedSimpArgs false
@@BLOCK:LamKit.lean.txt@@
namespace Jvm.Ow
open Sem ClassFile Op Lib Jvm.Stand Jvm.Free Jvm.LawKit Jvm.RoadKit
def WideEnd (s : State) (o : Outcome) (t : State) (L : List Loc) (k n : Nat) : Prop :=
  (∃ v : Option Value, o = Outcome.returned v) ∧ s.Warmed39 t.vm ∧ (∀ (j : Nat) (p : Array UInt16 × Addr), s.vm.interned.size ≤ j → t.vm.interned[j]? = some p → s.heap.size ≤ p.2 ∧ p.2 < t.heap.size) ∧ s.sameButNew { t with vm := s.vm } L k n
def EndF (wd : Bool) (s : State) (o : Outcome) (t : State) (L : List Loc) (k n : Nat) : Prop := match wd with
  | true => WideEnd s o t L k n
  | false => FrameEnd s o t L k n
theorem EndF.of {wd : Bool} {s : State} {o : Outcome} {t : State} {L : List Loc} {k n : Nat} (h : FrameEnd s o t L k n) : EndF wd s o t L k n := by
  cases wd
  · exact h
  · exact wide h
def Cx (p : Program) (l : Launch) (e : Env) (R : Room) (m : MethodId) (args : Array Value) (below : List Frame) (meth : Method) (c : Code) (Z : State) (y : MethodName) (bytes : ByteArray) (ml : Nat) (ret : Option FieldType) (n0 : Nat) (wd : Bool) (F : Outcome → State → List Loc → Prop) (T : State) (h : Heap) (cells slots : Nat) : Prop :=
  ∃ s locs, Stand p l e R s m args below meth c T locs cells slots ∧ p.tables.exec = Jvm.exec ∧ c.code = bytes ∧ c.maxLocals = ml ∧ Z.Warmed39 s.vm ∧ s.vm.findClass y.cls = some m.cls ∧ (meth.name = y.name ∧ s.methodNamed? y = some m) ∧ meth.sig.returnType = ret ∧ meth.locks = false ∧ T.heap = h ∧ Fr n0 locs ∧ n0 ≤ s.heap.size ∧ ∀ o t L, h.size ≤ t.heap.size → EndF wd s o t L R.cells R.slots → F o t L
def Go (p : Program) (e : Env) (below : List Frame) (F : Outcome → State → List Loc → Prop) (n0 : Nat) (Q : Option Value → Heap → Prop) (T : State) (f : JFrame) : Prop :=
  ∃ s₂ o, Steps p.tables e below (T.setTop f) s₂ ∧ s₂.status = .running ∧ Ended s₂ below o ∧ ∃ v L, o = .returned v ∧ (Q v s₂.heap ∧ Fr n0 L ∧ n0 ≤ s₂.heap.size) ∧ F o s₂ L
def Ctr (l : Launch) (Z : State) (y : MethodName) (bytes : ByteArray) (ml : Nat) (ret : Option FieldType) (R : Room) (as' : Array Value) (h : Heap) (n0 : Nat) (Q : Option Value → Heap → Prop) : Prop :=
  ∀ ws : List Jvm.Cond, MetFree l y (head1 (Jvm.Cond.code y bytes ml ret :: ws) R) (fun a U => a = as' ∧ Z.Warmed39 U.vm ∧ U.heap = h) (fun _ _ _ _ _ => True) (fun _ U o U' => ∃ v L, o = .returned v ∧ ((Q v U'.heap ∧ h.size ≤ U'.heap.size) ∧ Fr n0 L) ∧ FrameEnd U o U' L R.cells R.slots)
section Layer
variable {p : Program} {l : Launch} {e : Env} {R : Room} {m : MethodId} {args : Array Value} {below : List Frame} {meth : Method} {c : Code} {T T' : State} {cells slots : Nat} {Z : State} {a0 : Array Value} {h : Heap} {y : MethodName} {bytes : ByteArray} {ml n0 : Nat} {ret : Option FieldType} {wd : Bool} {F : Outcome → State → List Loc → Prop} {Q : Option Value → Heap → Prop} {pc pc' : Nat} {L L' : Array Slot} {S : List Value}
theorem Ctr.body {as' : Array Value} (hpl : plainFor y = true) (hn : n0 ≤ h.size) (ef : ∀ m, entryFrame m as' ml = mkF m 0 L [])
    (k : ∀ (p : Program) (e : Env) (F : Outcome → State → List Loc → Prop) (m : MethodId) (below : List Frame) (meth : Method) (c : Code) (T : State), Cx p l e R m as' below meth c Z y bytes ml ret n0 false F T h 0 0 → Go p e below F n0 Q T (mkF m 0 L [])) : Ctr l Z y bytes ml ret R as' h n0 Q := by
  intro ws
  refine MetFree.of_bodySF hpl hisR ?_
  intro p e s m args below meth c s₁ Bd hml0 hP hK
  obtain ⟨rfl, hZ, hh⟩ := hP
  obtain ⟨s₂, o, g1, g2, g3, v, L9, g4, ⟨g5, g6, -⟩, g7⟩ := k p e (fun o t L => FrameEnd s o t L R.cells R.slots) m below meth c s₁ ⟨s, [], Stand.of_body Bd, Bd.exec, Bd.bytes, hml0, hZ, findClass_of_methodNamed Bd.named, ⟨(name_of_methodNamed Bd.named Bd.method).1, Bd.named⟩, Bd.returns, Bd.notSynchronized, by rw [← hh, Bd.state]; rfl, Fr.nil n0, by rw [hh]; exact hn, fun _ _ _ _ q => q⟩
  rw [ef m]
  exact ⟨s₂, o, g1, g2, g3, v, L9, g4, ⟨⟨g5, by rw [← hh]; exact g7.2.2.2.1⟩, g6⟩, g7⟩
theorem Go.via {f f' : JFrame} (k : Go p e below F n0 Q T' f') (hs : ∀ t, Steps p.tables e below (T'.setTop f') t → Steps p.tables e below (T.setTop f) t) : Go p e below F n0 Q T f := by
  obtain ⟨s₂, o, h1, h2⟩ := k; exact ⟨s₂, o, hs _ h1, h2⟩
theorem Cx.size (C : Cx p l e R m args below meth c Z y bytes ml ret n0 wd F T h cells slots) : n0 ≤ h.size := by
  obtain ⟨s, locs, X, -, -, -, -, -, -, -, -, rfl, -, hn, -⟩ := C
  exact Nat.le_trans hn X.same.2.1
theorem Cx.iloadN (C : Cx p l e R m args below meth c Z y bytes ml ret n0 wd F T h cells slots) {k : Fin 4} {v : Int32} (hd : decode bytes pc = .ok (.iload_n k, 1)) (hp : pc + 1 = pc') (hl : L[k.val]? = some (.val (.int v))) (K : Go p e below F n0 Q T (mkF m pc' L (.int v :: S))) : Go p e below F n0 Q T (mkF m pc L S) := by
  obtain ⟨s, locs, X, hx, rfl, -⟩ := C; subst hp
  exact K.via fun t k => XS.iloadN X.here hx rfl hd hl k
theorem Cx.iload (C : Cx p l e R m args below meth c Z y bytes ml ret n0 wd F T h cells slots) {k : Nat} {v : Int32} (hd : decode bytes pc = .ok (.iload k, 2)) (hp : pc + 2 = pc') (hl : L[k]? = some (.val (.int v))) (K : Go p e below F n0 Q T (mkF m pc' L (.int v :: S))) : Go p e below F n0 Q T (mkF m pc L S) := by
  obtain ⟨s, locs, X, hx, rfl, -⟩ := C; subst hp
  exact K.via fun t k => XS.iload X.here hx rfl hd hl k
theorem Cx.istoreN (C : Cx p l e R m args below meth c Z y bytes ml ret n0 wd F T h cells slots) {k : Fin 4} {x : Int32} (hd : decode bytes pc = .ok (.istore_n k, 1)) (hp : pc + 1 = pc') (hl : storeLocals L k.val (.int x) = some L') (K : Go p e below F n0 Q T (mkF m pc' L' S)) : Go p e below F n0 Q T (mkF m pc L (.int x :: S)) := by
  obtain ⟨s, locs, X, hx, rfl, -⟩ := C; subst hp
  exact K.via fun t k => XS.istoreN X.here hx rfl hd rfl hl k
theorem Cx.istore (C : Cx p l e R m args below meth c Z y bytes ml ret n0 wd F T h cells slots) {k : Nat} {x : Int32} (hd : decode bytes pc = .ok (.istore k, 2)) (hp : pc + 2 = pc') (hl : storeLocals L k (.int x) = some L') (K : Go p e below F n0 Q T (mkF m pc' L' S)) : Go p e below F n0 Q T (mkF m pc L (.int x :: S)) := by
  obtain ⟨s, locs, X, hx, rfl, -⟩ := C; subst hp
  exact K.via fun t k => XS.istore X.here hx rfl hd rfl hl k
theorem Cx.aloadN (C : Cx p l e R m args below meth c Z y bytes ml ret n0 wd F T h cells slots) {k : Fin 4} {v : Value} (hd : decode bytes pc = .ok (.aload_n k, 1)) (hp : pc + 1 = pc') (hl : L[k.val]? = some (.val v)) (hv : v.isRef = true) (K : Go p e below F n0 Q T (mkF m pc' L (v :: S))) : Go p e below F n0 Q T (mkF m pc L S) := by
  obtain ⟨s, locs, X, hx, rfl, -⟩ := C; subst hp
  exact K.via fun t k => XS.aloadN X.here hx rfl hd hl hv k
theorem Cx.aload (C : Cx p l e R m args below meth c Z y bytes ml ret n0 wd F T h cells slots) {k : Nat} {v : Value} (hd : decode bytes pc = .ok (.aload k, 2)) (hp : pc + 2 = pc') (hl : L[k]? = some (.val v)) (hv : v.isRef = true) (K : Go p e below F n0 Q T (mkF m pc' L (v :: S))) : Go p e below F n0 Q T (mkF m pc L S) := by
  obtain ⟨s, locs, X, hx, rfl, -⟩ := C; subst hp
  exact K.via fun t k => XS.aload X.here hx rfl hd hl hv k
theorem Cx.astoreN (C : Cx p l e R m args below meth c Z y bytes ml ret n0 wd F T h cells slots) {k : Fin 4} {x : Value} (hd : decode bytes pc = .ok (.astore_n k, 1)) (hp : pc + 1 = pc') (hv : x.isRef = true) (hl : storeLocals L k.val x = some L') (K : Go p e below F n0 Q T (mkF m pc' L' S)) : Go p e below F n0 Q T (mkF m pc L (x :: S)) := by
  obtain ⟨s, locs, X, hx, rfl, -⟩ := C; subst hp
  exact K.via fun t k => XS.astoreN X.here hx rfl hd rfl hv hl k
theorem Cx.astore (C : Cx p l e R m args below meth c Z y bytes ml ret n0 wd F T h cells slots) {k : Nat} {x : Value} (hd : decode bytes pc = .ok (.astore k, 2)) (hp : pc + 2 = pc') (hv : x.isRef = true) (hl : storeLocals L k x = some L') (K : Go p e below F n0 Q T (mkF m pc' L' S)) : Go p e below F n0 Q T (mkF m pc L (x :: S)) := by
  obtain ⟨s, locs, X, hx, rfl, -⟩ := C; subst hp
  exact K.via fun t k => XS.astore X.here hx rfl hd rfl hv hl k
theorem Cx.iconst (C : Cx p l e R m args below meth c Z y bytes ml ret n0 wd F T h cells slots) {i : Int} (v : Int32) (hd : decode bytes pc = .ok (.iconst i, 1)) (hp : pc + 1 = pc') (hv : Int32.ofInt i = v) (K : Go p e below F n0 Q T (mkF m pc' L (.int v :: S))) : Go p e below F n0 Q T (mkF m pc L S) := by
  obtain ⟨s, locs, X, hx, rfl, -⟩ := C; subst hp
  exact K.via fun t k => XT.iconstV X.here hx rfl v hd hv k
theorem Cx.bipush (C : Cx p l e R m args below meth c Z y bytes ml ret n0 wd F T h cells slots) {i : Int} (v : Int32) (hd : decode bytes pc = .ok (.bipush i, 2)) (hp : pc + 2 = pc') (hv : (Int8.ofInt i).toInt32 = v) (K : Go p e below F n0 Q T (mkF m pc' L (.int v :: S))) : Go p e below F n0 Q T (mkF m pc L S) := by
  obtain ⟨s, locs, X, hx, rfl, -⟩ := C; subst hp
  exact K.via fun t k => XT.bipushV X.here hx rfl v hd hv k
theorem Cx.iinc (C : Cx p l e R m args below meth c Z y bytes ml ret n0 wd F T h cells slots) {k : Nat} {cst : Int} {x : Int32} (v : Int32) (hd : decode bytes pc = .ok (.iinc k cst, 3)) (hp : pc + 3 = pc') (hv : Int32.ofInt cst = v) (hl : L[k]? = some (.val (.int x))) (hl' : storeLocals L k (.int (x + v)) = some L') (K : Go p e below F n0 Q T (mkF m pc' L' S)) : Go p e below F n0 Q T (mkF m pc L S) := by
  obtain ⟨s, locs, X, hx, rfl, -⟩ := C; subst hp
  exact K.via fun t k => XT.iincV X.here hx rfl v hd hv hl hl' k
theorem Cx.iadd (C : Cx p l e R m args below meth c Z y bytes ml ret n0 wd F T h cells slots) {x z : Int32} (hd : decode bytes pc = .ok (.iadd, 1)) (hp : pc + 1 = pc')  (K : Go p e below F n0 Q T (mkF m pc' L (.int (x + z) :: S))) : Go p e below F n0 Q T (mkF m pc L (.int z :: .int x :: S)) := by
  obtain ⟨s, locs, X, hx, rfl, -⟩ := C; subst hp
  exact K.via fun t k => XS.iadd X.here hx rfl hd rfl k
theorem Cx.isub (C : Cx p l e R m args below meth c Z y bytes ml ret n0 wd F T h cells slots) {x z : Int32} (hd : decode bytes pc = .ok (.isub, 1)) (hp : pc + 1 = pc')  (K : Go p e below F n0 Q T (mkF m pc' L (.int (x - z) :: S))) : Go p e below F n0 Q T (mkF m pc L (.int z :: .int x :: S)) := by
  obtain ⟨s, locs, X, hx, rfl, -⟩ := C; subst hp
  exact K.via fun t k => XS.isub X.here hx rfl hd rfl k
theorem Cx.imul (C : Cx p l e R m args below meth c Z y bytes ml ret n0 wd F T h cells slots) {x z : Int32} (hd : decode bytes pc = .ok (.imul, 1)) (hp : pc + 1 = pc')  (K : Go p e below F n0 Q T (mkF m pc' L (.int (x * z) :: S))) : Go p e below F n0 Q T (mkF m pc L (.int z :: .int x :: S)) := by
  obtain ⟨s, locs, X, hx, rfl, -⟩ := C; subst hp
  exact K.via fun t k => XS.imul X.here hx rfl hd rfl k
theorem Cx.iand (C : Cx p l e R m args below meth c Z y bytes ml ret n0 wd F T h cells slots) {x z : Int32} (hd : decode bytes pc = .ok (.iand, 1)) (hp : pc + 1 = pc')  (K : Go p e below F n0 Q T (mkF m pc' L (.int (x &&& z) :: S))) : Go p e below F n0 Q T (mkF m pc L (.int z :: .int x :: S)) := by
  obtain ⟨s, locs, X, hx, rfl, -⟩ := C; subst hp
  exact K.via fun t k => XS.iand X.here hx rfl hd rfl k
theorem Cx.ixor (C : Cx p l e R m args below meth c Z y bytes ml ret n0 wd F T h cells slots) {x z : Int32} (hd : decode bytes pc = .ok (.ixor, 1)) (hp : pc + 1 = pc')  (K : Go p e below F n0 Q T (mkF m pc' L (.int (x ^^^ z) :: S))) : Go p e below F n0 Q T (mkF m pc L (.int z :: .int x :: S)) := by
  obtain ⟨s, locs, X, hx, rfl, -⟩ := C; subst hp
  exact K.via fun t k => XT.ixor X.here hx rfl hd rfl k
theorem Cx.iushr (C : Cx p l e R m args below meth c Z y bytes ml ret n0 wd F T h cells slots) {x z : Int32} (hd : decode bytes pc = .ok (.iushr, 1)) (hp : pc + 1 = pc')  (K : Go p e below F n0 Q T (mkF m pc' L (.int ((x.toUInt32 >>> (z &&& 31).toUInt32).toInt32) :: S))) : Go p e below F n0 Q T (mkF m pc L (.int z :: .int x :: S)) := by
  obtain ⟨s, locs, X, hx, rfl, -⟩ := C; subst hp
  exact K.via fun t k => XS.iushr X.here hx rfl hd rfl k
theorem Cx.dup (C : Cx p l e R m args below meth c Z y bytes ml ret n0 wd F T h cells slots) {x : Value} (hd : decode bytes pc = .ok (.dup, 1)) (hp : pc + 1 = pc') (hc : x.category = 1) (K : Go p e below F n0 Q T (mkF m pc' L (x :: x :: S))) : Go p e below F n0 Q T (mkF m pc L (x :: S)) := by
  obtain ⟨s, locs, X, hx, rfl, -⟩ := C; subst hp
  exact K.via fun t k => XS.dup X.here hx rfl hd rfl hc k
theorem Cx.pop (C : Cx p l e R m args below meth c Z y bytes ml ret n0 wd F T h cells slots) {x : Value} (hd : decode bytes pc = .ok (.pop, 1)) (hp : pc + 1 = pc') (hc : x.category = 1) (K : Go p e below F n0 Q T (mkF m pc' L S)) : Go p e below F n0 Q T (mkF m pc L (x :: S)) := by
  obtain ⟨s, locs, X, hx, rfl, -⟩ := C; subst hp
  exact K.via fun t k => XT.pop X.here hx rfl hd rfl hc k
theorem Cx.dupX1 (C : Cx p l e R m args below meth c Z y bytes ml ret n0 wd F T h cells slots) {x z : Value} (hd : decode bytes pc = .ok (.dup_x1, 1)) (hp : pc + 1 = pc') (hc : x.category = 1) (hc' : z.category = 1) (K : Go p e below F n0 Q T (mkF m pc' L (x :: z :: x :: S))) : Go p e below F n0 Q T (mkF m pc L (x :: z :: S)) := by
  obtain ⟨s, locs, X, hx, rfl, -⟩ := C; subst hp
  exact K.via fun t k => XT.dupX1 X.here hx rfl hd rfl hc hc' k
theorem Cx.goto (C : Cx p l e R m args below meth c Z y bytes ml ret n0 wd F T h cells slots) {o : Int} (hd : decode bytes pc = .ok (.goto o, 3)) (ho : 0 ≤ (pc : Int) + o) (hp : ((pc : Int) + o).toNat = pc') (K : Go p e below F n0 Q T (mkF m pc' L S)) : Go p e below F n0 Q T (mkF m pc L S) := by
  obtain ⟨s, locs, X, hx, rfl, -⟩ := C
  exact K.via fun t k => XS.goto X.here hx rfl rfl hd ho hp k
theorem Cx.icmp_eq (C : Cx p l e R m args below meth c Z y bytes ml ret n0 wd F T h cells slots) {x z : Int32} {o : Int} {py pn : Nat} (hd : decode bytes pc = .ok (.if_icmp .eq o, 3)) (ho : 0 ≤ (pc : Int) + o) (hy : ((pc : Int) + o).toNat = py) (hn : pc + 3 = pn) (K1 : x = z → Go p e below F n0 Q T (mkF m py L S)) (K2 : ¬ x = z → Go p e below F n0 Q T (mkF m pn L S)) : Go p e below F n0 Q T (mkF m pc L (.int z :: .int x :: S)) := by
  obtain ⟨s, locs, X, hx, rfl, -⟩ := C; subst hn
  by_cases q : x = z
  · exact (K1 q).via fun t k => XS.icmpYes X.here hx rfl rfl hd rfl (XT.ii_eq_t q) ho hy k
  · exact (K2 q).via fun t k => XS.icmpNo X.here hx rfl hd rfl (XT.ii_eq_f q) k
theorem Cx.if_eq (C : Cx p l e R m args below meth c Z y bytes ml ret n0 wd F T h cells slots) {x : Int32} {o : Int} {py pn : Nat} (hd : decode bytes pc = .ok (.ifCond .eq o, 3)) (ho : 0 ≤ (pc : Int) + o) (hy : ((pc : Int) + o).toNat = py) (hn : pc + 3 = pn) (K1 : x = (0 : Int32) → Go p e below F n0 Q T (mkF m py L S)) (K2 : ¬ x = (0 : Int32) → Go p e below F n0 Q T (mkF m pn L S)) : Go p e below F n0 Q T (mkF m pc L (.int x :: S)) := by
  obtain ⟨s, locs, X, hx, rfl, -⟩ := C; subst hn
  by_cases q : x = (0 : Int32)
  · exact (K1 q).via fun t k => XS.ifYes X.here hx rfl rfl hd rfl (XT.i0_eq_t q) ho hy k
  · exact (K2 q).via fun t k => XS.ifNo X.here hx rfl hd rfl (XT.i0_eq_f q) k
theorem Cx.icmp_ne (C : Cx p l e R m args below meth c Z y bytes ml ret n0 wd F T h cells slots) {x z : Int32} {o : Int} {py pn : Nat} (hd : decode bytes pc = .ok (.if_icmp .ne o, 3)) (ho : 0 ≤ (pc : Int) + o) (hy : ((pc : Int) + o).toNat = py) (hn : pc + 3 = pn) (K1 : ¬ x = z → Go p e below F n0 Q T (mkF m py L S)) (K2 : x = z → Go p e below F n0 Q T (mkF m pn L S)) : Go p e below F n0 Q T (mkF m pc L (.int z :: .int x :: S)) := by
  obtain ⟨s, locs, X, hx, rfl, -⟩ := C; subst hn
  by_cases q : x = z
  · exact (K2 q).via fun t k => XS.icmpNo X.here hx rfl hd rfl (XT.ii_ne_f q) k
  · exact (K1 q).via fun t k => XS.icmpYes X.here hx rfl rfl hd rfl (XT.ii_ne_t q) ho hy k
theorem Cx.if_ne (C : Cx p l e R m args below meth c Z y bytes ml ret n0 wd F T h cells slots) {x : Int32} {o : Int} {py pn : Nat} (hd : decode bytes pc = .ok (.ifCond .ne o, 3)) (ho : 0 ≤ (pc : Int) + o) (hy : ((pc : Int) + o).toNat = py) (hn : pc + 3 = pn) (K1 : ¬ x = (0 : Int32) → Go p e below F n0 Q T (mkF m py L S)) (K2 : x = (0 : Int32) → Go p e below F n0 Q T (mkF m pn L S)) : Go p e below F n0 Q T (mkF m pc L (.int x :: S)) := by
  obtain ⟨s, locs, X, hx, rfl, -⟩ := C; subst hn
  by_cases q : x = (0 : Int32)
  · exact (K2 q).via fun t k => XS.ifNo X.here hx rfl hd rfl (XT.i0_ne_f q) k
  · exact (K1 q).via fun t k => XS.ifYes X.here hx rfl rfl hd rfl (XT.i0_ne_t q) ho hy k
theorem Cx.icmp_lt (C : Cx p l e R m args below meth c Z y bytes ml ret n0 wd F T h cells slots) {x z : Int32} {o : Int} {py pn : Nat} (hd : decode bytes pc = .ok (.if_icmp .lt o, 3)) (ho : 0 ≤ (pc : Int) + o) (hy : ((pc : Int) + o).toNat = py) (hn : pc + 3 = pn) (K1 : x < z → Go p e below F n0 Q T (mkF m py L S)) (K2 : ¬ x < z → Go p e below F n0 Q T (mkF m pn L S)) : Go p e below F n0 Q T (mkF m pc L (.int z :: .int x :: S)) := by
  obtain ⟨s, locs, X, hx, rfl, -⟩ := C; subst hn
  by_cases q : x < z
  · exact (K1 q).via fun t k => XS.icmpYes X.here hx rfl rfl hd rfl (XT.ii_lt_t q) ho hy k
  · exact (K2 q).via fun t k => XS.icmpNo X.here hx rfl hd rfl (XT.ii_lt_f q) k
theorem Cx.icmp_ge (C : Cx p l e R m args below meth c Z y bytes ml ret n0 wd F T h cells slots) {x z : Int32} {o : Int} {py pn : Nat} (hd : decode bytes pc = .ok (.if_icmp .ge o, 3)) (ho : 0 ≤ (pc : Int) + o) (hy : ((pc : Int) + o).toNat = py) (hn : pc + 3 = pn) (K1 : ¬ x < z → Go p e below F n0 Q T (mkF m py L S)) (K2 : x < z → Go p e below F n0 Q T (mkF m pn L S)) : Go p e below F n0 Q T (mkF m pc L (.int z :: .int x :: S)) := by
  obtain ⟨s, locs, X, hx, rfl, -⟩ := C; subst hn
  by_cases q : x < z
  · exact (K2 q).via fun t k => XS.icmpNo X.here hx rfl hd rfl (XT.ii_ge_f q) k
  · exact (K1 q).via fun t k => XS.icmpYes X.here hx rfl rfl hd rfl (XT.ii_ge_t q) ho hy k
theorem Cx.if_ge (C : Cx p l e R m args below meth c Z y bytes ml ret n0 wd F T h cells slots) {x : Int32} {o : Int} {py pn : Nat} (hd : decode bytes pc = .ok (.ifCond .ge o, 3)) (ho : 0 ≤ (pc : Int) + o) (hy : ((pc : Int) + o).toNat = py) (hn : pc + 3 = pn) (K1 : ¬ x < (0 : Int32) → Go p e below F n0 Q T (mkF m py L S)) (K2 : x < (0 : Int32) → Go p e below F n0 Q T (mkF m pn L S)) : Go p e below F n0 Q T (mkF m pc L (.int x :: S)) := by
  obtain ⟨s, locs, X, hx, rfl, -⟩ := C; subst hn
  by_cases q : x < (0 : Int32)
  · exact (K2 q).via fun t k => XS.ifNo X.here hx rfl hd rfl (XT.i0_ge_f q) k
  · exact (K1 q).via fun t k => XS.ifYes X.here hx rfl rfl hd rfl (XT.i0_ge_t q) ho hy k
theorem Cx.if_gt (C : Cx p l e R m args below meth c Z y bytes ml ret n0 wd F T h cells slots) {x : Int32} {o : Int} {py pn : Nat} (hd : decode bytes pc = .ok (.ifCond .gt o, 3)) (ho : 0 ≤ (pc : Int) + o) (hy : ((pc : Int) + o).toNat = py) (hn : pc + 3 = pn) (K1 : (0 : Int32) < x → Go p e below F n0 Q T (mkF m py L S)) (K2 : ¬ (0 : Int32) < x → Go p e below F n0 Q T (mkF m pn L S)) : Go p e below F n0 Q T (mkF m pc L (.int x :: S)) := by
  obtain ⟨s, locs, X, hx, rfl, -⟩ := C; subst hn
  by_cases q : (0 : Int32) < x
  · exact (K1 q).via fun t k => XS.ifYes X.here hx rfl rfl hd rfl (XT.i0_gt_t q) ho hy k
  · exact (K2 q).via fun t k => XS.ifNo X.here hx rfl hd rfl (XT.i0_gt_f q) k
theorem Cx.icmp_le (C : Cx p l e R m args below meth c Z y bytes ml ret n0 wd F T h cells slots) {x z : Int32} {o : Int} {py pn : Nat} (hd : decode bytes pc = .ok (.if_icmp .le o, 3)) (ho : 0 ≤ (pc : Int) + o) (hy : ((pc : Int) + o).toNat = py) (hn : pc + 3 = pn) (K1 : ¬ z < x → Go p e below F n0 Q T (mkF m py L S)) (K2 : z < x → Go p e below F n0 Q T (mkF m pn L S)) : Go p e below F n0 Q T (mkF m pc L (.int z :: .int x :: S)) := by
  obtain ⟨s, locs, X, hx, rfl, -⟩ := C; subst hn
  by_cases q : z < x
  · exact (K2 q).via fun t k => XS.icmpNo X.here hx rfl hd rfl (XT.ii_le_f q) k
  · exact (K1 q).via fun t k => XS.icmpYes X.here hx rfl rfl hd rfl (XT.ii_le_t q) ho hy k
theorem Cx.done (C : Cx p l e R m args below meth c Z y bytes ml ret n0 wd F T h cells slots) {v : Option Value} (hv : ret = none → v = none) (hc : cells ≤ R.cells) (hs : slots ≤ R.slots) (hq : Q v h) {f : JFrame}
    (k : ∀ s locs fs, Stand p l e R s m args below meth c T locs cells slots → (∀ (f : JFrame) (acts : List Action), f.method = m → f.locked = none → f.entered = [] → (doReturn e (T.setTop f) acts v).1 = T.setFrames fs) → Steps p.tables e below (T.setTop f) (T.setFrames fs)) : Go p e below F n0 Q T f := by
  have hz := C.size
  obtain ⟨s, locs, X, hx, rfl, rfl, hZ, hown, hnm, rfl, hlk, rfl, N, hn, hF⟩ := C
  obtain ⟨fs, hr, hrun, hended, hW, hsame⟩ := X.leave (v := v) hv
  exact ⟨_, _, k s locs fs X hr, hrun, hended, v, locs, rfl, ⟨hq, N, hz⟩, hF _ _ _ (Nat.le_refl _) (EndF.of ⟨⟨v, rfl⟩, hW, hsame.mono hc hs⟩)⟩
theorem Cx.retI (C : Cx p l e R m args below meth c Z y bytes ml ret n0 wd F T h cells slots) {z : Int32} (hd : decode bytes pc = .ok (.ireturn, 1)) (hret : ret = some .int) (hc : cells ≤ R.cells) (hs : slots ≤ R.slots) (hq : Q (some (.int z)) h) : Go p e below F n0 Q T (mkF m pc L (.int z :: S)) := by
  refine C.done (fun q => by rw [hret] at q; cases q) hc hs hq fun s locs fs X hr => ?_
  obtain ⟨_, _, -, hx, rfl, -, -, -, -, rfl, -⟩ := C
  exact retOut X hx hret rfl (Or.inl ⟨rfl, Or.inl rfl, _, rfl⟩) hd hr
theorem Cx.retN (C : Cx p l e R m args below meth c Z y bytes ml ret n0 wd F T h cells slots) {z w : Int32} {t : FieldType} (hd : decode bytes pc = .ok (.ireturn, 1)) (hret : ret = some t) (ht : t = .boolean ∨ t = .byte ∨ t = .char ∨ t = .short) (hc : cells ≤ R.cells) (hs : slots ≤ R.slots) (hw : nar t z = w) (hq : Q (some (.int w)) h) : Go p e below F n0 Q T (mkF m pc L (.int z :: S)) := by
  subst hw
  refine C.done (fun q => by rw [hret] at q; cases q) hc hs hq fun s locs fs X hr => ?_
  obtain ⟨_, _, -, hx, rfl, -, -, -, -, rfl, -⟩ := C
  exact Jvm.RoadKit.retN X hx hret ht hd hr
theorem Cx.retA (C : Cx p l e R m args below meth c Z y bytes ml ret n0 wd F T h cells slots) {w : Value} {t : FieldType} (hd : decode bytes pc = .ok (.areturn, 1)) (hret : ret = some t) (ht : t.isReference = true) (hw : w.isRef = true) (hc : cells ≤ R.cells) (hs : slots ≤ R.slots) (hq : Q (some w) h) : Go p e below F n0 Q T (mkF m pc L (w :: S)) := by
  refine C.done (fun q => by rw [hret] at q; cases q) hc hs hq fun s locs fs X hr => ?_
  obtain ⟨_, _, -, hx, rfl, -, -, -, -, rfl, -⟩ := C
  refine retOut X hx hret ?_ (Or.inr (Or.inr (Or.inr (Or.inr ⟨rfl, ht, hw⟩)))) hd hr
  rcases ref_cases hw with rfl | ⟨a, rfl⟩ <;> cases t <;> first | rfl | (simp [FieldType.isReference] at ht)
theorem Cx.retV (C : Cx p l e R m args below meth c Z y bytes ml ret n0 wd F T h cells slots) (hd : decode bytes pc = .ok (.return_, 1)) (hret : ret = none) (hc : cells ≤ R.cells) (hs : slots ≤ R.slots) (hq : Q none h) : Go p e below F n0 Q T (mkF m pc L []) := by
  refine C.done (fun q => rfl) hc hs hq fun s locs fs X hr => ?_
  obtain ⟨_, _, -, hx, rfl, -, -, -, -, rfl, -⟩ := C
  exact X.returnOut hx hret hd hr
theorem Cx.ldc (C : Cx p l e R m args below meth c Z y bytes ml ret n0 wd F T h cells slots) {idx : Nat} {v : Int32} (w : (Jvm.Cond.constant y.cls idx v).before a0 Z = true) (hd : decode bytes pc = .ok (.ldc idx, 2)) (hp : pc + 2 = pc') (K : Go p e below F n0 Q T (mkF m pc' L (.int v :: S))) : Go p e below F n0 Q T (mkF m pc L S) := by
  obtain ⟨s, locs, X, hx, rfl, rfl, hZ, hown, -⟩ := C; subst hp
  exact K.via fun t k => X.ldcInt hx hown (mvT hZ w) (g := mkF m pc L S) rfl hd t k
theorem Cx.callS (C : Cx p l e R m args below meth c Z y bytes ml ret n0 wd F T h cells slots) {idx : Nat} {y' : MethodName} {bytes' : ByteArray} {ml' : Nat} {ret' : Option FieldType} {R' : Room} {Q' : Option Value → Heap → Prop} {argsL : List Value} (w1 : (Jvm.Cond.methodLink y.cls idx y').before a0 Z = true) (w2 : (Jvm.Cond.static y').before a0 Z = true) (w3 : (Jvm.Cond.initialized y'.cls).before a0 Z = true) (w4 : (Jvm.Cond.code y' bytes' ml' ret').before a0 Z = true)
    (hy : y'.cls ≠ "java/lang/invoke/MethodHandle" ∧ y'.cls ≠ "java/lang/invoke/VarHandle") (M : Ctr l Z y' bytes' ml' ret' R' argsL.toArray h n0 Q') {ps : List FieldType} {rt : Option FieldType} (hpd : parseMethodDescriptor y'.desc = some ⟨ps, rt⟩) (hlen : argsL.length = ps.length)
    (W : Nat) (hf : R'.frames + 1 ≤ R.frames) (hl : W + (ml' + 11) + R'.locals ≤ R.locals) (hc : cells + R'.cells ≤ R.cells) (hs : slots + R'.slots ≤ R.slots) {rest : List Value} (hst : S = argsL.reverse ++ rest) (hsz : L.size = ml) (hW : (rest.map fun v => v.category).sum ≤ W)
    (hd : decode bytes pc = .ok (.invokestatic idx, 3)) (hp : pc + 3 = pc') (K : ∀ v T' h', Cx p l e R m args below meth c Z y bytes ml ret n0 wd F T' h' (cells + R'.cells) (slots + R'.slots) → Q' v h' → Go p e below F n0 Q T' (mkF m pc' L (v.toList ++ rest))) : Go p e below F n0 Q T (mkF m pc L S) := by
  obtain ⟨s, locs, X, hx, rfl, rfl, hZ, hown, hnm, hr, hlk, eT, N, hn, hF⟩ := C; subst hp
  obtain ⟨v, _, ⟨T', L', k', n'⟩, -, X', ⟨Lc, hQ, e1, e2, e3⟩, st⟩ := Jvm.LawKit.callS X hx (y := y') hown (mvT hZ w1) (mvT hZ w2) (mvT hZ w3) (mvT hZ w4) hy (backOf (W := W) (Q := fun v h9 L => (Q' v h9 ∧ h.size ≤ h9.size) ∧ Fr n0 L) (M []) hZ w4 w3 hf hl) (g := mkF m pc L S) rfl hsz (argsL := argsL) (rest := rest) (lenOf hpd hlen) hst (by show 2 * 0 + _ ≤ _; omega) hd (fun _ _ => ⟨rfl, eT, hc, hs⟩)
  dsimp only [Pt.U, Pt.locs, Pt.cells, Pt.slots] at X' e1 e2 e3 st hQ
  subst e1 e2 e3
  exact (K v T' T'.heap ⟨s, _, X', hx, rfl, rfl, hZ, hown, hnm, hr, hlk, rfl, N.app hQ.2, hn, fun o t L q => hF o t L (Nat.le_trans hQ.1.2 q)⟩ hQ.1.1).via st
theorem ext_keep {h h' : Heap} (K : Keep h h' []) : Ext h h' := ⟨K.1, fun a c q => K.2.1 a c q nin0⟩
theorem Cx.new (C : Cx p l e R m args below meth c Z y bytes ml ret n0 wd F T h cells slots) {idx n : Nat} {Cl : String} (w : (Jvm.Cond.classLink y.cls idx Cl).before a0 Z = true) (wi : (Jvm.Cond.instantiable Cl n).before a0 Z = true) (wz : (Jvm.Cond.initialized Cl).before a0 Z = true) (hd : decode bytes pc = .ok (.new idx, 3)) (hp : pc + 3 = pc') (hc : cells + 1 ≤ R.cells) (hl : slots + n ≤ R.slots)
    (K : ∀ T' h' b, Cx p l e R m args below meth c Z y bytes ml ret n0 wd F T' h' (cells + 1) (slots + n) → b = h.size → n0 ≤ b → Ext h h' → Exa Z h' b Cl → (∀ {O nm d : String} {ty : FieldType}, Laid Z a0 Cl O nm d → parseFieldDescriptor d = some ty → Fld Z h' b O nm d (defaultValue ty)) → Go p e below F n0 Q T' (mkF m pc' L (.ref b :: S))) : Go p e below F n0 Q T (mkF m pc L S) := by
  have hz := C.size
  obtain ⟨s, locs, X, hx, rfl, rfl, hZ, hown, hnm, hr, hlk, eT, N, hn, hF⟩ := C; subst hp
  obtain ⟨T', h', X', e', E, A, D, -, st⟩ := newO X hx hZ hown w wi wz eT (g := mkF m pc L S) rfl hd hc hl
  exact (K T' h' h.size ⟨s, locs, X', hx, rfl, rfl, hZ, hown, hnm, hr, hlk, e', N, hn, fun o t L q => hF o t L (Nat.le_trans E.1 q)⟩ rfl hz E A D).via st
theorem Cx.getF (C : Cx p l e R m args below meth c Z y bytes ml ret n0 wd F T h cells slots) {idx : Nat} {R0 O n d host : String} {a : Addr} {v : Value} (w : (Jvm.Cond.fieldLink y.cls idx R0 n d).before a0 Z = true ∨ (Jvm.Cond.fieldLinkNest y.cls idx R0 n d host).before a0 Z = true) (via : Via Z R0 O n d) (Fd : Fld Z h a O n d v) (hd : decode bytes pc = .ok (.getfield idx, 3)) (hp : pc + 3 = pc')
    (K : ∀ T', Cx p l e R m args below meth c Z y bytes ml ret n0 wd F T' h cells slots → Go p e below F n0 Q T' (mkF m pc' L (v :: S))) : Go p e below F n0 Q T (mkF m pc L (.ref a :: S)) := by
  obtain ⟨s, locs, X, hx, rfl, rfl, hZ, hown, hnm, hr, hlk, eT, N, hn, hF⟩ := C; subst hp
  obtain ⟨T', X', e', st⟩ := Jvm.RoadKit.getF X hx hZ hown w via eT Fd (g := mkF m pc L (.ref a :: S)) rfl rfl hd
  exact (K T' ⟨s, locs, X', hx, rfl, rfl, hZ, hown, hnm, hr, hlk, e', N, hn, hF⟩).via st
theorem Cx.getS (C : Cx p l e R m args below meth c Z y bytes ml ret n0 wd F T h cells slots) {idx : Nat} {R0 O n d host : String} {v : Value} (w : (Jvm.Cond.fieldLink y.cls idx R0 n d).before a0 Z = true ∨ (Jvm.Cond.fieldLinkNest y.cls idx R0 n d host).before a0 Z = true) (via : Via Z R0 O n d) (Fd : Sta Z h O n d v) (hd : decode bytes pc = .ok (.getstatic idx, 3)) (hp : pc + 3 = pc')
    (K : ∀ T', Cx p l e R m args below meth c Z y bytes ml ret n0 wd F T' h cells slots → Go p e below F n0 Q T' (mkF m pc' L (v :: S))) : Go p e below F n0 Q T (mkF m pc L S) := by
  obtain ⟨s, locs, X, hx, rfl, rfl, hZ, hown, hnm, hr, hlk, eT, N, hn, hF⟩ := C; subst hp
  obtain ⟨T', X', e', st⟩ := getS2 X hx hZ hown w via eT Fd (g := mkF m pc L S) rfl hd
  exact (K T' ⟨s, locs, X', hx, rfl, rfl, hZ, hown, hnm, hr, hlk, e', N, hn, hF⟩).via st
theorem Cx.putF (C : Cx p l e R m args below meth c Z y bytes ml ret n0 wd F T h cells slots) {idx kk : Nat} {R0 O n d host Cl : String} {a : Addr} {v old : Value} {ty : FieldType} (w : (Jvm.Cond.fieldLink y.cls idx R0 n d).before a0 Z = true ∨ (Jvm.Cond.fieldLinkNest y.cls idx R0 n d host).before a0 Z = true) (via : Via Z R0 O n d) (Fd : Fld Z h a O n d old) (E : Exa Z h a Cl) (Lw : (Jvm.Cond.lays Cl O n d).before a0 Z = true ∨ ((Jvm.Cond.laysFinal Cl O n d).before a0 Z = true ∧ y.cls = O ∧ y.name = "<init>")) (wi : (Jvm.Cond.instantiable Cl kk).before a0 Z = true)
    (hty : parseFieldDescriptor d = some ty) (hnr : narrow ty v = v) (hf : fits ty v = true) (g : n0 ≤ a) (hd : decode bytes pc = .ok (.putfield idx, 3)) (hp : pc + 3 = pc') (K : ∀ T' h', Cx p l e R m args below meth c Z y bytes ml ret n0 wd F T' h' cells slots → Wr h h' a (Jvm.RoadKit.slotOf Z O n d) v → Go p e below F n0 Q T' (mkF m pc' L S)) : Go p e below F n0 Q T (mkF m pc L (v :: .ref a :: S)) := by
  obtain ⟨s, locs, X, hx, rfl, rfl, hZ, hown, hnm, hr, hlk, eT, N, hn, hF⟩ := C; subst hp
  obtain ⟨T', h', X', e', W, st⟩ := Jvm.RoadKit.putF X hx hZ hown w via eT Fd E (Lw.imp id fun q => ⟨q.1, q.2.1, hnm.1.trans q.2.2⟩) wi hty hnr hf (g := mkF m pc L (v :: .ref a :: S)) rfl rfl hd
  exact (K T' h' ⟨s, _, X', hx, rfl, rfl, hZ, hown, hnm, hr, hlk, e', Fr.snoc X' N g, hn, fun o t L q => hF o t L (W.size ▸ q)⟩ W).via st
theorem Cx.initObj (C : Cx p l e R m args below meth c Z y bytes ml ret n0 wd F T h cells slots) {idx : Nat} {a : Addr} (w1 : (Jvm.Cond.methodLink y.cls idx Lib.objectInit).before a0 Z = true) (w2 : (Jvm.Cond.instanceMethod Lib.objectInit).before a0 Z = true) (w3 : (Jvm.Cond.code Lib.objectInit ⟨#[0xb1]⟩ 1 none).before a0 Z = true) (hsz : L.size = ml) (hf : 1 ≤ R.frames) (W : Nat) (hW : (S.map fun v => v.category).sum ≤ W) (hl : W + 12 ≤ R.locals) (hd : decode bytes pc = .ok (.invokespecial idx, 3)) (hp : pc + 3 = pc')
    (K : ∀ T', Cx p l e R m args below meth c Z y bytes ml ret n0 wd F T' h cells slots → Go p e below F n0 Q T' (mkF m pc' L S)) : Go p e below F n0 Q T (mkF m pc L (.ref a :: S)) := by
  obtain ⟨s, locs, X, hx, rfl, rfl, hZ, hown, hnm, hr, hlk, eT, N, hn, hF⟩ := C; subst hp
  obtain ⟨T', X', e', st⟩ := initO X hx hZ hown w1 w2 w3 eT (g := mkF m pc L (.ref a :: S)) rfl hsz rfl hd hf (W := W) (by show 2 * 0 + _ ≤ _; omega) hl
  exact (K T' ⟨s, locs, X', hx, rfl, rfl, hZ, hown, hnm, hr, hlk, e', N, hn, hF⟩).via st
theorem Cx.newarr (C : Cx p l e R m args below meth c Z y bytes ml ret n0 wd F T h cells slots) {aty : ArrayType} (w : (Jvm.Cond.arrayClass (newarray.typeOf aty)).before a0 Z = true) {n : Int32} (cap : Nat) (hn0 : ¬ n < 0) (hcap : n.toNatClampNeg ≤ cap) (hb : cap * 8 ≤ 536870912) (hc : cells + 1 ≤ R.cells) (hl : slots + cap ≤ R.slots) (hd : decode bytes pc = .ok (.newarray aty, 2)) (hp : pc + 2 = pc')
    (K : ∀ T' h' b k, Cx p l e R m args below meth c Z y bytes ml ret n0 wd F T' h' (cells + 1) (slots + cap) → b = h.size → n0 ≤ b → Ext h h' → Arv Z h' b k (newarray.typeOf aty) n (List.replicate cap (defaultValue (newarray.typeOf aty))) (defaultValue (newarray.typeOf aty)) → Go p e below F n0 Q T' (mkF m pc' L (.ref b :: S))) : Go p e below F n0 Q T (mkF m pc L (.int n :: S)) := by
  have hz := C.size
  obtain ⟨s, locs, X, hx, rfl, rfl, hZ, hown, hnm, hr, hlk, eT, N, hn, hF⟩ := C; subst hp
  obtain ⟨T', h', cA, X', e', E, A, st⟩ := newP X hx hZ w eT (g := mkF m pc L (.int n :: S)) rfl hd rfl hn0 (cap := cap) hcap hb hc hl
  exact (K T' h' h.size cA ⟨s, locs, X', hx, rfl, rfl, hZ, hown, hnm, hr, hlk, e', N, hn, fun o t L q => hF o t L (Nat.le_trans E.1 q)⟩ rfl hz E ((Arv.new A hn0).pad (pad_rep [] _ cap))).via st
theorem Cx.iastore (C : Cx p l e R m args below meth c Z y bytes ml ret n0 wd F T h cells slots) {a : Addr} {k : ClassId} {n j : Int32} {x : Int32} {vs : List Value} {dv : Value} (A : Arv Z h a k .int n vs dv) (hj : ¬ j < 0 ∧ j < n) (hlen : j.toNatClampNeg < vs.length) (g : n0 ≤ a) (hd : decode bytes pc = .ok (.iastore, 1)) (hp : pc + 1 = pc')
    (K : ∀ T' h', Cx p l e R m args below meth c Z y bytes ml ret n0 wd F T' h' cells slots → Wr h h' a j.toNatClampNeg (.int x) → Arv Z h' a k .int n (vs.set j.toNatClampNeg (.int x)) dv → Go p e below F n0 Q T' (mkF m pc' L S)) : Go p e below F n0 Q T (mkF m pc L (.int x :: .int j :: .ref a :: S)) := by
  obtain ⟨s, locs, X, hx, rfl, rfl, hZ, hown, hnm, hr, hlk, eT, N, hn, hF⟩ := C; subst hp
  obtain ⟨cl, Ar, q1, Sz, q3, H, G⟩ := A
  obtain ⟨T', h', X', e', W, st⟩ := stI X hx hZ eT Ar (j := j) (inb_of Sz hj) (g := mkF m pc L (.int x :: .int j :: .ref a :: S)) rfl rfl hd
  exact (K T' h' ⟨s, _, X', hx, rfl, rfl, hZ, hown, hnm, hr, hlk, e', Fr.snoc X' N g, hn, fun o t L q => hF o t L (W.size ▸ q)⟩ W (Arv.set Ar q1 Sz q3 H G rfl W _ rfl hlen)).via st
theorem Cx.iaload (C : Cx p l e R m args below meth c Z y bytes ml ret n0 wd F T h cells slots) {a : Addr} {k : ClassId} {n j : Int32} {v : Int32} {vs : List Value} {dv : Value} (A : Arv Z h a k .int n vs dv) (hj : ¬ j < 0 ∧ j < n) (hv : vs.getD j.toNatClampNeg dv = .int v) (hd : decode bytes pc = .ok (.iaload, 1)) (hp : pc + 1 = pc') (K : Go p e below F n0 Q T (mkF m pc' L (.int v :: S))) : Go p e below F n0 Q T (mkF m pc L (.int j :: .ref a :: S)) := by
  obtain ⟨s, locs, X, hx, rfl, rfl, hZ, hown, hnm, hr, hlk, eT, N, hn, hF⟩ := C; subst hp
  obtain ⟨cl, Ar, q1, Sz, q3, H, G⟩ := A
  exact K.via fun t k => X.iaload hx (j := j) (by rw [eT]; exact Ar.1) (State.isArrayOf_alike hZ.alike Ar.2.1) Ar.2.2 (inb_of Sz hj) (H.at (inb_of Sz hj) hv) (g := mkF m pc L (.int j :: .ref a :: S)) rfl rfl hd t k
theorem Cx.arrlen (C : Cx p l e R m args below meth c Z y bytes ml ret n0 wd F T h cells slots) {a : Addr} {k : ClassId} {n : Int32} {ty : FieldType} {vs : List Value} {dv : Value} (A : Arv Z h a k ty n vs dv) (hd : decode bytes pc = .ok (.arraylength, 1)) (hp : pc + 1 = pc') (K : Go p e below F n0 Q T (mkF m pc' L (.int n :: S))) : Go p e below F n0 Q T (mkF m pc L (.ref a :: S)) := by
  obtain ⟨s, locs, X, hx, rfl, rfl, hZ, hown, hnm, hr, hlk, eT, N, hn, hF⟩ := C; subst hp
  obtain ⟨cl, Ar, q1, Sz, q3, H, G⟩ := A
  rw [← len_of Sz q3] at K
  exact K.via fun t k => X.arraylength hx (by rw [eT]; exact Ar.1) (State.isArrayOf_alike hZ.alike Ar.2.1) (g := mkF m pc L (.ref a :: S)) rfl rfl hd t k
theorem Cx.callN (C : Cx p l e R m args below meth c Z y bytes ml ret n0 wd F T h cells slots) {a : Addr} {idx : Nat} {y' : MethodName} {bytes' : ByteArray} {ml' : Nat} {R' : Room} {Q' : Option Value → Heap → Prop} {argsL : List Value} (hin : y'.name = "<init>") (w1 : (Jvm.Cond.methodLink y.cls idx y').before a0 Z = true) (w2 : (Jvm.Cond.instanceMethod y').before a0 Z = true) (wz : (Jvm.Cond.initialized y'.cls).before a0 Z = true) (wc : (Jvm.Cond.code y' bytes' ml' none).before a0 Z = true)
    (hy : y'.cls ≠ "java/lang/invoke/MethodHandle" ∧ y'.cls ≠ "java/lang/invoke/VarHandle") (M : Ctr l Z y' bytes' ml' none R' (.ref a :: argsL).toArray h n0 Q') {ps : List FieldType} {rt : Option FieldType} (hpd : parseMethodDescriptor y'.desc = some ⟨ps, rt⟩) (hlen : argsL.length = ps.length) (W : Nat) (hf : R'.frames + 1 ≤ R.frames) (hl : W + (ml' + 11) + R'.locals ≤ R.locals) (hc : cells + R'.cells ≤ R.cells) (hs : slots + R'.slots ≤ R.slots) {rest : List Value} (hst : S = argsL.reverse ++ .ref a :: rest) (hsz : L.size = ml) (hW : (rest.map fun v => v.category).sum ≤ W) (hd : decode bytes pc = .ok (.invokespecial idx, 3)) (hp : pc + 3 = pc') (K : ∀ v T' h', Cx p l e R m args below meth c Z y bytes ml ret n0 wd F T' h' (cells + R'.cells) (slots + R'.slots) → Q' v h' → Go p e below F n0 Q T' (mkF m pc' L (v.toList ++ rest))) : Go p e below F n0 Q T (mkF m pc L S) := by
  obtain ⟨s, locs, X, hx, rfl, rfl, hZ, hown, hnm, hr, hlk, eT, N, hn, hF⟩ := C; subst hp
  obtain ⟨v, _, ⟨T', L', k', n'⟩, -, X', ⟨Lc, hQ, e1, e2, e3⟩, st⟩ := X.specialBack hx (y := y') hin hown (mvT hZ w1) (mvT hZ w2) (mvT hZ wc) hy (backOf (W := W) (Q := fun v h9 L => (Q' v h9 ∧ h.size ≤ h9.size) ∧ Fr n0 L) (M []) hZ wc wz hf hl) (g := mkF m pc L S) rfl hsz (Steps.refl _) (a := a) (argsL := argsL) (rest := rest) (lenOf hpd hlen) hst (by show 2 * 0 + _ ≤ _; omega) hd (fun _ _ => ⟨rfl, eT, hc, hs⟩)
  dsimp only [Pt.U, Pt.locs, Pt.cells, Pt.slots] at X' e1 e2 e3 st hQ
  subst e1 e2 e3
  exact (K v T' T'.heap ⟨s, _, X', hx, rfl, rfl, hZ, hown, hnm, hr, hlk, rfl, N.app hQ.2, hn, fun o t L q => hF o t L (Nat.le_trans hQ.1.2 q)⟩ hQ.1.1).via fun t k => st.trans k
theorem Cx.callV (C : Cx p l e R m args below meth c Z y bytes ml ret n0 wd F T h cells slots) {a : Addr} {idx : Nat} {y' : MethodName} {bytes' : ByteArray} {ml' : Nat} {ret' : Option FieldType} {R' : Room} {Q' : Option Value → Heap → Prop} {argsL : List Value} {Cl : String} (w1 : (Jvm.Cond.methodLink y.cls idx y').before a0 Z = true) (w2 : (Jvm.Cond.declares y').before a0 Z = true) (w3 : (Jvm.Cond.selects Cl y' y').before a0 Z = true) (w4 : (Jvm.Cond.instanceMethod y').before a0 Z = true) (wz : (Jvm.Cond.initialized y'.cls).before a0 Z = true) (wc : (Jvm.Cond.code y' bytes' ml' ret').before a0 Z = true) (E : Exa Z h a Cl)
    (hy : y'.cls ≠ "java/lang/invoke/MethodHandle" ∧ y'.cls ≠ "java/lang/invoke/VarHandle") (M : Ctr l Z y' bytes' ml' ret' R' (.ref a :: argsL).toArray h n0 Q') {ps : List FieldType} {rt : Option FieldType} (hpd : parseMethodDescriptor y'.desc = some ⟨ps, rt⟩) (hlen : argsL.length = ps.length) (W : Nat) (hf : R'.frames + 1 ≤ R.frames) (hl : W + (ml' + 11) + R'.locals ≤ R.locals) (hc : cells + R'.cells ≤ R.cells) (hs : slots + R'.slots ≤ R.slots) {rest : List Value} (hst : S = argsL.reverse ++ .ref a :: rest) (hsz : L.size = ml) (hW : (rest.map fun v => v.category).sum ≤ W) (hd : decode bytes pc = .ok (.invokevirtual idx, 3)) (hp : pc + 3 = pc') (K : ∀ v T' h', Cx p l e R m args below meth c Z y bytes ml ret n0 wd F T' h' (cells + R'.cells) (slots + R'.slots) → Q' v h' → Go p e below F n0 Q T' (mkF m pc' L (v.toList ++ rest))) : Go p e below F n0 Q T (mkF m pc L S) := by
  obtain ⟨s, locs, X, hx, rfl, rfl, hZ, hown, hnm, hr, hlk, eT, N, hn, hF⟩ := C; subst hp
  obtain ⟨cB, kB, qa, qb, qc⟩ := isOf hZ eT E
  obtain ⟨v, _, ⟨T', L', k', n'⟩, -, X', ⟨Lc, hQ, e1, e2, e3⟩, st⟩ := X.virtualBack hx (y := y') (z := y') hown (mvT hZ w1) (mvT hZ w2) (notFace_of_selects (args := #[]) (mvT hZ w3)) (mvT hZ w3) (mvT hZ w4) hy (backOf (W := W) (Q := fun v h9 L => (Q' v h9 ∧ h.size ≤ h9.size) ∧ Fr n0 L) (M []) hZ wc wz hf hl) qa qc (g := mkF m pc L S) rfl hsz (Steps.refl _) (argsL := argsL) (rest := rest) (lenOf hpd hlen) hst (by show 2 * 0 + _ ≤ _; omega) hd (fun _ _ => ⟨rfl, eT, hc, hs⟩)
  dsimp only [Pt.U, Pt.locs, Pt.cells, Pt.slots] at X' e1 e2 e3 st hQ
  subst e1 e2 e3
  exact (K v T' T'.heap ⟨s, _, X', hx, rfl, rfl, hZ, hown, hnm, hr, hlk, rfl, N.app hQ.2, hn, fun o t L q => hF o t L (Nat.le_trans hQ.1.2 q)⟩ hQ.1.1).via fun t k => st.trans k
theorem Cx.callP (C : Cx p l e R m args below meth c Z y bytes ml ret n0 wd F T h cells slots) {a : Addr} {idx : Nat} {y' : MethodName} {bytes' : ByteArray} {ml' : Nat} {ret' : Option FieldType} {R' : Room} {Q' : Option Value → Heap → Prop} {argsL : List Value} {Cl : String} (w1 : (Jvm.Cond.methodLink y.cls idx y').before a0 Z = true) (w2 : (Jvm.Cond.instanceMethod y').before a0 Z = true) (w3 : (Jvm.Cond.selects y'.cls y' y').before a0 Z = true) (w4 : (Jvm.Cond.privateMethod y').before a0 Z = true) (wz : (Jvm.Cond.initialized y'.cls).before a0 Z = true) (wc : (Jvm.Cond.code y' bytes' ml' ret').before a0 Z = true) (E : Exa Z h a Cl)
    (hy : y'.cls ≠ "java/lang/invoke/MethodHandle" ∧ y'.cls ≠ "java/lang/invoke/VarHandle") (M : Ctr l Z y' bytes' ml' ret' R' (.ref a :: argsL).toArray h n0 Q') {ps : List FieldType} {rt : Option FieldType} (hpd : parseMethodDescriptor y'.desc = some ⟨ps, rt⟩) (hlen : argsL.length = ps.length) (W : Nat) (hf : R'.frames + 1 ≤ R.frames) (hl : W + (ml' + 11) + R'.locals ≤ R.locals) (hc : cells + R'.cells ≤ R.cells) (hs : slots + R'.slots ≤ R.slots) {rest : List Value} (hst : S = argsL.reverse ++ .ref a :: rest) (hsz : L.size = ml) (hW : (rest.map fun v => v.category).sum ≤ W) (hd : decode bytes pc = .ok (.invokevirtual idx, 3)) (hp : pc + 3 = pc') (K : ∀ v T' h', Cx p l e R m args below meth c Z y bytes ml ret n0 wd F T' h' (cells + R'.cells) (slots + R'.slots) → Q' v h' → Go p e below F n0 Q T' (mkF m pc' L (v.toList ++ rest))) : Go p e below F n0 Q T (mkF m pc L S) := by
  obtain ⟨s, locs, X, hx, rfl, rfl, hZ, hown, hnm, hr, hlk, eT, N, hn, hF⟩ := C; subst hp
  obtain ⟨cq, q1, q2⟩ := E.cell
  obtain ⟨v, _, ⟨T', L', k', n'⟩, -, X', ⟨Lc, hQ, e1, e2, e3⟩, st⟩ := X.privateBack hx (y := y') hown (mvT hZ w1) (mvT hZ w2) (mvT hZ w3) (Cond.privateMethod_at (mvP hZ w4 (args := #[]))) (mvT hZ wc) hy (backOf (W := W) (Q := fun v h9 L => (Q' v h9 ∧ h.size ≤ h9.size) ∧ Fr n0 L) (M []) hZ wc wz hf hl) (g := mkF m pc L S) rfl hsz (Steps.refl _) (a := a) (by rw [eT]; exact q1) q2 (argsL := argsL) (rest := rest) (lenOf hpd hlen) hst (by show 2 * 0 + _ ≤ _; omega) hd (fun _ _ => ⟨rfl, eT, hc, hs⟩)
  dsimp only [Pt.U, Pt.locs, Pt.cells, Pt.slots] at X' e1 e2 e3 st hQ
  subst e1 e2 e3
  exact (K v T' T'.heap ⟨s, _, X', hx, rfl, rfl, hZ, hown, hnm, hr, hlk, rfl, N.app hQ.2, hn, fun o t L q => hF o t L (Nat.le_trans hQ.1.2 q)⟩ hQ.1.1).via fun t k => st.trans k
theorem Cx.callF (C : Cx p l e R m args below meth c Z y bytes ml ret n0 wd F T h cells slots) {a : Addr} {idx : Nat} {y' : MethodName} {bytes' : ByteArray} {ml' : Nat} {ret' : Option FieldType} {R' : Room} {Q' : Option Value → Heap → Prop} {argsL : List Value} {Cl : String} {xi : MethodName} {cnt : Nat} (w1 : (Jvm.Cond.methodLink y.cls idx xi).before a0 Z = true) (w2 : (Jvm.Cond.declares xi).before a0 Z = true) (w3 : (Jvm.Cond.interfaceMethod xi.cls xi.cls xi.name xi.desc).before a0 Z = true) (w4 : (Jvm.Cond.selects Cl xi y').before a0 Z = true) (w5 : (Jvm.Cond.instanceMethod y').before a0 Z = true) (w6 : (Jvm.Cond.publicMethod y').before a0 Z = true) (w7 : (Jvm.Cond.unhidden Cl xi.name xi.desc).before a0 Z = true) (w8 : (Jvm.Cond.castable Cl xi.cls).before a0 Z = true) (wz : (Jvm.Cond.initialized y'.cls).before a0 Z = true) (wc : (Jvm.Cond.code y' bytes' ml' ret').before a0 Z = true) (E : Exa Z h a Cl)
    (hy : xi.cls ≠ "java/lang/invoke/MethodHandle" ∧ xi.cls ≠ "java/lang/invoke/VarHandle") (M : Ctr l Z y' bytes' ml' ret' R' (.ref a :: argsL).toArray h n0 Q') {ps : List FieldType} {rt : Option FieldType} (hpd : parseMethodDescriptor xi.desc = some ⟨ps, rt⟩) (hlen : argsL.length = ps.length) (W : Nat) (hf : R'.frames + 1 ≤ R.frames) (hl : W + (ml' + 11) + R'.locals ≤ R.locals) (hc : cells + R'.cells ≤ R.cells) (hs : slots + R'.slots ≤ R.slots) {rest : List Value} (hst : S = argsL.reverse ++ .ref a :: rest) (hsz : L.size = ml) (hW : (rest.map fun v => v.category).sum ≤ W) (hd : decode bytes pc = .ok (.invokeinterface idx cnt, 5)) (hp : pc + 5 = pc') (K : ∀ v T' h', Cx p l e R m args below meth c Z y bytes ml ret n0 wd F T' h' (cells + R'.cells) (slots + R'.slots) → Q' v h' → Go p e below F n0 Q T' (mkF m pc' L (v.toList ++ rest))) : Go p e below F n0 Q T (mkF m pc L S) := by
  obtain ⟨s, locs, X, hx, rfl, rfl, hZ, hown, hnm, hr, hlk, eT, N, hn, hF⟩ := C; subst hp
  obtain ⟨cB, kB, qa, qb, qc⟩ := isOf hZ eT E
  obtain ⟨v, _, ⟨T', L', k', n'⟩, -, X', ⟨Lc, hQ, e1, e2, e3⟩, st⟩ := X.interfaceBack hx (xi := xi) (y := y') hown (mvT hZ w1) (mvT hZ w2) (mvT hZ w3 (by simp [Cond.onTables, Cond.keepsFace, Cond.keeps, Cond.steady, Cond.faceAtom, hy.1, hy.2])) (mvT hZ w4) (mvT hZ w5) (mvT hZ w6) (mvT hZ w7) (mvT hZ w8) hy (backOf (W := W) (Q := fun v h9 L => (Q' v h9 ∧ h.size ≤ h9.size) ∧ Fr n0 L) (M []) hZ wc wz hf hl) qa qb qc (g := mkF m pc L S) rfl hsz (Steps.refl _) (argsL := argsL) (rest := rest) (lenOf hpd hlen) hst (by show 2 * 0 + _ ≤ _; omega) hd (fun _ _ => ⟨rfl, eT, hc, hs⟩)
  dsimp only [Pt.U, Pt.locs, Pt.cells, Pt.slots] at X' e1 e2 e3 st hQ
  subst e1 e2 e3
  exact (K v T' T'.heap ⟨s, _, X', hx, rfl, rfl, hZ, hown, hnm, hr, hlk, rfl, N.app hQ.2, hn, fun o t L q => hF o t L (Nat.le_trans hQ.1.2 q)⟩ hQ.1.1).via fun t k => st.trans k
theorem Cx.ifnullYes (C : Cx p l e R m args below meth c Z y bytes ml ret n0 wd F T h cells slots) {o : Int} (hd : decode bytes pc = .ok (.ifnull o, 3)) (ho : 0 ≤ (pc : Int) + o) (hp : ((pc : Int) + o).toNat = pc') (K : Go p e below F n0 Q T (mkF m pc' L S)) : Go p e below F n0 Q T (mkF m pc L (.null :: S)) := by
  obtain ⟨s, locs, X, hx, rfl, -⟩ := C
  exact K.via fun t k => XS.ifnullYes X.here hx rfl rfl hd rfl ho hp k
theorem Cx.ifnonnullYes (C : Cx p l e R m args below meth c Z y bytes ml ret n0 wd F T h cells slots) {b : Addr} {o : Int} (hd : decode bytes pc = .ok (.ifnonnull o, 3)) (ho : 0 ≤ (pc : Int) + o) (hp : ((pc : Int) + o).toNat = pc') (K : Go p e below F n0 Q T (mkF m pc' L S)) : Go p e below F n0 Q T (mkF m pc L (.ref b :: S)) := by
  obtain ⟨s, locs, X, hx, rfl, -⟩ := C
  exact K.via fun t k => XS.ifnonnullYes X.here hx rfl rfl hd rfl ho hp k
theorem Cx.acmp_eq (C : Cx p l e R m args below meth c Z y bytes ml ret n0 wd F T h cells slots) {a b : Addr} {o : Int} {py pn : Nat} (hd : decode bytes pc = .ok (.if_acmp .eq o, 3)) (ho : 0 ≤ (pc : Int) + o) (hy : ((pc : Int) + o).toNat = py) (hn : pc + 3 = pn) (K1 : a = b → Go p e below F n0 Q T (mkF m py L S)) (K2 : ¬ a = b → Go p e below F n0 Q T (mkF m pn L S)) : Go p e below F n0 Q T (mkF m pc L (.ref b :: .ref a :: S)) := by
  obtain ⟨s, locs, X, hx, rfl, -⟩ := C; subst hn
  by_cases q : a = b
  · exact (K1 q).via fun t k => XT.acmpYes X.here hx rfl rfl hd rfl rfl rfl (XT.aa_eq_t (congrArg Value.ref q)) ho hy k
  · exact (K2 q).via fun t k => XT.acmpNo X.here hx rfl hd rfl rfl rfl (XT.aa_eq_f (fun z => q (Value.ref.inj z))) k
theorem Cx.acopy (C : Cx p l e R m args below meth c Z y bytes ml ret n0 wd F T h cells slots) {idx : Nat} {a b : Addr} {k k' : ClassId} {ty : FieldType} {z z' sp dp nn : Int32} {vs vd us : List Value} {dv dd : Value} (w1 : (Jvm.Cond.methodLink y.cls idx Jvm.Stand.acN).before a0 Z = true) (w2 : (Jvm.Cond.native Jvm.Stand.acN).before a0 Z = true) (w3 : (Jvm.Cond.static Jvm.Stand.acN).before a0 Z = true) (w4 : (Jvm.Cond.initialized "java/lang/System").before a0 Z = true)
    (A : Arv Z h a k ty z vs dv) (B : Arv Z h b k' ty z' vd dd) (hty : refKind ty = false) (h1 : ¬ sp < 0) (h2 : ¬ dp < 0) (h3 : ¬ nn < 0) (h4 : sp.toNatClampNeg + nn.toNatClampNeg ≤ z.toNatClampNeg) (h5 : dp.toNatClampNeg + nn.toNatClampNeg ≤ z'.toNatClampNeg) (hus : us = (List.range nn.toNatClampNeg).map fun i => vs.getD (sp.toNatClampNeg + i) dv) (hln : dp.toNatClampNeg + nn.toNatClampNeg ≤ vd.length) (g : n0 ≤ b) (hsz : L.size = ml) (hf : 1 ≤ R.frames) (W : Nat) (hW : (S.map fun v => v.category).sum ≤ W) (hlo : W + (nativeFrameWords "java/lang/System" "arraycopy" 5 + 11) ≤ R.locals)
    (hd : decode bytes pc = .ok (.invokestatic idx, 3)) (hp : pc + 3 = pc') (K : ∀ T' h', Cx p l e R m args below meth c Z y bytes ml ret n0 wd F T' h' cells slots → Keep h h' [b] → Arv Z h' b k' ty z' (vd.take dp.toNatClampNeg ++ us ++ vd.drop (dp.toNatClampNeg + nn.toNatClampNeg)) dd → Go p e below F n0 Q T' (mkF m pc' L S)) : Go p e below F n0 Q T (mkF m pc L (.int nn :: .int dp :: .ref b :: .int sp :: .ref a :: S)) := by
  obtain ⟨s, locs, X, hx, rfl, rfl, hZ, hown, hnm, hr, hlk, eT, N, hn, hF⟩ := C; subst hp
  obtain ⟨T', h', L9, X', e', N', K', V', st⟩ := cpA X hx hZ hown w1 w2 w3 w4 eT A B (Or.inl ⟨rfl, hty⟩) h1 h2 h3 h4 h5 hus hln N g (g := mkF m pc L (.int nn :: .int dp :: .ref b :: .int sp :: .ref a :: S)) rfl hsz rfl hd hf (W := W) (by show 2 * 0 + _ ≤ _; omega) hlo
  exact (K T' h' ⟨s, _, X', hx, rfl, rfl, hZ, hown, hnm, hr, hlk, e', N', hn, fun o t L q => hF o t L (Nat.le_trans K'.1 q)⟩ K' V').via st
theorem Cx.newrefs (C : Cx p l e R m args below meth c Z y bytes ml ret n0 wd F T h cells slots) {idx : Nat} {Cn ad : String} (w1 : (Jvm.Cond.classLink y.cls idx Cn).before a0 Z = true) (w2 : (Jvm.Cond.arrayOver (.object Cn)).before a0 Z = true) {n : Int32} (cap : Nat) (hn0 : ¬ n < 0) (hcap : n.toNatClampNeg ≤ cap) (hb : cap * 8 ≤ 536870912) (hc : cells + 1 ≤ R.cells) (hl : slots + cap ≤ R.slots) (had : "[" ++ (FieldType.object Cn).toString = ad) (hd : decode bytes pc = .ok (.anewarray idx, 3)) (hp : pc + 3 = pc')
    (K : ∀ T' h' b k, Cx p l e R m args below meth c Z y bytes ml ret n0 wd F T' h' (cells + 1) (slots + cap) → b = h.size → n0 ≤ b → Ext h h' → Arv Z h' b k (.object Cn) n (List.replicate cap .null) .null → Exa Z h' b ad → Ovr Z k Cn → Go p e below F n0 Q T' (mkF m pc' L (.ref b :: S))) : Go p e below F n0 Q T (mkF m pc L (.int n :: S)) := by
  have hz := C.size
  obtain ⟨s, locs, X, hx, rfl, rfl, hZ, hown, hnm, hr, hlk, eT, N, hn, hF⟩ := C; subst hp
  obtain ⟨T', h', cA, X', e', E, A, Ea, O, st⟩ := newRE X hx hZ hown w1 w2 eT (g := mkF m pc L (.int n :: S)) rfl hd rfl hn0 (cap := cap) hcap hb hc hl had
  exact (K T' h' h.size cA ⟨s, locs, X', hx, rfl, rfl, hZ, hown, hnm, hr, hlk, e', N, hn, fun o t L q => hF o t L (Nat.le_trans E.1 q)⟩ rfl hz E ((Arv.new A hn0).pad (pad_rep [] _ cap)) Ea O).via st
theorem Cx.aastore (C : Cx p l e R m args below meth c Z y bytes ml ret n0 wd F T h cells slots) {a b : Addr} {k : ClassId} {n j : Int32} {Cn : String} {vs : List Value} {dv : Value} (A : Arv Z h a k (.object Cn) n vs dv) (O : Ovr Z k Cn) (I : Ins Z h b Cn true) (hj : ¬ j < 0 ∧ j < n) (hlen : j.toNatClampNeg < vs.length) (g : n0 ≤ a) (hd : decode bytes pc = .ok (.aastore, 1)) (hp : pc + 1 = pc')
    (K : ∀ T' h', Cx p l e R m args below meth c Z y bytes ml ret n0 wd F T' h' cells slots → Wr h h' a j.toNatClampNeg (.ref b) → Arv Z h' a k (.object Cn) n (vs.set j.toNatClampNeg (.ref b)) dv → Go p e below F n0 Q T' (mkF m pc' L S)) : Go p e below F n0 Q T (mkF m pc L (.ref b :: .int j :: .ref a :: S)) := by
  obtain ⟨s, locs, X, hx, rfl, rfl, hZ, hown, hnm, hr, hlk, eT, N, hn, hF⟩ := C; subst hp
  obtain ⟨cl, Ar, q1, Sz, q3, H, G⟩ := A
  obtain ⟨T', h', X', e', W, st⟩ := stR X hx hZ eT Ar (j := j) (inb_of Sz hj) rfl (Sto.ofV Ar q1 O I) (g := mkF m pc L (.ref b :: .int j :: .ref a :: S)) rfl rfl hd
  exact (K T' h' ⟨s, _, X', hx, rfl, rfl, hZ, hown, hnm, hr, hlk, e', Fr.snoc X' N g, hn, fun o t L q => hF o t L (W.size ▸ q)⟩ W (Arv.set Ar q1 Sz q3 H G rfl W _ rfl hlen)).via st
theorem Cx.aaload (C : Cx p l e R m args below meth c Z y bytes ml ret n0 wd F T h cells slots) {a : Addr} {k : ClassId} {n j : Int32} {Cn : String} {v : Value} {vs : List Value} {dv : Value} (A : Arv Z h a k (.object Cn) n vs dv) (hj : ¬ j < 0 ∧ j < n) (hv : vs.getD j.toNatClampNeg dv = v) (hd : decode bytes pc = .ok (.aaload, 1)) (hp : pc + 1 = pc') (K : Go p e below F n0 Q T (mkF m pc' L (v :: S))) : Go p e below F n0 Q T (mkF m pc L (.int j :: .ref a :: S)) := by
  obtain ⟨s, locs, X, hx, rfl, rfl, hZ, hown, hnm, hr, hlk, eT, N, hn, hF⟩ := C; subst hp
  obtain ⟨cl, Ar, q1, Sz, q3, H, G⟩ := A
  exact K.via fun t k => X.aaload hx (j := j) (by rw [eT]; exact Ar.1) (State.isArrayOf_alike hZ.alike Ar.2.1) rfl Ar.2.2 (inb_of Sz hj) (H.at (inb_of Sz hj) hv) (g := mkF m pc L (.int j :: .ref a :: S)) rfl rfl hd t k
theorem Cx.clonearr (C : Cx p l e R m args below meth c Z y bytes ml ret n0 wd F T h cells slots) {idx : Nat} {ad : String} (w1 : (Jvm.Cond.methodLink y.cls idx ⟨ad, "clone", "()Ljava/lang/Object;"⟩).before a0 Z = true) (w2 : (Jvm.Cond.sameMethod ad "java/lang/Object" "clone" "()Ljava/lang/Object;").before a0 Z = true) (w3 : (Jvm.Cond.native ⟨"java/lang/Object", "clone", "()Ljava/lang/Object;"⟩).before a0 Z = true) (w4 : (Jvm.Cond.instanceMethod ⟨"java/lang/Object", "clone", "()Ljava/lang/Object;"⟩).before a0 Z = true) (w5 : (Jvm.Cond.selects ad ⟨ad, "clone", "()Ljava/lang/Object;"⟩ ⟨"java/lang/Object", "clone", "()Ljava/lang/Object;"⟩).before a0 Z = true) (w6 : (Jvm.Cond.castable ad "java/lang/Cloneable").before a0 Z = true)
    {a : Addr} {k : ClassId} {z : Int32} {ty : FieldType} {vs : List Value} {dv : Value} (A : Arv Z h a k ty z vs dv) (E : Exa Z h a ad) (hsz : L.size = ml) (hf : 1 ≤ R.frames) (W : Nat) (hW : (S.map fun v => v.category).sum ≤ W) (hlo : W + 14 ≤ R.locals) (cap : Nat) (hcap : z.toNatClampNeg ≤ cap) (hc : cells + 1 ≤ R.cells) (hl : slots + cap ≤ R.slots) (hd : decode bytes pc = .ok (.invokevirtual idx, 3)) (hp : pc + 3 = pc')
    (K : ∀ T' h' b, Cx p l e R m args below meth c Z y bytes ml ret n0 wd F T' h' (cells + 1) (slots + cap) → b = h.size → n0 ≤ b → Ext h h' → Arv Z h' b k ty z vs dv → Exa Z h' b ad → Go p e below F n0 Q T' (mkF m pc' L (.ref b :: S))) : Go p e below F n0 Q T (mkF m pc L (.ref a :: S)) := by
  have hz := C.size
  obtain ⟨s, locs, X, hx, rfl, rfl, hZ, hown, hnm, hr, hlk, eT, N, hn, hF⟩ := C; subst hp
  obtain ⟨cl, Ar, q1, Sz, q3, H, G⟩ := A
  have FC : FitC Z cl := fitC_of Ar fun i hi v hv => by rw [H i hi] at hv; cases hv; exact G i hi
  obtain ⟨T', h', X', e', Ex, A', E', st⟩ := cloneA X hx hZ hown w1 w2 w3 w4 w5 w6 eT Ar E FC (g := mkF m pc L (.ref a :: S)) rfl hsz rfl hd hf (W := W) (cap := cap) (by show 2 * 0 + _ ≤ _; omega) hlo (by rw [Sz]; exact hcap) hc hl
  exact (K T' h' h.size ⟨s, locs, X', hx, rfl, rfl, hZ, hown, hnm, hr, hlk, e', N, hn, fun o t L q => hF o t L (Nat.le_trans Ex.1 q)⟩ rfl hz Ex ⟨cloneOf cl, A', q1, Sz, q3, H, G⟩ E').via st
theorem Cx.castY (C : Cx p l e R m args below meth c Z y bytes ml ret n0 wd F T h cells slots) {idx : Nat} {Kn : String} {a : Addr} (w : (Jvm.Cond.classLink y.cls idx Kn).before a0 Z = true) (I : Ins Z h a Kn true) (hd : decode bytes pc = .ok (.checkcast idx, 3)) (hp : pc + 3 = pc') (K : ∀ T', Cx p l e R m args below meth c Z y bytes ml ret n0 wd F T' h cells slots → Go p e below F n0 Q T' (mkF m pc' L (.ref a :: S))) : Go p e below F n0 Q T (mkF m pc L (.ref a :: S)) := by
  obtain ⟨s, locs, X, hx, rfl, rfl, hZ, hown, hnm, hr, hlk, eT, N, hn, hF⟩ := C; subst hp
  obtain ⟨T', X', e', st⟩ := Jvm.RoadKit.castY X hx hZ hown w eT I (g := mkF m pc L (.ref a :: S)) rfl rfl hd
  exact (K T' ⟨s, locs, X', hx, rfl, rfl, hZ, hown, hnm, hr, hlk, e', N, hn, hF⟩).via st
end Layer
end Jvm.Ow
-- (turned from the kit's worked steps Example/ToyDoubler, ApplyDoubler, ForwardStatic) the lambda of byEveryColumn
namespace Jvm.Ow
open Sem ClassFile Op Lib Jvm.Stand Jvm.Free Jvm.LawKit Jvm.RoadKit
namespace Lam
open Lambda
def RL : String := "com/example/nestor/nestor/engine/Relation"
def LN : String := "lambda$byEveryColumn$0"
def σ : Lambda.Shape :=
  { iface := "java/util/function/IntUnaryOperator", name := "applyAsInt", sam := ⟨[.int], some .int⟩, captured := [], kind := 6, implClass := RL, implName := LN, implDesc := ⟨[.int], some .int⟩, implItf := false, inst := ⟨[.int], some .int⟩ }
def D : ClassFile := (σ.file RL).getD { minorVersion := 0, majorVersion := 0, constantPool := #[], accessFlags := 0, thisClass := 0, superClass := 0, interfaces := #[], fields := #[], methods := #[], attributes := #[] }
def forwarder : Method := ((layoutMethods D).bind (·[1]?)).getD default
def fcode : ByteArray := ⟨#[0x1b, 0xb8, 0x00, 0x11, 0xac]⟩
theorem fd0 : decode fcode 0 = .ok (.iload_n 1, 1) := by decide +kernel
theorem fd1 : decode fcode 1 = .ok (.invokestatic 17, 3) := by decide +kernel
theorem fd4 : decode fcode 4 = .ok (.ireturn, 1) := by decide +kernel
theorem file_is : σ.file RL = some D := by
  have h : (σ.file RL).isSome = true := by decide +kernel
  obtain ⟨x, hx⟩ := Option.isSome_iff_exists.mp h
  simp [D, hx]
theorem second_is : ∀ ms, layoutMethods D = some ms → ms[1]? = some forwarder := by
  intro ms hms
  have h : ((layoutMethods D).bind (·[1]?)).isSome = true := by decide +kernel
  obtain ⟨x, hx⟩ := Option.isSome_iff_exists.mp h
  have hf : forwarder = x := by simp [forwarder, hx]
  rw [hms] at hx
  rw [hf]
  exact hx
theorem f_code : (forwarder.code.map fun c => (c.code.data, c.maxLocals)) = some (fcode.data, 2) := by decide +kernel
theorem f_flags : (forwarder.accessFlags, forwarder.name, forwarder.sig.returnType) = (0x0001, "applyAsInt", some FieldType.int) := by decide +kernel
theorem e17 : D.constantPool[17]? = some (.methodref 14 16) ∧ D.constantPool.className? 14 = some RL ∧ D.constantPool.nameAndType? 16 = some (LN, "(I)I") := by decide +kernel
theorem e14 : ∃ n, D.constantPool[14]? = some (.class_ n) ∧ D.constantPool.string? n = some RL ∧ 14 ≠ D.thisClass := by
  refine ⟨13, ?_⟩
  decide +kernel
theorem made_facts {e : Setting} {vm : Vm} {d c : ClassId} {dk : Class} (hd : vm.classes[d]? = some dk) (hname : dk.name = RL) (h : isMade e vm d σ c = true) :
    ∃ (k tk : Class) (file : ClassFile) (methk : Method) (ck : Code) (toy : ClassId) (t : MethodId),
      vm.classes[c]? = some k ∧ k.name = "com/example/nestor/nestor/engine/Relation$$Lambda" ∧ k.cf = some file ∧ file.constantPool = D.constantPool ∧
      vm.method? ⟨c, 1⟩ = some methk ∧ methk.code = some ck ∧ ck.code = fcode ∧ ck.maxLocals = 2 ∧ methk.locks = false ∧ methk.accessFlags = 0x0001 ∧ methk.sig.returnType = some .int ∧
      vm.findClass RL = some toy ∧ vm.classes[toy]? = some tk ∧ ((methodIn toy LN "(I)I" tk.isInterface none).ask e vm).1 = .ok t ∧
      vm.methodReady c 17 t ∧ vm.classReady c 14 toy := by
  obtain ⟨dk', k, ok, tk, file, cf, object, iface, toy, lay, methods, target, found, hd', hk, hfile, hcf, -, -, -, -, hms, ht, htk, hg, -, hrec, -, -, -, -, hpool, hmeth, -, -, hres, -⟩ := isMade_spec h
  cases hd.symm.trans hd'
  rw [hname, file_is] at hcf
  cases hcf
  obtain ⟨b, hb, hsame⟩ := hmeth 1 forwarder (second_is methods hms)
  simp only [sameMethod, Bool.and_eq_true, decide_eq_true_eq] at hsame
  obtain ⟨⟨hn, -, hsig, hfl⟩, hcode⟩ := hsame
  have fc := f_code
  have ff := f_flags
  simp only [Prod.mk.injEq] at ff
  cases hfc : forwarder.code with
  | none => rw [hfc] at fc; cases fc
  | some x =>
    cases hbc : b.code with
    | none => simp [hfc, hbc] at hcode
    | some y =>
      simp only [hfc, hbc, Bool.and_eq_true, decide_eq_true_eq] at hcode
      simp only [hfc, Option.map_some, Option.some.injEq, Prod.mk.injEq] at fc
      obtain ⟨n, h14, hs14, hne⟩ := e14
      refine ⟨k, tk, file, b, y, toy, target, hk, by rw [hrec.1, hname]; rfl, hfile, hpool.2.1, by simp [Vm.method?, hk, hb], hbc, ?_, by rw [← hcode.1.1.1.1.2.1]; exact fc.2, ?_, by rw [← hfl]; exact ff.1, by rw [← hsig]; exact ff.2.2, ht, htk, hg,
        ⟨k, hk, hres 17 _ (resolvedOf_method e17.1 e17.2.1 ht htk e17.2.2 hg)⟩, ⟨k, hk, hres 14 _ (resolvedOf_class h14 hne hs14 ht)⟩⟩
      · rw [← hcode.1.1.1.1.2.2]
        exact ByteArray.ext fc.1
      · simp [Method.locks, Method.isSynchronized, ← hfl, ff.1, hasFlag, Acc.synchronized]
/-- what the walk needs of the made class, of the tables alone -/
def Made (s : State) (c : ClassId) : Prop :=
  ∃ (k tk : Class) (file : ClassFile) (methk : Method) (ck : Code) (toy : ClassId) (t r0 : MethodId) (r : Method),
    s.vm.classes[c]? = some k ∧ k.name = "com/example/nestor/nestor/engine/Relation$$Lambda" ∧ k.cf = some file ∧ file.constantPool = D.constantPool ∧
    s.vm.method? ⟨c, 1⟩ = some methk ∧ methk.code = some ck ∧ ck.code = fcode ∧ ck.maxLocals = 2 ∧ methk.locks = false ∧ methk.accessFlags = 0x0001 ∧ methk.sig.returnType = some .int ∧
    s.vm.findClass RL = some toy ∧ s.vm.classes[toy]? = some tk ∧ ((methodIn toy LN "(I)I" tk.isInterface none).ask { classPath := fun _ => none } s.vm).1 = .ok t ∧
    s.vm.methodReady c 17 t ∧ s.vm.classReady c 14 toy ∧
    s.methodNamed? ⟨"java/util/function/IntUnaryOperator", "applyAsInt", "(I)I"⟩ = some r0 ∧ s.vm.method? r0 = some r ∧ s.vm.assignable c r0.cls = true ∧ selectMethod {} s.vm c r0 = .method ⟨c, 1⟩ ∧
    ((c :: s.vm.superclasses c).any fun k => (declaredIn s.vm r.name r.desc k).any fun (_, y) => y.isPrivate || y.isStatic) = false
abbrev xi : MethodName := ⟨"java/util/function/IntUnaryOperator", "applyAsInt", "(I)I"⟩
theorem kept39 {s : State} {vm' : Vm} (h : s.Warmed39 vm') {c : ClassId} {k : Class} {i : Nat} {r : Resolved} (hk : s.vm.classes[c]? = some k) (hr : k.resolved[i]? = some (some r)) : ∃ k', vm'.classes[c]? = some k' ∧ k'.resolved[i]? = some (some r) := by
  obtain ⟨k', h1, -, -, h4, -⟩ := h.2.2.2 c k hk
  refine ⟨k', h1, ?_⟩
  rcases h4 i with q | ⟨q, -⟩
  · rw [q]; exact hr
  · rw [q] at hr; cases hr
theorem Made.wide {Z s : State} {c : ClassId} (hZ : Z.Warmed39 s.vm) (M : Made Z c) : Made s c := by
  have hA := hZ.alike
  obtain ⟨k, tk, file, methk, ck, toy, t, r0, r, m1, m2, m3, m4, m5, m6, m7, m8, m9, m10, m11, m12, m13, m14, ⟨ka, m15, m15'⟩, ⟨kb, m16, m16'⟩, m17, m18, m19, m20, m21⟩ := M
  obtain ⟨k', a1, a2⟩ := hA.2.2 _ _ m1
  obtain ⟨tk', b1, b2⟩ := hA.2.2 _ _ m13
  have n7 : tk'.isInterface = tk.isInterface := by rw [b2]; rfl
  have hn : s.methodNamed? xi = some r0 := by
    have := State.methodNamed?_setVm (s := Z) hA xi
    rw [m17] at this
    exact this
  refine ⟨k', tk', file, methk, ck, toy, t, r0, r, a1, by rw [a2]; exact m2, by rw [a2]; exact m3, m4, by rw [hA.method?]; exact m5, m6, m7, m8, m9, m10, m11, by rw [hA.findClass]; exact m12, b1, by rw [n7, methodIn_ask_alike hA]; exact m14, kept39 hZ m15 m15', kept39 hZ m16 m16', hn, by rw [hA.method?]; exact m18, by rw [hA.assignable]; exact m19, by rw [hA.selectMethod]; exact m20, ?_⟩
  simp only [hA.superclasses, hA.declaredIn]; exact m21
/-- the function object lies there -/
def LamS (Z : State) (h : Heap) (a : Addr) : Prop := ∃ cell : Cell, h[a]? = some cell ∧ cell.vm = .none ∧ Made Z cell.cls
/-- the site hands it out -/
def Site (Z : State) (x : MethodName) (pc : Nat) (a : Addr) : Prop := ∃ (m : MethodId) (k : Class) (i0 p0 : Nat), Z.methodNamed? x = some m ∧ Z.vm.classes[m.cls]? = some k ∧ (k.callSites.find? fun y => y.1 == m.idx && y.2.1 == pc) = some (i0, p0, .constant a)
theorem start {Z : State} {args : Array Value} {x : MethodName} {pc index : Nat} (hx : x.cls = RL) (h : (Cond.lambdaSite x pc index σ).before args Z = true) (hd : (Cond.declares xi).before args Z = true) (hi : (Cond.interfaceMethod xi.cls xi.cls xi.name xi.desc).before args Z = true) : ∃ a, LamS Z Z.heap a ∧ Site Z x pc a := by
  obtain ⟨c, one, hat⟩ := Cond.lambdaSite_spec h
  obtain ⟨m, k, cf, i0, p0, lk, hm, hk, -, -, -, hfind, hmade, hcan, hl⟩ := State.lambdaAt?_spec hat
  obtain ⟨k', hk', hnm⟩ := className_of_methodNamed hm
  cases hk.symm.trans hk'
  rcases hl with ⟨a, cell, rfl, -, -, hcell, rfl, hvm, -⟩ | ⟨-, -, q⟩
  · obtain ⟨kK, tk, file, methk, ckK, toy, t, f1, f2, f3, f4, f5, f6, f7, f8, f9, f10, f11, f12, f13, f14, f15, f16⟩ := made_facts hk (hnm.trans hx) hmade
    obtain ⟨kF, mK, g1, g2, g3, g4, g5⟩ := Jvm.Free.HMW.FnX.of_site (xi := xi) (args := args) hmade hcan rfl rfl (by decide +kernel) hi f1 f5 f10
    obtain ⟨r0, r, hn, hrm, -, -⟩ := Cond.declares_spec hd
    obtain ⟨u1, u2, u3⟩ := g5 r0 r hn hrm
    exact ⟨a, ⟨cell, hcell, hvm, kK, tk, file, methk, ckK, toy, t, r0, r, f1, f2, f3, f4, f5, f6, f7, f8, f9, f10, f11, f12, f13, f14, f15, f16, hn, hrm, u1, u2, u3⟩, m, k, i0, p0, hm, hk, hfind⟩
  · exact absurd rfl q
theorem LamS.ext {Z : State} {h h' : Heap} {a : Addr} (F : LamS Z h a) (E : Ext h h') : LamS Z h' a := by obtain ⟨c, h1, r⟩ := F; exact ⟨c, E.2 _ _ h1, r⟩
theorem LamS.lt {Z : State} {h : Heap} {a : Addr} (F : LamS Z h a) : a < h.size := by obtain ⟨c, h1, -⟩ := F; exact (Array.getElem?_eq_some_iff.mp h1).1
theorem LamS.other {Z : State} {h h' : Heap} {a b : Addr} {sl : Nat} {v : Value} (F : LamS Z h a) (W : Wr h h' b sl v) (q : a ≠ b) : LamS Z h' a := by
  obtain ⟨c, h1, r⟩ := F
  obtain ⟨cell, w1, w2, w3, rfl⟩ := W
  exact ⟨c, by rw [Array.getElem?_setIfInBounds_ne (Ne.symm q)]; exact h1, r⟩
theorem LamS.keep {Z : State} {h h' : Heap} {a : Addr} {ws : List Addr} (F : LamS Z h a) (K : Keep h h' ws) (q : a ∉ ws) : LamS Z h' a := by obtain ⟨c, h1, r⟩ := F; exact ⟨c, K.2.1 a c h1 q, r⟩
end Lam
end Jvm.Ow
namespace Jvm.Ow
open Sem ClassFile Op Lib Jvm.Stand Jvm.Free Jvm.LawKit Jvm.RoadKit
section LamLaws
variable {p : Program} {l : Launch} {e : Env} {R : Room} {m : MethodId} {args : Array Value} {below : List Frame} {meth : Method} {c : Code} {T : State} {cells slots : Nat} {Z : State} {a0 : Array Value} {h : Heap} {y : MethodName} {bytes : ByteArray} {ml n0 : Nat} {ret : Option FieldType} {wd : Bool} {F : Outcome → State → List Loc → Prop} {Q : Option Value → Heap → Prop} {pc pc' : Nat} {L : Array Slot} {S : List Value}
theorem Cx.lamConst (C : Cx p l e R m args below meth c Z y bytes ml ret n0 wd F T h cells slots) {idx : Nat} {a : Addr} (st : Lam.Site Z y pc a) (hsz : L.size = ml) (hW : (S.map fun v => v.category).sum + 3072 ≤ R.locals) (hd : decode bytes pc = .ok (.invokedynamic idx, 5)) (hp : pc + 5 = pc') (K : Go p e below F n0 Q T (mkF m pc' L (.ref a :: S))) : Go p e below F n0 Q T (mkF m pc L S) := by
  obtain ⟨s, locs, X, hx, rfl, rfl, hZ, hown, hnm, hr, hlk, eT, N, hn, hF⟩ := C; subst hp
  obtain ⟨m', k, i0, p0, q1, q2, q3⟩ := st
  have q1' : s.methodNamed? y = some m' := by
    have := State.methodNamed?_setVm (s := Z) hZ.alike y
    rw [q1] at this
    exact this
  cases hnm.2.symm.trans q1'
  obtain ⟨k', hk', he⟩ := hZ.alike.2.2 _ _ q2
  exact K.via fun t kk => X.lambdaConstant hx (g := mkF m pc L S) rfl hsz hd hk' (by rw [he]; exact q3) (by rw [X.admits.platform]; show 2 * 0 + (S.map fun v => v.category).sum + 3072 ≤ R.locals; omega) kk
abbrev Lam.tn : MethodName := ⟨"com/example/nestor/nestor/engine/Relation", "lambda$byEveryColumn$0", "(I)I"⟩
theorem Lam.weak {tb : Tables} {e : Env} {mid below : List Frame} {a b : State} (h : Steps tb e (mid ++ below) a b) : Steps tb e below a b := by
  obtain ⟨n, hn, w⟩ := h
  exact ⟨n, hn, fun k hk => (w k hk).weaken⟩
set_option maxHeartbeats 4000000 in
theorem Cx.applyLam (C : Cx p l e R m args below meth c Z y bytes ml ret n0 wd F T h cells slots) {idx cnt : Nat} {a : Addr} {i : Int32} {lc : ByteArray} (hl0 : decode lc 0 = .ok (.iload_n 0, 1)) (hl1 : decode lc 1 = .ok (.ireturn, 1)) (w1 : (Jvm.Cond.methodLink y.cls idx Lam.xi).before a0 Z = true) (w2 : (Jvm.Cond.declares Lam.xi).before a0 Z = true) (w3 : (Jvm.Cond.interfaceMethod Lam.xi.cls Lam.xi.cls Lam.xi.name Lam.xi.desc).before a0 Z = true)
    (w4 : (Jvm.Cond.static Lam.tn).before a0 Z = true) (w5 : (Jvm.Cond.code Lam.tn lc 1 (some .int)).before a0 Z = true) (w6 : (Jvm.Cond.initialized Lam.RL).before a0 Z = true) (Lm : Lam.LamS Z h a) (hsz : L.size = ml) (W : Nat) (hW : (S.map fun v => v.category).sum ≤ W) (hf : 2 ≤ R.frames) (hl : W + 40 ≤ R.locals) (hc : cells ≤ R.cells) (hs : slots ≤ R.slots)
    (hd : decode bytes pc = .ok (.invokeinterface idx cnt, 5)) (hp : pc + 5 = pc') (K : ∀ T', Cx p l e R m args below meth c Z y bytes ml ret n0 wd F T' h cells slots → Go p e below F n0 Q T' (mkF m pc' L (.int i :: S))) : Go p e below F n0 Q T (mkF m pc L (.int i :: .ref a :: S)) := by
  obtain ⟨s, locs, X, hx, rfl, rfl, hZ, hown, hnm, hr, hlk, eT, N, hn, hF⟩ := C; subst hp
  obtain ⟨cell, hcell, hvm, M⟩ := Lm
  obtain ⟨k, tk, file, methk, ck, toy, t, r0, r, m1, m2, m3, m4, m5, m6, m7, m8, m9, m10, m11, m12, m13, m14, m15, m16, m17, m18, m19, m20, m21⟩ := M.wide hZ
  have v2 : (Jvm.Cond.declares Lam.xi).before args s = true := mvT hZ w2
  have v3 : (Jvm.Cond.interfaceMethod Lam.xi.cls Lam.xi.cls Lam.xi.name Lam.xi.desc).before args s = true := mvT hZ w3
  have v4 : (Jvm.Cond.static Lam.tn).before args s = true := mvT hZ w4
  have v5 : (Jvm.Cond.code Lam.tn lc 1 (some .int)).before args s = true := mvT hZ w5
  have v6 : (Jvm.Cond.initialized Lam.RL).before args s = true := mvT hZ w6
  obtain ⟨r0', r', hn', hrm, hstR, hsigR⟩ := Cond.declares_spec v2
  cases m17.symm.trans hn'
  cases m18.symm.trans hrm
  obtain ⟨cL, kL, r1, hcL, hkL, hiL, -, hn1⟩ := Cond.interfaceMethod_spec v3
  cases m17.symm.trans hn1
  have hr0cls : r0.cls = cL := Option.some.inj ((findClass_of_methodNamed m17).symm.trans hcL)
  have hsigI : r.sig = ⟨[.int], some .int⟩ := (Option.some.inj ((by decide +kernel : parseMethodDescriptor "(I)I" = some ⟨[.int], some .int⟩).symm.trans hsigR)).symm
  obtain ⟨vm₁, X₁, hstep₁⟩ := X.invokeinterface hx hown (mvT hZ w1) m17 m18 hstR (by rw [hr0cls]; exact hkL) hiL (by decide) (a := a) (cell := cell) (kcell := k) (by rw [eT]; exact hcell) (fun z q => by rw [hvm] at q; cases q) m1 m19
    (m' := ⟨cell.cls, 1⟩) (meth' := methk) (by rw [Launch.admits_selectMethod X.admits]; exact m20) m5 m21 (by rw [m10]; decide) (by simp [Method.isAbstract, m10, hasFlag, Acc.abstract])
    (g := mkF m pc L (.int i :: .ref a :: S)) rfl (argsL := [.int i]) (rest := S) (by rw [hsigI]; rfl) rfl hd
  have hW₁ : s.WarmedH vm₁ := X₁.warmed
  obtain ⟨kK₁, tk₁, file₁, methk₁, ckK₁, toy₁, t₁, -, -, hkK₁, hkn₁, hfile₁, hpool₁, hmk₁, hckK₁, hbytes₁, hml₁, hlk₁, -, hretk₁, htoy₁, htk₁, hlook₁, hready₁, hclsR₁, -⟩ := (M.wide hZ).wide (s := T.setVm vm₁) hW₁.wide
  cases hmT : s.methodNamed? Lam.tn with
  | none => simp [Cond.before, Cond.holds, Cond.value, hmT] at v5
  | some mT =>
  obtain ⟨methT, cT, hmethT, hcT, hbytesT, hlocT, hretT, hlocksT, -, hsigT⟩ := Cond.code_spec hmT v5
  have hstaticT : methT.isStatic = true := Cond.static_spec hmT hmethT v4
  obtain ⟨kT, hkT, hnameT⟩ := className_of_methodNamed hmT
  have hfT : s.vm.findClass Lam.RL = some mT.cls := findClass_of_methodNamed hmT
  have hinitK : kT.init = .initialized := Cond.initialized_spec hfT hkT v6
  have hsigTI : methT.sig = ⟨[.int], some .int⟩ := (Option.some.inj ((by decide +kernel : parseMethodDescriptor "(I)I" = some ⟨[.int], some .int⟩).symm.trans hsigT)).symm
  have hfT₁ : vm₁.findClass Lam.RL = some mT.cls := by rw [hW₁.alike.findClass]; exact hfT
  cases htoy₁.symm.trans hfT₁
  have ht₁ : t₁ = mT := by
    have h1 : (s.setVm vm₁).methodFound? Lam.RL Lam.LN "(I)I" = some mT := by rw [State.methodFound?_setVm hW₁.alike]; exact State.methodFound?_of_named hmT (by decide)
    have htk₁' : vm₁.classes[mT.cls]? = some tk₁ := htk₁
    simp only [State.methodFound?, State.vm_setVm, hfT₁, htk₁', Option.bind_eq_bind, Option.bind_some] at h1
    have h2 : ((methodIn mT.cls Lam.LN "(I)I" tk₁.isInterface none).ask { classPath := fun _ => none } vm₁).1 = .ok t₁ := hlook₁
    rw [h2] at h1
    exact Option.some.inj h1
  subst ht₁
  have hmethT₁ : vm₁.method? t₁ = some methT := by rw [hW₁.alike.method?]; exact hmethT
  obtain ⟨kT₁, hkT₁, heT₁⟩ := hW₁.alike.2.2 _ _ hkT
  have htkk : tk₁ = kT₁ := Option.some.inj ((show vm₁.classes[t₁.cls]? = some tk₁ from htk₁).symm.trans hkT₁)
  subst htkk
  have hnm' : tk₁.name ≠ "java/lang/invoke/MethodHandle" ∧ tk₁.name ≠ "java/lang/invoke/VarHandle" := by
    have : tk₁.name = Lam.RL := by rw [heT₁]; exact hnameT
    rw [this]; decide
  have hsp : ∀ z : Method, signaturePolymorphic tk₁ z = false := fun z => by simp [signaturePolymorphic, hnm'.1, hnm'.2]
  obtain ⟨b, hmem⟩ := memberRef_ask' (e := e) (vm := vm₁) (d := cell.cls) (index := 17) hkK₁ hfile₁ (Or.inl (by rw [hpool₁]; exact Lam.e17.1)) (by rw [hpool₁]; exact Lam.e17.2.2)
  have hpk : (T.setVm vm₁).plainMethod ⟨cell.cls, 1⟩ := State.plainMethod.of_name (fun k' hk' => by cases hkK₁.symm.trans hk'; rw [hkn₁]; decide)
  have hlocals : 2 * (mkF m pc L S).monitorRoom + ((mkF m pc L S).stack.map fun v => v.category).sum + (ckK₁.maxLocals + 11) + 27 ≤ R.locals := by rw [hml₁]; show 2 * 0 + (S.map fun v => v.category).sum + (2 + 11) + 27 ≤ R.locals; omega
  obtain ⟨Y₀, hin⟩ := X₁.into (g := mkF m pc L S) rfl hsz hd #[.ref a, .int i] (R' := { frames := 1, locals := 27 }) hmk₁ hckK₁ hlk₁ hpk hf hlocals hc hs
  generalize hU : ((T.setVm vm₁).setTop (mkF m pc L S)).pushFrame (.java (entryFrame ⟨cell.cls, 1⟩ #[.ref a, .int i] ckK₁.maxLocals)) = U at Y₀ hin
  have hUvm : U.vm = vm₁ := by rw [← hU]; rfl
  have hUh : U.heap = T.heap := by rw [← hU]; rfl
  have hsU : U.topJava?.isSome := Y₀.here.top
  have hpT : U.plainMethod t₁ := State.plainMethod.of_name (fun k' hk' => by
    rw [hUvm] at hk'
    cases hkT₁.symm.trans hk'
    rw [heT₁]; show plainName kT.name = true; rw [hnameT]; decide)
  obtain ⟨V₀, hinV⟩ := Y₀.into (g := mkF ⟨cell.cls, 1⟩ 1 #[.val (.ref a), .val (.int i)] []) rfl (by rw [hml₁]; rfl) (by rw [hbytes₁]; exact Lam.fd1) #[.int i] (R' := { frames := 0, locals := 2 }) (by rw [hUvm]; exact hmethT₁) hcT hlocksT hpT (by decide) (by rw [hlocT]; exact Nat.le_of_ble_eq_true rfl) (by decide) (by decide)
  generalize hV : (U.setTop (mkF ⟨cell.cls, 1⟩ 1 #[.val (.ref a), .val (.int i)] [])).pushFrame (.java (entryFrame t₁ #[.int i] cT.maxLocals)) = V at V₀ hinV
  have hVh : V.heap = U.heap := by rw [← hV]; rfl
  obtain ⟨fsV, hretV, -, hendV, hWV, hsameV⟩ := V₀.leave (v := some (.int i)) (fun q => by rw [hretT] at q; cases q) hlocksT
  obtain ⟨U', Y', hWU, -, htU⟩ := Y₀.outOf (g := mkF ⟨cell.cls, 1⟩ 1 #[.val (.ref a), .val (.int i)] []) rfl (by rw [hbytes₁]; exact Lam.fd1) hendV hWV hsameV
  have hU'h : U'.heap = T.heap := by
    have q : (V.setFrames fsV).heap = (U'.setTop _).heap := congrArg State.heap htU
    exact (show U'.heap = V.heap from q.symm).trans (hVh.trans hUh)
  obtain ⟨fs, hretk, -, hend, hWe, hsame⟩ := Y'.leave (v := some (.int i)) (fun q => by rw [hretk₁] at q; cases q) hlk₁
  obtain ⟨T', X', hWT, -, htT⟩ := X₁.outOf (g := mkF m pc L S) rfl hd hend hWe hsame
  have hT'h : T'.heap = T.heap := by
    have q : (U'.setFrames fs).heap = (T'.setTop _).heap := congrArg State.heap htT
    exact (show T'.heap = U'.heap from q.symm).trans hU'h
  have hst : ∀ target, Steps p.tables e below (T'.setTop (mkF m (pc + 5) L (.int i :: S))) target → Steps p.tables e below (T.setTop (mkF m pc L (.int i :: .ref a :: S))) target := by
    intro target kk
    refine hstep₁ target fun acts => ?_
    show Steps p.tables e below (doInvoke e ((T.setVm vm₁).setTop (mkF m pc L S)) acts ⟨cell.cls, 1⟩ #[.ref a, .int i]).1 target
    rw [hin acts]
    refine Steps.trans (Lam.weak (mid := [.java (mkF m pc L S)]) ?_) kk
    show Steps p.tables e (.java (mkF m pc L S) :: below) _ (T'.setTop { mkF m pc L S with pc := pc + 5, stack := (some (Value.int i)).toList ++ S })
    have htT' : U'.setFrames fs = T'.setTop { mkF m pc L S with pc := pc + 5, stack := (some (Value.int i)).toList ++ S } := htT
    rw [← htT']
    have hloc : entryFrame ⟨cell.cls, 1⟩ #[.ref a, .int i] ckK₁.maxLocals = mkF ⟨cell.cls, 1⟩ 0 #[.val (.ref a), .val (.int i)] [] := by rw [hml₁]; rfl
    rw [hloc]
    show Steps p.tables e (.java (mkF m pc L S) :: below) (U.setTop { method := ⟨cell.cls, 1⟩, pc := 0, locals := #[.val (.ref a), .val (.int i)], stack := [], locked := none }) _
    jvm_step Y₀.here [hx, hbytes₁, Lam.fd0]
    jvm_step Y₀.here [hx, hbytes₁, Lam.fd1, invokestatic.wp_ready (e := e) (s := U) (m := t₁) (k := tk₁) (meth := methT) (args := [.int i]) (rest := [])
      (f := { method := ⟨cell.cls, 1⟩, pc := 1, locals := #[.val (.ref a), .val (.int i)], stack := [.int i], locked := none }) hsU (by rw [← hU]; exact ⟨14, _, _, b, t₁.cls, tk₁, hmem, hclsR₁, htk₁, by simp [hsp]⟩) (by rw [hUvm]; exact hready₁) (by rw [hUvm]; exact htk₁) (by rw [hUvm]; exact hmethT₁) (hsp _) hstaticT (by rw [heT₁]; exact hinitK) (by rw [hsigTI]; rfl) rfl]
    intro acts'
    have hin' := hinV acts'
    refine Steps.trans (Lam.weak (mid := [.java (mkF ⟨cell.cls, 1⟩ 1 #[.val (.ref a), .val (.int i)] [])]) (b := V.setFrames fsV) ?_) ?_
    · show Steps p.tables e (.java (mkF ⟨cell.cls, 1⟩ 1 #[.val (.ref a), .val (.int i)] []) :: .java (mkF m pc L S) :: below) (doInvoke e (U.setTop (mkF ⟨cell.cls, 1⟩ 1 #[.val (.ref a), .val (.int i)] [])) acts' t₁ #[.int i]).1 (V.setFrames fsV)
      rw [hin']
      have hlocT' : entryFrame t₁ #[.int i] cT.maxLocals = mkF t₁ 0 #[.val (.int i)] [] := by rw [hlocT]; rfl
      rw [hlocT']
      show Steps p.tables e (.java (mkF ⟨cell.cls, 1⟩ 1 #[.val (.ref a), .val (.int i)] []) :: .java (mkF m pc L S) :: below) (V.setTop { method := t₁, pc := 0, locals := #[.val (.int i)], stack := [], locked := none }) (V.setFrames fsV)
      have hsV : V.topJava?.isSome := V₀.here.top
      jvm_step V₀.here [hx, hbytesT, hl0]
      jvm_step V₀.here [hsV, hx, hbytesT, hl1, (show V.vm.method? t₁ = some methT from V₀.method'), hretT, narrow]
      intro acts2
      rw [hretV { method := t₁, pc := 1, locals := #[.val (.int i)], stack := [], locked := none } acts2 rfl rfl rfl]
      exact Steps.refl _
    · rw [htU]
      show Steps p.tables e (.java (mkF m pc L S) :: below) (U'.setTop { method := ⟨cell.cls, 1⟩, pc := 4, locals := #[.val (.ref a), .val (.int i)], stack := [.int i], locked := none }) _
      have hsU' : U'.topJava?.isSome := Y'.here.top
      jvm_step Y'.here [hsU', hx, hbytes₁, Lam.fd4, (show U'.vm.method? ⟨cell.cls, 1⟩ = some methk₁ from Y'.method'), hretk₁, narrow]
      intro acts2
      rw [hretk { method := ⟨cell.cls, 1⟩, pc := 4, locals := #[.val (.ref a), .val (.int i)], stack := [], locked := none } acts2 rfl rfl rfl]
      exact Steps.refl _
  exact (K T' ⟨s, _, X', hx, rfl, rfl, hZ, hown, hnm, hr, hlk, hT'h.trans eT, by simpa using N, hn, hF⟩).via hst
end LamLaws
end Jvm.Ow
namespace Jvm.Ow
open Sem ClassFile Op Lib Jvm.Stand Jvm.Free Jvm.LawKit Jvm.RoadKit
section More
variable {p : Program} {l : Launch} {e : Env} {R : Room} {m : MethodId} {args : Array Value} {below : List Frame} {meth : Method} {c : Code} {T : State} {cells slots : Nat} {Z : State} {a0 : Array Value} {h : Heap} {y : MethodName} {bytes : ByteArray} {ml n0 : Nat} {ret : Option FieldType} {wd : Bool} {F : Outcome → State → List Loc → Prop} {Q : Option Value → Heap → Prop} {pc pc' : Nat} {L : Array Slot} {S : List Value}
theorem Cx.newarrE (C : Cx p l e R m args below meth c Z y bytes ml ret n0 wd F T h cells slots) {aty : ArrayType} {ad : String} (w : (Jvm.Cond.arrayClass (newarray.typeOf aty)).before a0 Z = true) {n : Int32} (cap : Nat) (hn0 : ¬ n < 0) (hcap : n.toNatClampNeg ≤ cap) (hb : cap * 8 ≤ 536870912) (hc : cells + 1 ≤ R.cells) (hl : slots + cap ≤ R.slots) (had : "[" ++ (newarray.typeOf aty).toString = ad) (hd : decode bytes pc = .ok (.newarray aty, 2)) (hp : pc + 2 = pc')
    (K : ∀ T' h' b k, Cx p l e R m args below meth c Z y bytes ml ret n0 wd F T' h' (cells + 1) (slots + cap) → b = h.size → n0 ≤ b → Ext h h' → Arv Z h' b k (newarray.typeOf aty) n (List.replicate cap (defaultValue (newarray.typeOf aty))) (defaultValue (newarray.typeOf aty)) → Exa Z h' b ad → Go p e below F n0 Q T' (mkF m pc' L (.ref b :: S))) : Go p e below F n0 Q T (mkF m pc L (.int n :: S)) := by
  have hz := C.size
  obtain ⟨s, locs, X, hx, rfl, rfl, hZ, hown, hnm, hr, hlk, eT, N, hn, hF⟩ := C; subst hp
  obtain ⟨T', h', cA, X', e', E, A, Ea, st⟩ := newPE X hx hZ w eT (g := mkF m pc L (.int n :: S)) rfl hd rfl hn0 (cap := cap) hcap hb hc hl had
  exact (K T' h' h.size cA ⟨s, locs, X', hx, rfl, rfl, hZ, hown, hnm, hr, hlk, e', N, hn, fun o t L q => hF o t L (Nat.le_trans E.1 q)⟩ rfl hz E ((Arv.new A hn0).pad (pad_rep [] _ cap)) Ea).via st
theorem own_selP {y y2 : MethodName} (hy2 : y2.cls = y.cls) (w : (Jvm.Cond.selects y2.cls y2 y2).before a0 Z = true) (hp : (Jvm.Cond.privateMethod y).before a0 Z = true) (hi : (Jvm.Cond.instanceMethod y).before a0 Z = true) (hy : y.cls ≠ "java/lang/invoke/MethodHandle" ∧ y.cls ≠ "java/lang/invoke/VarHandle") : (Jvm.Cond.selects y.cls y y).before a0 Z = true := by
  obtain ⟨c2, r2, m2, -, -, q3, -, kP, hkP, hkPi⟩ := Cond.selects_spec w
  exact selects_self_of_private (by rw [← hy2]; exact findClass_of_methodNamed q3) hkP hkPi (Cond.privateMethod_at hp) hi hy
end More
end Jvm.Ow
namespace Jvm.Pilot.@@N@@
open Jvm Jvm.ClassFile Sem Op Lib Jvm.Free Jvm.Stand Jvm.LawKit Jvm.RoadKit Bundle Jvm.Ow Jvm.Pilot.@@N@@.Jvm.D
theorem own_eqite {α : Type} {P : Prop} [Decidable P] {u a b : α} : (u = if P then a else b) ↔ ((P ∧ u = a) ∨ (¬ P ∧ u = b)) := by by_cases h : P <;> simp [h]
theorem own_iteeq {α : Type} {P : Prop} [Decidable P] {u a b : α} : ((if P then a else b) = u) ↔ ((P ∧ a = u) ∨ (¬ P ∧ b = u)) := by by_cases h : P <;> simp [h]
theorem own_nea {Z : State} {h : Heap} {a b : Addr} {C : String} {k : ClassId} {ty : FieldType} {n : Int32} {vs : List Value} {dv : Value} {a0 : Array Value} {kk : Nat} (E : Exa Z h a C) (wi : (Jvm.Cond.instantiable C kk).before a0 Z = true) (F : Arv Z h b k ty n vs dv) : a ≠ b := by
  obtain ⟨c, A, -⟩ := F; exact ne_arr E wi A
theorem own_fitr {v : Value} {t : FieldType} (h : v.isRef = true) (ht : t.isReference = true) : fits t v = true := by
  rcases ref_cases h with rfl | ⟨a, rfl⟩ <;> cases t <;> first | rfl | (simp [FieldType.isReference] at ht)
theorem own_plainE {Z : State} {h : Heap} {a : Addr} {C : String} (E : Exa Z h a C) : ∃ c : Cell, h[a]? = some c ∧ c.vm.isStatics = false := by
  obtain ⟨c, k, h1, -, -, h4, -⟩ := E; exact ⟨c, h1, h4⟩
theorem own_plainV {Z : State} {h : Heap} {a : Addr} {k : ClassId} {ty : FieldType} {n : Int32} {vs : List Value} {dv : Value} (F : Arv Z h a k ty n vs dv) : ∃ c : Cell, h[a]? = some c ∧ c.vm.isStatics = false := by
  obtain ⟨c, A, -⟩ := F; exact ⟨c, A.1, A.plain⟩
theorem own_stak {Z : State} {h h' : Heap} {C n d : String} {w : Value} {ws : List Addr} (F : Sta Z h C n d w) (K : Keep h h' ws) (q : ∀ x ∈ ws, ∃ c : Cell, h[x]? = some c ∧ c.vm.isStatics = false) : Sta Z h' C n d w := by
  obtain ⟨cf, i, k, f, st, cell, h1, h2, h3, h4, h5, h6, h7⟩ := F
  refine ⟨cf, i, k, f, st, cell, h1, h2, h3, h4, K.2.1 st cell h5 fun z => ?_, h6, h7⟩
  obtain ⟨c, e1, e2⟩ := q st z
  cases h5.symm.trans e1
  rw [h6] at e2; cases e2
theorem own_narb (x : Int32) : nar .byte x.toInt8.toInt32 = x.toInt8.toInt32 := by
  show x.toInt8.toInt32.toInt8.toInt32 = _; simp
theorem own_getI (l : List Int32) (i : Nat) : (l.map Value.int).getD i (.int 0) = .int (l.getD i 0) := by
  simp only [List.getD_eq_getElem?_getD, List.getElem?_map]; cases l[i]? <;> rfl
theorem own_getJ (l : List Int64) (i : Nat) : (l.map Value.long).getD i (.long 0) = .long (l.getD i 0) := by
  simp only [List.getD_eq_getElem?_getD, List.getElem?_map]; cases l[i]? <;> rfl
abbrev own_z16 : List Int32 := [0, 0, 0, 0, 0, 0, 0, 0, 0, 0, 0, 0, 0, 0, 0, 0]
abbrev own_z8 : List Int32 := [0, 0, 0, 0, 0, 0, 0, 0]
theorem own_triv {α : Type} (x : α) : True := trivial
/-- at most n places of the list are taken -/
def own_Few (l : List Int32) (n : Int32) : Prop := ∃ P : List Nat, (P.length : Int) ≤ n.toInt ∧ ∀ i, l.getD i 0 ≠ 0 → i ∈ P
/-- what the index keeps: n rows, g groups -/
def own_Inv (n g : Int32) (lS lF lL lN : List Int32) : Prop :=
  0 ≤ g.toInt ∧ g.toInt ≤ n.toInt ∧ n.toInt ≤ 3 ∧ lS.length = 16 ∧ lF.length = 8 ∧ lL.length = 8 ∧ lN.length = 16 ∧ (∀ i, 0 ≤ (lS.getD i 0).toInt ∧ (lS.getD i 0).toInt ≤ g.toInt) ∧ (∀ i, 0 ≤ (lF.getD i 0).toInt ∧ (lF.getD i 0).toInt ≤ 2) ∧ (∀ i, 0 ≤ (lL.getD i 0).toInt ∧ (lL.getD i 0).toInt ≤ 2) ∧ own_Few lS g
theorem own_zs {l : List Int32} (h : ∀ x ∈ l, x = 0) (i : Nat) : l.getD i 0 = 0 := by
  rw [List.getD_eq_getElem?_getD]
  cases q : l[i]? with
  | none => rfl
  | some x => exact h x (List.mem_of_getElem? q)
theorem own_inv0 : own_Inv (0 : Int32) (0 : Int32) own_z16 own_z8 own_z8 own_z16 := by
  refine ⟨by decide, by decide, by decide, rfl, rfl, rfl, rfl, fun i => ?_, fun i => ?_, fun i => ?_, [], by decide, fun i q => absurd (own_zs (by simp) i) q⟩ <;> rw [own_zs (by simp) i] <;> decide
theorem own_gset (l : List Int32) (i j : Nat) (a : Int32) : (l.set i a).getD j 0 = a ∧ j = i ∨ (l.set i a).getD j 0 = l.getD j 0 := by
  simp only [List.getD_eq_getElem?_getD, List.getElem?_set]
  by_cases h : i = j
  · subst h
    by_cases q : i < l.length
    · left; simp [q]
    · right; simp [q]
  · right; simp [h]
theorem own_new {n g s : Int32} {lS lF lL lN : List Int32} (H : own_Inv n g lS lF lL lN) (hn : n.toInt ≤ 2) : own_Inv (n + (1 : Int32)) (g + (1 : Int32)) (lS.set s.toNatClampNeg (g + (1 : Int32))) (lF.set g.toNatClampNeg n) (lL.set g.toNatClampNeg n) (lN.set n.toNatClampNeg (-1 : Int32)) := by
  obtain ⟨q1, q2, q3, q4, q5, q6, q7, q8, q9, q10, P, q11, q12⟩ := H
  have c1 := c_iadd n 1
  have c2 := c_iadd g 1
  have b1 := (n + 1).le_toInt; have b2 := (n + 1).toInt_lt; have b3 := (g + 1).le_toInt; have b4 := (g + 1).toInt_lt
  simp only [Int32.reduceToInt] at c1 c2
  have e1 : (n + 1).toInt = n.toInt + 1 := by omega
  have e2 : (g + 1).toInt = g.toInt + 1 := by omega
  refine ⟨by omega, by omega, by omega, by simp [q4], by simp [q5], by simp [q6], by simp [q7], fun i => ?_, fun i => ?_, fun i => ?_, s.toNatClampNeg :: P, by simp only [List.length_cons]; omega, fun i hi => ?_⟩
  · rcases own_gset lS s.toNatClampNeg i (g + 1) with ⟨e, -⟩ | e <;> rw [e]
    · omega
    · have := q8 i; omega
  · rcases own_gset lF g.toNatClampNeg i n with ⟨e, -⟩ | e <;> rw [e]
    · omega
    · exact q9 i
  · rcases own_gset lL g.toNatClampNeg i n with ⟨e, -⟩ | e <;> rw [e]
    · omega
    · exact q10 i
  · rcases own_gset lS s.toNatClampNeg i (g + 1) with ⟨-, e⟩ | e
    · rw [e]; exact List.mem_cons_self
    · rw [e] at hi; exact List.mem_cons_of_mem _ (q12 i hi)
theorem own_old {n g s : Int32} {k : Nat} {lS lF lL lN : List Int32} (H : own_Inv n g lS lF lL lN) (hn : n.toInt ≤ 2) : own_Inv (n + (1 : Int32)) g lS lF (lL.set s.toNatClampNeg n) ((lN.set n.toNatClampNeg (-1 : Int32)).set k n) := by
  obtain ⟨q1, q2, q3, q4, q5, q6, q7, q8, q9, q10, q11⟩ := H
  have c1 := c_iadd n 1
  have b1 := (n + 1).le_toInt; have b2 := (n + 1).toInt_lt
  simp only [Int32.reduceToInt] at c1
  have e1 : (n + 1).toInt = n.toInt + 1 := by omega
  refine ⟨by omega, by omega, by omega, q4, q5, by simp [q6], by simp [q7], q8, q9, fun i => ?_, q11⟩
  rcases own_gset lL s.toNatClampNeg i n with ⟨e, -⟩ | e <;> rw [e]
  · omega
  · exact q10 i
def own_it : Nat → Int32 → Int32
  | 0, s => s
  | k + 1, s => own_it k ((s + (1 : Int32)) &&& (15 : Int32))
theorem own_nx {s : Int32} (h : ¬ s < (0 : Int32) ∧ s < (16 : Int32)) : ((s + (1 : Int32)) &&& (15 : Int32)).toInt = (s.toInt + 1) % 16 ∧ 0 ≤ s.toInt ∧ s.toInt < 16 := by
  have c1 := c_iadd s 1
  have c2 := c_mask (s + 1) 15 4 (by decide) (by decide)
  have b1 := (s + 1).le_toInt; have b2 := (s + 1).toInt_lt
  simp only [Int32.lt_iff_toInt_lt, Int32.reduceToInt] at *
  omega
theorem own_free {n g : Int32} {lS lF lL lN : List Int32} (H : own_Inv n g lS lF lL lN) (hn : n.toInt ≤ 2) (s : Int32) (hs : ¬ s < (0 : Int32) ∧ s < (16 : Int32)) : ∃ k, (lS.getD (own_it k s).toNatClampNeg 0) = (0 : Int32) := by
  obtain ⟨q1, q2, q3, q4, q5, q6, q7, q8, q9, q10, P, q11, q12⟩ := H
  obtain ⟨a1, a2, a3⟩ := own_nx hs
  have hs1 : ¬ ((s + (1 : Int32)) &&& (15 : Int32)) < (0 : Int32) ∧ ((s + (1 : Int32)) &&& (15 : Int32)) < (16 : Int32) := by simp only [Int32.lt_iff_toInt_lt, Int32.reduceToInt]; omega
  obtain ⟨b1, b2, b3⟩ := own_nx hs1
  by_cases z0 : lS.getD (own_it 0 s).toNatClampNeg 0 = 0
  · exact ⟨0, z0⟩
  by_cases z1 : lS.getD (own_it 1 s).toNatClampNeg 0 = 0
  · exact ⟨1, z1⟩
  by_cases z2 : lS.getD (own_it 2 s).toNatClampNeg 0 = 0
  · exact ⟨2, z2⟩
  have y0 := q12 _ z0
  have y1 := q12 _ z1
  have y2 := q12 _ z2
  simp only [own_it, Int32.toNatClampNeg] at y0 y1 y2
  exfalso
  match P, q11, y0, y1, y2 with
  | [], _, y0, _, _ => cases y0
  | [p], _, y0, y1, _ => simp only [List.mem_singleton] at y0 y1; omega
  | [p, q], _, y0, y1, y2 => simp only [List.mem_cons, List.not_mem_nil, or_false] at y0 y1 y2; omega
  | p :: q :: r :: t, q11, _, _, _ => simp only [List.length_cons] at q11; omega
theorem own_cpy (lC : List Int32) (kq : Int32) (j : Nat) : ((lC.take j ++ [kq] ++ lC.drop (j + 1)).map Value.int) = ((lC.map Value.int).take j ++ ((List.range ((1 : Int32)).toNatClampNeg).map fun i => [Value.int kq].getD (((0 : Int32)).toNatClampNeg + i) (Value.int (0 : Int32))) ++ (lC.map Value.int).drop (j + ((1 : Int32)).toNatClampNeg)) := by
  have e1 : ((1 : Int32)).toNatClampNeg = 1 := by decide
  rw [e1]
  simp [List.map_take, List.map_drop]
theorem own_de {Z : State} {args : Array Value} {t : Term} {a : Addr} {ty : FieldType} (hf : Fit Z) (ev : t.eval args Z none [] Z = some (.ref a)) (hx : (Cond.arrayOf t ty).value args Z none Z [] = some true) (hl : (Cond.eq (Term.length t) (Term.int (0 : Int32))).value args Z none Z [] = some true) : ∃ k, Arv Z Z.heap a k ty (0 : Int32) [] .null := by
  obtain ⟨c, A⟩ := Arr.start ev hx
  have hat : Z.arrayAt? a = some c := Arr.fin (Vm.Alike.refl _) A
  by_cases hn : c.slots.size < 2147483648
  · simp [Cond.value, Term.eval, ev, hat, hn] at hl
    exact ⟨c.cls, Arv.start hf A hn hl (by decide) rfl trivial⟩
  · simp [Cond.value, Term.eval, ev, hat, hn] at hl

theorem d9_0 : decode prog_26_method_19_code 0 = .ok (.iload_n 0, 1) := by decide +kernel
theorem d9_1 : decode prog_26_method_19_code 1 = .ok (.ireturn, 1) := by decide +kernel
theorem pn5 : plainName "java/util/AbstractCollection" = true := by first | (simp [plainName, overriddenIn]; done) | decide +kernel
theorem pd5 : parseMethodDescriptor "()V" = some ⟨[], none⟩ := by decide +kernel
theorem ef5 (m : MethodId) (o0 : Addr) : entryFrame m #[(.ref o0)] 1 = mkF m 0 #[.val (.ref o0)] [] := by first | (simp [entryFrame, mkF, argsToLocals, Value.category]; done) | rfl
theorem d5_0 : decode jdk_22_method_1_code 0 = .ok (.aload_n 0, 1) := by decide +kernel
theorem d5_1 : decode jdk_22_method_1_code 1 = .ok (.invokespecial 1, 3) := by decide +kernel
theorem d5_4 : decode jdk_22_method_1_code 4 = .ok (.return_, 1) := by decide +kernel
set_option maxRecDepth 65536 in
set_option maxHeartbeats 40000000 in
theorem rm5 (l : Launch) (Z : State) (a0 : Array Value) (hw : ∀ d ∈ tables_1, d.before a0 Z = true) (o0 : Addr) (h0 : Heap) (n0 : Nat) (Z0 : n0 ≤ h0.size) :
    Ctr l Z (⟨"java/util/AbstractCollection", "<init>", "()V"⟩ : MethodName) jdk_22_method_1_code 1 none ({ frames := 1, cells := 0, slots := 0, locals := 12 } : Room) #[(.ref o0)] h0 n0 (fun v h' => v = none ∧ h' = h0) := by
  refine Ctr.body (L := #[.val (.ref o0)]) (plainFor_of_name pn5) Z0 (fun m => ef5 m o0) ?_
  intro p e F m below meth c T0 C0
  refine C0.aloadN d5_0 rfl rfl rfl ?_
  refine C0.initObj (hw _ (List.mem_of_getElem? (i := 27) rfl)) (hw _ (List.mem_of_getElem? (i := 7) rfl)) (hw _ (List.mem_of_getElem? (i := 8) rfl)) rfl (by decide) 0 (Nat.le_of_eq rfl) (by decide) d5_1 rfl (fun T1 C1 => ?_)
  exact C1.retV d5_4 rfl (by decide) (by decide) ⟨rfl, rfl⟩
theorem pn4 : plainName "java/util/AbstractList" = true := by first | (simp [plainName, overriddenIn]; done) | decide +kernel
theorem pd4 : parseMethodDescriptor "()V" = some ⟨[], none⟩ := by decide +kernel
theorem ef4 (m : MethodId) (o0 : Addr) : entryFrame m #[(.ref o0)] 1 = mkF m 0 #[.val (.ref o0)] [] := by first | (simp [entryFrame, mkF, argsToLocals, Value.category]; done) | rfl
theorem d4_0 : decode jdk_39_method_1_code 0 = .ok (.aload_n 0, 1) := by decide +kernel
theorem d4_1 : decode jdk_39_method_1_code 1 = .ok (.invokespecial 1, 3) := by decide +kernel
theorem d4_4 : decode jdk_39_method_1_code 4 = .ok (.aload_n 0, 1) := by decide +kernel
theorem d4_5 : decode jdk_39_method_1_code 5 = .ok (.iconst 0, 1) := by decide +kernel
theorem d4_6 : decode jdk_39_method_1_code 6 = .ok (.putfield 7, 3) := by decide +kernel
theorem d4_9 : decode jdk_39_method_1_code 9 = .ok (.return_, 1) := by decide +kernel
set_option maxRecDepth 65536 in
set_option maxHeartbeats 40000000 in
theorem rm4 (l : Launch) (Z : State) (a0 : Array Value) (hw : ∀ d ∈ tables_1, d.before a0 Z = true) (o0 : Addr) (x0 : Value) (x1 : Value) (x2 : Value) (h0 : Heap) (n0 : Nat) (Z0 : n0 ≤ h0.size) (E_o0 : Exa Z h0 o0 "java/util/ArrayList") (F_o0_modCount : Fld Z h0 o0 "java/util/AbstractList" "modCount" "I" x0) (F_o0_elementData : Fld Z h0 o0 "java/util/ArrayList" "elementData" "[Ljava/lang/Object;" x1) (F_o0_size : Fld Z h0 o0 "java/util/ArrayList" "size" "I" x2) (g_o0 : n0 ≤ o0) :
    Ctr l Z (⟨"java/util/AbstractList", "<init>", "()V"⟩ : MethodName) jdk_39_method_1_code 1 none ({ frames := 2, cells := 0, slots := 0, locals := 24 } : Room) #[(.ref o0)] h0 n0 (fun v h' => v = none ∧ Keep h0 h' [o0] ∧ Exa Z h' o0 "java/util/ArrayList" ∧ Fld Z h' o0 "java/util/AbstractList" "modCount" "I" (.int (0 : Int32)) ∧ Fld Z h' o0 "java/util/ArrayList" "elementData" "[Ljava/lang/Object;" x1 ∧ Fld Z h' o0 "java/util/ArrayList" "size" "I" x2) := by
  refine Ctr.body (L := #[.val (.ref o0)]) (plainFor_of_name pn4) Z0 (fun m => ef4 m o0) ?_
  intro p e F m below meth c T0 C0
  have KP : Keep h0 h0 [o0] := Keep.refl h0 _
  refine C0.aloadN d4_0 rfl rfl rfl ?_
  refine C0.callN rfl (hw _ (List.mem_of_getElem? (i := 21) rfl)) (hw _ (List.mem_of_getElem? (i := 22) rfl)) (hw _ (List.mem_of_getElem? (i := 25) rfl)) (hw _ (List.mem_of_getElem? (i := 26) rfl)) (by decide) (a := o0) (rm5 l Z a0 hw o0 h0 n0 C0.size ) (argsL := []) pd5 rfl 0 (by decide) (by decide) (by decide) (by decide) (rest := []) rfl rfl (Nat.le_of_eq rfl) d4_1 rfl (fun v1 T1 h1 C1 qq1 => ?_)
  obtain ⟨rfl, hh1⟩ := qq1
  have hh1 := hh1.symm; subst hh1
  show Go p e below F n0 (fun v h' => v = none ∧ Keep h0 h' [o0] ∧ Exa Z h' o0 "java/util/ArrayList" ∧ Fld Z h' o0 "java/util/AbstractList" "modCount" "I" (.int (0 : Int32)) ∧ Fld Z h' o0 "java/util/ArrayList" "elementData" "[Ljava/lang/Object;" x1 ∧ Fld Z h' o0 "java/util/ArrayList" "size" "I" x2) T1 (mkF m 4 #[.val (.ref o0)] [])
  refine C1.aloadN d4_4 rfl rfl rfl ?_
  refine C1.iconst (0 : Int32) d4_5 rfl rfl ?_
  refine C1.putF (host := "") (Or.inl (hw _ (List.mem_of_getElem? (i := 28) rfl))) Via.refl F_o0_modCount E_o0 (Or.inl (hw _ (List.mem_of_getElem? (i := 29) rfl))) (hw _ (List.mem_of_getElem? (i := 10) rfl)) (ty := .int) (by decide) rfl rfl g_o0 d4_6 rfl (fun T2 h2 C2 W2 => ?_)
  have E_o0 := E_o0.wr W2
  have F_o0_elementData := F_o0_elementData.other W2 (Or.inr (slot_ne (Or.inl (hw _ (List.mem_of_getElem? (i := 32) rfl))) (Or.inl (hw _ (List.mem_of_getElem? (i := 29) rfl))) (by decide) (t := (.array (.object "java/lang/Object"))) (t' := .int) (by decide) (by decide)))
  have F_o0_size := F_o0_size.other W2 (Or.inr (slot_ne (Or.inl (hw _ (List.mem_of_getElem? (i := 111) rfl))) (Or.inl (hw _ (List.mem_of_getElem? (i := 29) rfl))) (by decide) (t := .int) (t' := .int) (by decide) (by decide)))
  have KP := KP.wr W2 (Or.inl (by simp))
  have F_o0_modCount := F_o0_modCount.same W2
  exact C2.retV d4_9 rfl (by decide) (by decide) ⟨rfl, KP, E_o0, F_o0_modCount, F_o0_elementData, F_o0_size⟩
theorem pn3 : plainName "java/util/ArrayList" = true := by first | (simp [plainName, overriddenIn]; done) | decide +kernel
theorem pd3 : parseMethodDescriptor "()V" = some ⟨[], none⟩ := by decide +kernel
theorem ef3 (m : MethodId) (o0 : Addr) : entryFrame m #[(.ref o0)] 1 = mkF m 0 #[.val (.ref o0)] [] := by first | (simp [entryFrame, mkF, argsToLocals, Value.category]; done) | rfl
theorem d3_0 : decode jdk_38_method_2_code 0 = .ok (.aload_n 0, 1) := by decide +kernel
theorem d3_1 : decode jdk_38_method_2_code 1 = .ok (.invokespecial 1, 3) := by decide +kernel
theorem d3_4 : decode jdk_38_method_2_code 4 = .ok (.aload_n 0, 1) := by decide +kernel
theorem d3_5 : decode jdk_38_method_2_code 5 = .ok (.getstatic 39, 3) := by decide +kernel
theorem d3_8 : decode jdk_38_method_2_code 8 = .ok (.putfield 9, 3) := by decide +kernel
theorem d3_11 : decode jdk_38_method_2_code 11 = .ok (.return_, 1) := by decide +kernel
set_option maxRecDepth 65536 in
set_option maxHeartbeats 40000000 in
theorem rm3 (l : Launch) (Z : State) (a0 : Array Value) (hw : ∀ d ∈ tables_1, d.before a0 Z = true) (o0 : Addr) (de : Addr) (x0 : Value) (x1 : Value) (x2 : Value) (h0 : Heap) (n0 : Nat) (Z0 : n0 ≤ h0.size) (E_o0 : Exa Z h0 o0 "java/util/ArrayList") (F_o0_modCount : Fld Z h0 o0 "java/util/AbstractList" "modCount" "I" x0) (F_o0_elementData : Fld Z h0 o0 "java/util/ArrayList" "elementData" "[Ljava/lang/Object;" x1) (F_o0_size : Fld Z h0 o0 "java/util/ArrayList" "size" "I" x2) (g_o0 : n0 ≤ o0) (S_DEFAULTCAPACITY_EMPTY_ELEMENTDATA : Sta Z h0 "java/util/ArrayList" "DEFAULTCAPACITY_EMPTY_ELEMENTDATA" "[Ljava/lang/Object;" (.ref de)) :
    Ctr l Z (⟨"java/util/ArrayList", "<init>", "()V"⟩ : MethodName) jdk_38_method_2_code 1 none ({ frames := 3, cells := 0, slots := 0, locals := 36 } : Room) #[(.ref o0)] h0 n0 (fun v h' => v = none ∧ Keep h0 h' [o0] ∧ Exa Z h' o0 "java/util/ArrayList" ∧ Fld Z h' o0 "java/util/AbstractList" "modCount" "I" (.int (0 : Int32)) ∧ Fld Z h' o0 "java/util/ArrayList" "elementData" "[Ljava/lang/Object;" (.ref de) ∧ Fld Z h' o0 "java/util/ArrayList" "size" "I" x2) := by
  refine Ctr.body (L := #[.val (.ref o0)]) (plainFor_of_name pn3) Z0 (fun m => ef3 m o0) ?_
  intro p e F m below meth c T0 C0
  have KP : Keep h0 h0 [o0] := Keep.refl h0 _
  refine C0.aloadN d3_0 rfl rfl rfl ?_
  refine C0.callN rfl (hw _ (List.mem_of_getElem? (i := 15) rfl)) (hw _ (List.mem_of_getElem? (i := 16) rfl)) (hw _ (List.mem_of_getElem? (i := 19) rfl)) (hw _ (List.mem_of_getElem? (i := 20) rfl)) (by decide) (a := o0) (rm4 l Z a0 hw o0 x0 x1 x2 h0 n0 C0.size E_o0 F_o0_modCount F_o0_elementData F_o0_size g_o0) (argsL := []) pd4 rfl 0 (by decide) (by decide) (by decide) (by decide) (rest := []) rfl rfl (Nat.le_of_eq rfl) d3_1 rfl (fun v1 T1 h1 C1 qq1 => ?_)
  obtain ⟨rfl, K1, p1_0, p1_1, p1_2, p1_3⟩ := qq1
  have S_DEFAULTCAPACITY_EMPTY_ELEMENTDATA := own_stak S_DEFAULTCAPACITY_EMPTY_ELEMENTDATA K1 (allS (own_plainE E_o0) (all0))
  have E_o0 := E_o0.keep K1
  have KP := KP.trans K1 (allS (Or.inl (by simp)) (all0))
  have E_o0 := p1_0
  have F_o0_modCount := p1_1
  have F_o0_elementData := p1_2
  have F_o0_size := p1_3
  show Go p e below F n0 (fun v h' => v = none ∧ Keep h0 h' [o0] ∧ Exa Z h' o0 "java/util/ArrayList" ∧ Fld Z h' o0 "java/util/AbstractList" "modCount" "I" (.int (0 : Int32)) ∧ Fld Z h' o0 "java/util/ArrayList" "elementData" "[Ljava/lang/Object;" (.ref de) ∧ Fld Z h' o0 "java/util/ArrayList" "size" "I" x2) T1 (mkF m 4 #[.val (.ref o0)] [])
  refine C1.aloadN d3_4 rfl rfl rfl ?_
  refine C1.getS (host := "") (Or.inl (hw _ (List.mem_of_getElem? (i := 30) rfl))) Via.refl S_DEFAULTCAPACITY_EMPTY_ELEMENTDATA d3_5 rfl (fun T2 C2 => ?_)
  refine C2.putF (host := "") (Or.inl (hw _ (List.mem_of_getElem? (i := 31) rfl))) Via.refl F_o0_elementData E_o0 (Or.inl (hw _ (List.mem_of_getElem? (i := 32) rfl))) (hw _ (List.mem_of_getElem? (i := 10) rfl)) (ty := (.array (.object "java/lang/Object"))) (by decide) rfl rfl g_o0 d3_8 rfl (fun T3 h3 C3 W3 => ?_)
  have E_o0 := E_o0.wr W3
  have S_DEFAULTCAPACITY_EMPTY_ELEMENTDATA := S_DEFAULTCAPACITY_EMPTY_ELEMENTDATA.wr W3
  have F_o0_modCount := F_o0_modCount.other W3 (Or.inr (slot_ne (Or.inl (hw _ (List.mem_of_getElem? (i := 29) rfl))) (Or.inl (hw _ (List.mem_of_getElem? (i := 32) rfl))) (by decide) (t := .int) (t' := (.array (.object "java/lang/Object"))) (by decide) (by decide)))
  have F_o0_size := F_o0_size.other W3 (Or.inr (slot_ne (Or.inl (hw _ (List.mem_of_getElem? (i := 111) rfl))) (Or.inl (hw _ (List.mem_of_getElem? (i := 32) rfl))) (by decide) (t := .int) (t' := (.array (.object "java/lang/Object"))) (by decide) (by decide)))
  have KP := KP.wr W3 (Or.inl (by simp))
  have F_o0_elementData := F_o0_elementData.same W3
  exact C3.retV d3_11 rfl (by decide) (by decide) ⟨rfl, KP, E_o0, F_o0_modCount, F_o0_elementData, F_o0_size⟩
def f16 (i0 : Int32) (i1 : Int32) : Int32 := if i0 < i1 then i1 else (i0)
theorem pd16 : parseMethodDescriptor "(II)I" = some ⟨[.int, .int], some .int⟩ := by decide +kernel
theorem ef16 (m : MethodId) (i0 : Int32) (i1 : Int32) : entryFrame m #[(.int i0), (.int i1)] 2 = mkF m 0 #[.val (.int i0), .val (.int i1)] [] := by first | (simp [entryFrame, mkF, argsToLocals, Value.category]; done) | rfl
theorem d16_0 : decode jdk_29_method_65_code 0 = .ok (.iload_n 0, 1) := by decide +kernel
theorem d16_1 : decode jdk_29_method_65_code 1 = .ok (.iload_n 1, 1) := by decide +kernel
theorem d16_2 : decode jdk_29_method_65_code 2 = .ok (.if_icmp .lt 7, 3) := by decide +kernel
theorem d16_5 : decode jdk_29_method_65_code 5 = .ok (.iload_n 0, 1) := by decide +kernel
theorem d16_6 : decode jdk_29_method_65_code 6 = .ok (.goto 4, 3) := by decide +kernel
theorem d16_9 : decode jdk_29_method_65_code 9 = .ok (.iload_n 1, 1) := by decide +kernel
theorem d16_10 : decode jdk_29_method_65_code 10 = .ok (.ireturn, 1) := by decide +kernel
set_option maxRecDepth 65536 in
set_option maxHeartbeats 40000000 in
theorem rm16 (l : Launch) (Z : State) (a0 : Array Value) (hw : ∀ d ∈ tables_1, d.before a0 Z = true) (i0 : Int32) (i1 : Int32) (h0 : Heap) (n0 : Nat) (Z0 : n0 ≤ h0.size) :
    Ctr l Z (⟨"java/lang/Math", "max", "(II)I"⟩ : MethodName) jdk_29_method_65_code 2 (some .int) ({ frames := 0, cells := 0, slots := 0, locals := 0 } : Room) #[(.int i0), (.int i1)] h0 n0 (fun v h' => v = some (.int (f16 i0 i1)) ∧ h' = h0) := by
  refine Ctr.body (L := #[.val (.int i0), .val (.int i1)]) (Jvm.Free.JP.mathPlain rfl (by decide +kernel)) Z0 (fun m => ef16 m i0 i1) ?_
  intro p e F m below meth c T0 C0
  refine C0.iloadN d16_0 rfl rfl ?_
  refine C0.iloadN d16_1 rfl rfl ?_
  refine C0.icmp_lt d16_2 (by decide) (by decide : _ = 9) rfl (fun c2 => ?_) (fun c2 => ?_)
  · refine C0.iloadN d16_9 rfl rfl ?_
    exact C0.retI d16_10 rfl (by decide) (by decide) ⟨by rw [f16, if_pos c2], rfl⟩
  · refine C0.iloadN d16_5 rfl rfl ?_
    refine C0.goto d16_6 (by decide) (by decide : _ = 10) ?_
    exact C0.retI d16_10 rfl (by decide) (by decide) ⟨by rw [f16, if_neg c2], rfl⟩
theorem pn15 : plainName "java/util/ArrayList" = true := by first | (simp [plainName, overriddenIn]; done) | decide +kernel
theorem pd15 : parseMethodDescriptor "(I)[Ljava/lang/Object;" = some ⟨[.int], some (.array (.object "java/lang/Object"))⟩ := by decide +kernel
theorem ef15 (m : MethodId) (o0 : Addr) (i1 : Int32) : entryFrame m #[(.ref o0), (.int i1)] 4 = mkF m 0 #[.val (.ref o0), .val (.int i1), .unset, .unset] [] := by first | (simp [entryFrame, mkF, argsToLocals, Value.category]; done) | rfl
theorem d15_0 : decode jdk_38_method_6_code 0 = .ok (.aload_n 0, 1) := by decide +kernel
theorem d15_1 : decode jdk_38_method_6_code 1 = .ok (.getfield 9, 3) := by decide +kernel
theorem d15_4 : decode jdk_38_method_6_code 4 = .ok (.arraylength, 1) := by decide +kernel
theorem d15_5 : decode jdk_38_method_6_code 5 = .ok (.istore_n 2, 1) := by decide +kernel
theorem d15_6 : decode jdk_38_method_6_code 6 = .ok (.iload_n 2, 1) := by decide +kernel
theorem d15_7 : decode jdk_38_method_6_code 7 = .ok (.ifCond .gt 13, 3) := by decide +kernel
theorem d15_10 : decode jdk_38_method_6_code 10 = .ok (.aload_n 0, 1) := by decide +kernel
theorem d15_11 : decode jdk_38_method_6_code 11 = .ok (.getfield 9, 3) := by decide +kernel
theorem d15_14 : decode jdk_38_method_6_code 14 = .ok (.getstatic 39, 3) := by decide +kernel
theorem d15_17 : decode jdk_38_method_6_code 17 = .ok (.if_acmp .eq 28, 3) := by decide +kernel
theorem d15_45 : decode jdk_38_method_6_code 45 = .ok (.aload_n 0, 1) := by decide +kernel
theorem d15_46 : decode jdk_38_method_6_code 46 = .ok (.bipush 10, 2) := by decide +kernel
theorem d15_48 : decode jdk_38_method_6_code 48 = .ok (.iload_n 1, 1) := by decide +kernel
theorem d15_49 : decode jdk_38_method_6_code 49 = .ok (.invokestatic 79, 3) := by decide +kernel
theorem d15_52 : decode jdk_38_method_6_code 52 = .ok (.anewarray 7, 3) := by decide +kernel
theorem d15_55 : decode jdk_38_method_6_code 55 = .ok (.dup_x1, 1) := by decide +kernel
theorem d15_56 : decode jdk_38_method_6_code 56 = .ok (.putfield 9, 3) := by decide +kernel
theorem d15_59 : decode jdk_38_method_6_code 59 = .ok (.areturn, 1) := by decide +kernel
set_option maxRecDepth 65536 in
set_option maxHeartbeats 40000000 in
theorem rm15 (l : Launch) (Z : State) (a0 : Array Value) (hw : ∀ d ∈ tables_1, d.before a0 Z = true) (o0 : Addr) (i1 : Int32) (de : Addr) (kde : ClassId) (x0 : Value) (h0 : Heap) (n0 : Nat) (Z0 : n0 ≤ h0.size) (E_o0 : Exa Z h0 o0 "java/util/ArrayList") (F_o0_modCount : Fld Z h0 o0 "java/util/AbstractList" "modCount" "I" x0) (F_o0_elementData : Fld Z h0 o0 "java/util/ArrayList" "elementData" "[Ljava/lang/Object;" (.ref de)) (F_o0_size : Fld Z h0 o0 "java/util/ArrayList" "size" "I" (.int (0 : Int32))) (g_o0 : n0 ≤ o0) (hi1 : i1 = (1 : Int32)) (S_DEFAULTCAPACITY_EMPTY_ELEMENTDATA : Sta Z h0 "java/util/ArrayList" "DEFAULTCAPACITY_EMPTY_ELEMENTDATA" "[Ljava/lang/Object;" (.ref de)) (V_de : Arv Z h0 de kde (.object "java/lang/Object") (0 : Int32) [] .null) (hde : de < n0) :
    Ctr l Z (⟨"java/util/ArrayList", "grow", "(I)[Ljava/lang/Object;"⟩ : MethodName) jdk_38_method_6_code 4 (some (.array (.object "java/lang/Object"))) ({ frames := 1, cells := 1, slots := 10, locals := 14 } : Room) #[(.ref o0), (.int i1)] h0 n0 (fun v h' => ∃ ed : Addr, ∃ ked : ClassId, v = some (.ref ed) ∧ Keep h0 h' [o0] ∧ Exa Z h' o0 "java/util/ArrayList" ∧ Fld Z h' o0 "java/util/AbstractList" "modCount" "I" x0 ∧ Fld Z h' o0 "java/util/ArrayList" "elementData" "[Ljava/lang/Object;" (.ref ed) ∧ Fld Z h' o0 "java/util/ArrayList" "size" "I" (.int (0 : Int32)) ∧ Exa Z h' ed "[Ljava/lang/Object;" ∧ Arv Z h' ed ked (.object "java/lang/Object") (10 : Int32) [.null, .null, .null, .null, .null, .null, .null, .null, .null, .null] .null ∧ Ovr Z ked "java/lang/Object" ∧ h0.size ≤ ed) := by
  refine Ctr.body (L := #[.val (.ref o0), .val (.int i1), .unset, .unset]) (plainFor_of_name pn15) Z0 (fun m => ef15 m o0 i1) ?_
  intro p e F m below meth c T0 C0
  have KP : Keep h0 h0 [o0] := Keep.refl h0 _
  subst hi1
  refine C0.aloadN d15_0 rfl rfl rfl ?_
  refine C0.getF (host := "") (Or.inl (hw _ (List.mem_of_getElem? (i := 31) rfl))) Via.refl F_o0_elementData d15_1 rfl (fun T1 C1 => ?_)
  refine C1.arrlen V_de d15_4 rfl ?_
  refine C1.istoreN d15_5 rfl (L' := #[.val (.ref o0), .val (.int (1 : Int32)), .val (.int (0 : Int32)), .unset]) rfl ?_
  refine C1.iloadN d15_6 rfl rfl ?_
  refine C1.if_gt d15_7 (by decide) (by decide : _ = 20) rfl (fun q => absurd q (by decide)) (fun _ => ?_)
  refine C1.aloadN d15_10 rfl rfl rfl ?_
  refine C1.getF (host := "") (Or.inl (hw _ (List.mem_of_getElem? (i := 31) rfl))) Via.refl F_o0_elementData d15_11 rfl (fun T2 C2 => ?_)
  refine C2.getS (host := "") (Or.inl (hw _ (List.mem_of_getElem? (i := 30) rfl))) Via.refl S_DEFAULTCAPACITY_EMPTY_ELEMENTDATA d15_14 rfl (fun T3 C3 => ?_)
  refine C3.acmp_eq d15_17 (by decide) (by decide : _ = 45) rfl (fun _ => ?_) (fun q => absurd rfl q)
  refine C3.aloadN d15_45 rfl rfl rfl ?_
  refine C3.bipush (10 : Int32) d15_46 rfl rfl ?_
  refine C3.iloadN d15_48 rfl rfl ?_
  refine C3.callS (hw _ (List.mem_of_getElem? (i := 127) rfl)) (hw _ (List.mem_of_getElem? (i := 128) rfl)) (hw _ (List.mem_of_getElem? (i := 129) rfl)) (hw _ (List.mem_of_getElem? (i := 130) rfl)) (by decide) (rm16 l Z a0 hw (10 : Int32) (1 : Int32) h0 n0 C3.size ) (argsL := [(.int (10 : Int32)), (.int (1 : Int32))]) pd16 rfl 1 (by decide) (by decide) (by decide) (by decide) (rest := [(.ref o0)]) rfl rfl (Nat.le_of_eq rfl) d15_49 rfl (fun v4 T4 h4 C4 qq4 => ?_)
  obtain ⟨rfl, hh4⟩ := qq4
  have hh4 := hh4.symm; subst hh4
  show Go p e below F n0 (fun v h' => ∃ ed : Addr, ∃ ked : ClassId, v = some (.ref ed) ∧ Keep h0 h' [o0] ∧ Exa Z h' o0 "java/util/ArrayList" ∧ Fld Z h' o0 "java/util/AbstractList" "modCount" "I" x0 ∧ Fld Z h' o0 "java/util/ArrayList" "elementData" "[Ljava/lang/Object;" (.ref ed) ∧ Fld Z h' o0 "java/util/ArrayList" "size" "I" (.int (0 : Int32)) ∧ Exa Z h' ed "[Ljava/lang/Object;" ∧ Arv Z h' ed ked (.object "java/lang/Object") (10 : Int32) [.null, .null, .null, .null, .null, .null, .null, .null, .null, .null] .null ∧ Ovr Z ked "java/lang/Object" ∧ h0.size ≤ ed) T4 (mkF m 52 #[.val (.ref o0), .val (.int (1 : Int32)), .val (.int (0 : Int32)), .unset] [(.int (f16 (10 : Int32) (1 : Int32))), (.ref o0)])
  rw [show (f16 (10 : Int32) (1 : Int32)) = (10 : Int32) from by decide]
  refine C4.newrefs (hw _ (List.mem_of_getElem? (i := 131) rfl)) (hw _ (List.mem_of_getElem? (i := 132) rfl)) 10 (by decide) (by decide) (by decide) (by decide) (by decide) (ad := "[Ljava/lang/Object;") rfl d15_52 rfl (fun T5 h5 b5 k5 C5 e5 g_b5 E5 V_b5 E_b5 O_k5 => ?_)
  have ne_o0_b5 : o0 ≠ b5 := Nat.ne_of_lt (Nat.lt_of_lt_of_eq E_o0.lt e5.symm)
  have ne_de_b5 : de ≠ b5 := Nat.ne_of_lt (Nat.lt_of_lt_of_eq V_de.lt e5.symm)
  have sz_b5 : h0.size ≤ b5 := Nat.le_trans KP.1 (Nat.le_of_eq e5.symm)
  have E_o0 := E_o0.ext E5
  have F_o0_modCount := F_o0_modCount.ext E5
  have F_o0_elementData := F_o0_elementData.ext E5
  have F_o0_size := F_o0_size.ext E5
  have S_DEFAULTCAPACITY_EMPTY_ELEMENTDATA := S_DEFAULTCAPACITY_EMPTY_ELEMENTDATA.ext E5
  have V_de := V_de.ext E5
  have KP := KP.ext E5
  have V_b5 : Arv Z h5 b5 k5 (.object "java/lang/Object") (10 : Int32) ([.null, .null, .null, .null, .null, .null, .null, .null, .null, .null] : List Value) .null := V_b5
  refine C5.dupX1 d15_55 rfl rfl rfl ?_
  refine C5.putF (host := "") (Or.inl (hw _ (List.mem_of_getElem? (i := 31) rfl))) Via.refl F_o0_elementData E_o0 (Or.inl (hw _ (List.mem_of_getElem? (i := 32) rfl))) (hw _ (List.mem_of_getElem? (i := 10) rfl)) (ty := (.array (.object "java/lang/Object"))) (by decide) rfl rfl g_o0 d15_56 rfl (fun T6 h6 C6 W6 => ?_)
  have ne_de_o0 : de ≠ o0 := (Nat.ne_of_lt (Nat.lt_of_lt_of_le hde g_o0))
  have E_o0 := E_o0.wr W6
  have F_o0_modCount := F_o0_modCount.other W6 (Or.inr (slot_ne (Or.inl (hw _ (List.mem_of_getElem? (i := 29) rfl))) (Or.inl (hw _ (List.mem_of_getElem? (i := 32) rfl))) (by decide) (t := .int) (t' := (.array (.object "java/lang/Object"))) (by decide) (by decide)))
  have F_o0_size := F_o0_size.other W6 (Or.inr (slot_ne (Or.inl (hw _ (List.mem_of_getElem? (i := 111) rfl))) (Or.inl (hw _ (List.mem_of_getElem? (i := 32) rfl))) (by decide) (t := .int) (t' := (.array (.object "java/lang/Object"))) (by decide) (by decide)))
  have S_DEFAULTCAPACITY_EMPTY_ELEMENTDATA := S_DEFAULTCAPACITY_EMPTY_ELEMENTDATA.wr W6
  have V_de := V_de.other W6 ne_de_o0
  have V_b5 := V_b5.other W6 (Ne.symm ne_o0_b5)
  have E_b5 := E_b5.wr W6
  have KP := KP.wr W6 (Or.inl (by simp))
  have F_o0_elementData := F_o0_elementData.same W6
  exact C6.retA d15_59 rfl rfl rfl (by decide) (by decide) ⟨b5, k5, rfl, KP, E_o0, F_o0_modCount, F_o0_elementData, F_o0_size, E_b5, V_b5, O_k5, sz_b5⟩
theorem pn14 : plainName "java/util/ArrayList" = true := by first | (simp [plainName, overriddenIn]; done) | decide +kernel
theorem pd14 : parseMethodDescriptor "()[Ljava/lang/Object;" = some ⟨[], some (.array (.object "java/lang/Object"))⟩ := by decide +kernel
theorem ef14 (m : MethodId) (o0 : Addr) : entryFrame m #[(.ref o0)] 1 = mkF m 0 #[.val (.ref o0)] [] := by first | (simp [entryFrame, mkF, argsToLocals, Value.category]; done) | rfl
theorem d14_0 : decode jdk_38_method_7_code 0 = .ok (.aload_n 0, 1) := by decide +kernel
theorem d14_1 : decode jdk_38_method_7_code 1 = .ok (.aload_n 0, 1) := by decide +kernel
theorem d14_2 : decode jdk_38_method_7_code 2 = .ok (.getfield 48, 3) := by decide +kernel
theorem d14_5 : decode jdk_38_method_7_code 5 = .ok (.iconst 1, 1) := by decide +kernel
theorem d14_6 : decode jdk_38_method_7_code 6 = .ok (.iadd, 1) := by decide +kernel
theorem d14_7 : decode jdk_38_method_7_code 7 = .ok (.invokevirtual 69, 3) := by decide +kernel
theorem d14_10 : decode jdk_38_method_7_code 10 = .ok (.areturn, 1) := by decide +kernel
set_option maxRecDepth 65536 in
set_option maxHeartbeats 40000000 in
theorem rm14 (l : Launch) (Z : State) (a0 : Array Value) (hw : ∀ d ∈ tables_1, d.before a0 Z = true) (o0 : Addr) (de : Addr) (kde : ClassId) (x0 : Value) (h0 : Heap) (n0 : Nat) (Z0 : n0 ≤ h0.size) (E_o0 : Exa Z h0 o0 "java/util/ArrayList") (F_o0_modCount : Fld Z h0 o0 "java/util/AbstractList" "modCount" "I" x0) (F_o0_elementData : Fld Z h0 o0 "java/util/ArrayList" "elementData" "[Ljava/lang/Object;" (.ref de)) (F_o0_size : Fld Z h0 o0 "java/util/ArrayList" "size" "I" (.int (0 : Int32))) (g_o0 : n0 ≤ o0) (S_DEFAULTCAPACITY_EMPTY_ELEMENTDATA : Sta Z h0 "java/util/ArrayList" "DEFAULTCAPACITY_EMPTY_ELEMENTDATA" "[Ljava/lang/Object;" (.ref de)) (V_de : Arv Z h0 de kde (.object "java/lang/Object") (0 : Int32) [] .null) (hde : de < n0) :
    Ctr l Z (⟨"java/util/ArrayList", "grow", "()[Ljava/lang/Object;"⟩ : MethodName) jdk_38_method_7_code 1 (some (.array (.object "java/lang/Object"))) ({ frames := 2, cells := 1, slots := 10, locals := 29 } : Room) #[(.ref o0)] h0 n0 (fun v h' => ∃ ed : Addr, ∃ ked : ClassId, v = some (.ref ed) ∧ Keep h0 h' [o0] ∧ Exa Z h' o0 "java/util/ArrayList" ∧ Fld Z h' o0 "java/util/AbstractList" "modCount" "I" x0 ∧ Fld Z h' o0 "java/util/ArrayList" "elementData" "[Ljava/lang/Object;" (.ref ed) ∧ Fld Z h' o0 "java/util/ArrayList" "size" "I" (.int (0 : Int32)) ∧ Exa Z h' ed "[Ljava/lang/Object;" ∧ Arv Z h' ed ked (.object "java/lang/Object") (10 : Int32) [.null, .null, .null, .null, .null, .null, .null, .null, .null, .null] .null ∧ Ovr Z ked "java/lang/Object" ∧ h0.size ≤ ed) := by
  refine Ctr.body (L := #[.val (.ref o0)]) (plainFor_of_name pn14) Z0 (fun m => ef14 m o0) ?_
  intro p e F m below meth c T0 C0
  have KP : Keep h0 h0 [o0] := Keep.refl h0 _
  refine C0.aloadN d14_0 rfl rfl rfl ?_
  refine C0.aloadN d14_1 rfl rfl rfl ?_
  refine C0.getF (host := "") (Or.inl (hw _ (List.mem_of_getElem? (i := 110) rfl))) Via.refl F_o0_size d14_2 rfl (fun T1 C1 => ?_)
  refine C1.iconst (1 : Int32) d14_5 rfl rfl ?_
  refine C1.iadd d14_6 rfl ?_
  rw [show ((0 : Int32) + (1 : Int32)) = (1 : Int32) from by decide]
  refine C1.callP (hw _ (List.mem_of_getElem? (i := 122) rfl)) (hw _ (List.mem_of_getElem? (i := 123) rfl)) (hw _ (List.mem_of_getElem? (i := 125) rfl)) (hw _ (List.mem_of_getElem? (i := 124) rfl)) (hw _ (List.mem_of_getElem? (i := 11) rfl)) (hw _ (List.mem_of_getElem? (i := 126) rfl)) E_o0 (by decide) (a := o0) (rm15 l Z a0 hw o0 (1 : Int32) de kde x0 h0 n0 C1.size E_o0 F_o0_modCount F_o0_elementData F_o0_size g_o0 rfl S_DEFAULTCAPACITY_EMPTY_ELEMENTDATA V_de hde) (argsL := [(.int (1 : Int32))]) pd15 rfl 0 (by decide) (by decide) (by decide) (by decide) (rest := []) rfl rfl (Nat.le_of_eq rfl) d14_7 rfl (fun v2 T2 h2 C2 qq2 => ?_)
  obtain ⟨ed2, ked2, rfl, K2, p2_0, p2_1, p2_2, p2_3, p2_4, p2_5, p2_6, p2_7⟩ := qq2
  have ne_o0_ed2 : o0 ≠ ed2 := Nat.ne_of_lt (Nat.lt_of_lt_of_le E_o0.lt p2_7)
  have ne_de_ed2 : de ≠ ed2 := Nat.ne_of_lt (Nat.lt_of_lt_of_le V_de.lt p2_7)
  have sz_ed2 : h0.size ≤ ed2 := Nat.le_trans KP.1 p2_7
  have g_ed2 : n0 ≤ ed2 := Nat.le_trans C1.size p2_7
  have ne_de_o0 : de ≠ o0 := (Nat.ne_of_lt (Nat.lt_of_lt_of_le hde g_o0))
  have S_DEFAULTCAPACITY_EMPTY_ELEMENTDATA := own_stak S_DEFAULTCAPACITY_EMPTY_ELEMENTDATA K2 (allS (own_plainE E_o0) (all0))
  have E_o0 := E_o0.keep K2
  have V_de := V_de.keep K2 (ninS ne_de_o0 nin0)
  have KP := KP.trans K2 (allS (Or.inl (by simp)) (all0))
  have E_o0 := p2_0
  have F_o0_modCount := p2_1
  have F_o0_elementData := p2_2
  have F_o0_size := p2_3
  have E_ed2 := p2_4
  have V_ed2 := p2_5
  have O_ked2 := p2_6
  show Go p e below F n0 (fun v h' => ∃ ed : Addr, ∃ ked : ClassId, v = some (.ref ed) ∧ Keep h0 h' [o0] ∧ Exa Z h' o0 "java/util/ArrayList" ∧ Fld Z h' o0 "java/util/AbstractList" "modCount" "I" x0 ∧ Fld Z h' o0 "java/util/ArrayList" "elementData" "[Ljava/lang/Object;" (.ref ed) ∧ Fld Z h' o0 "java/util/ArrayList" "size" "I" (.int (0 : Int32)) ∧ Exa Z h' ed "[Ljava/lang/Object;" ∧ Arv Z h' ed ked (.object "java/lang/Object") (10 : Int32) [.null, .null, .null, .null, .null, .null, .null, .null, .null, .null] .null ∧ Ovr Z ked "java/lang/Object" ∧ h0.size ≤ ed) T2 (mkF m 10 #[.val (.ref o0)] [(.ref ed2)])
  exact C2.retA d14_10 rfl rfl rfl (by decide) (by decide) ⟨ed2, ked2, rfl, KP, E_o0, F_o0_modCount, F_o0_elementData, F_o0_size, E_ed2, V_ed2, O_ked2, sz_ed2⟩
theorem pn13 : plainName "java/util/ArrayList" = true := by first | (simp [plainName, overriddenIn]; done) | decide +kernel
theorem pd13 : parseMethodDescriptor "(Ljava/lang/Object;[Ljava/lang/Object;I)V" = some ⟨[(.object "java/lang/Object"), (.array (.object "java/lang/Object")), .int], none⟩ := by decide +kernel
theorem ef13 (m : MethodId) (o0 : Addr) (o1 : Addr) (o2 : Addr) (i3 : Int32) : entryFrame m #[(.ref o0), (.ref o1), (.ref o2), (.int i3)] 4 = mkF m 0 #[.val (.ref o0), .val (.ref o1), .val (.ref o2), .val (.int i3)] [] := by first | (simp [entryFrame, mkF, argsToLocals, Value.category]; done) | rfl
theorem d13_0 : decode jdk_38_method_24_code 0 = .ok (.iload_n 3, 1) := by decide +kernel
theorem d13_1 : decode jdk_38_method_24_code 1 = .ok (.aload_n 2, 1) := by decide +kernel
theorem d13_2 : decode jdk_38_method_24_code 2 = .ok (.arraylength, 1) := by decide +kernel
theorem d13_3 : decode jdk_38_method_24_code 3 = .ok (.if_icmp .ne 8, 3) := by decide +kernel
theorem d13_6 : decode jdk_38_method_24_code 6 = .ok (.aload_n 0, 1) := by decide +kernel
theorem d13_7 : decode jdk_38_method_24_code 7 = .ok (.invokevirtual 129, 3) := by decide +kernel
theorem d13_10 : decode jdk_38_method_24_code 10 = .ok (.astore_n 2, 1) := by decide +kernel
theorem d13_11 : decode jdk_38_method_24_code 11 = .ok (.aload_n 2, 1) := by decide +kernel
theorem d13_12 : decode jdk_38_method_24_code 12 = .ok (.iload_n 3, 1) := by decide +kernel
theorem d13_13 : decode jdk_38_method_24_code 13 = .ok (.aload_n 1, 1) := by decide +kernel
theorem d13_14 : decode jdk_38_method_24_code 14 = .ok (.aastore, 1) := by decide +kernel
theorem d13_15 : decode jdk_38_method_24_code 15 = .ok (.aload_n 0, 1) := by decide +kernel
theorem d13_16 : decode jdk_38_method_24_code 16 = .ok (.iload_n 3, 1) := by decide +kernel
theorem d13_17 : decode jdk_38_method_24_code 17 = .ok (.iconst 1, 1) := by decide +kernel
theorem d13_18 : decode jdk_38_method_24_code 18 = .ok (.iadd, 1) := by decide +kernel
theorem d13_19 : decode jdk_38_method_24_code 19 = .ok (.putfield 48, 3) := by decide +kernel
theorem d13_22 : decode jdk_38_method_24_code 22 = .ok (.return_, 1) := by decide +kernel
set_option maxRecDepth 65536 in
set_option maxHeartbeats 40000000 in
theorem rm13 (l : Launch) (Z : State) (a0 : Array Value) (hw : ∀ d ∈ tables_1, d.before a0 Z = true) (o0 : Addr) (o1 : Addr) (o2 : Addr) (i3 : Int32) (kde : ClassId) (x0 : Value) (h0 : Heap) (n0 : Nat) (Z0 : n0 ≤ h0.size) (E_o0 : Exa Z h0 o0 "java/util/ArrayList") (F_o0_modCount : Fld Z h0 o0 "java/util/AbstractList" "modCount" "I" x0) (F_o0_elementData : Fld Z h0 o0 "java/util/ArrayList" "elementData" "[Ljava/lang/Object;" (.ref o2)) (F_o0_size : Fld Z h0 o0 "java/util/ArrayList" "size" "I" (.int (0 : Int32))) (g_o0 : n0 ≤ o0) (E_o1 : Exa Z h0 o1 "com/example/nestor/nestor/engine/Index") (hi3 : i3 = (0 : Int32)) (S_DEFAULTCAPACITY_EMPTY_ELEMENTDATA : Sta Z h0 "java/util/ArrayList" "DEFAULTCAPACITY_EMPTY_ELEMENTDATA" "[Ljava/lang/Object;" (.ref o2)) (V_o2 : Arv Z h0 o2 kde (.object "java/lang/Object") (0 : Int32) [] .null) (hde : o2 < n0) :
    Ctr l Z (⟨"java/util/ArrayList", "add", "(Ljava/lang/Object;[Ljava/lang/Object;I)V"⟩ : MethodName) jdk_38_method_24_code 4 none ({ frames := 3, cells := 1, slots := 10, locals := 41 } : Room) #[(.ref o0), (.ref o1), (.ref o2), (.int i3)] h0 n0 (fun v h' => ∃ ed : Addr, ∃ ked : ClassId, v = none ∧ Keep h0 h' [o0] ∧ Exa Z h' o0 "java/util/ArrayList" ∧ Fld Z h' o0 "java/util/AbstractList" "modCount" "I" x0 ∧ Fld Z h' o0 "java/util/ArrayList" "elementData" "[Ljava/lang/Object;" (.ref ed) ∧ Fld Z h' o0 "java/util/ArrayList" "size" "I" (.int (1 : Int32)) ∧ Exa Z h' ed "[Ljava/lang/Object;" ∧ Arv Z h' ed ked (.object "java/lang/Object") (10 : Int32) [(.ref o1), .null, .null, .null, .null, .null, .null, .null, .null, .null] .null ∧ Ovr Z ked "java/lang/Object" ∧ h0.size ≤ ed) := by
  refine Ctr.body (L := #[.val (.ref o0), .val (.ref o1), .val (.ref o2), .val (.int i3)]) (plainFor_of_name pn13) Z0 (fun m => ef13 m o0 o1 o2 i3) ?_
  intro p e F m below meth c T0 C0
  have KP : Keep h0 h0 [o0] := Keep.refl h0 _
  subst hi3
  refine C0.iloadN d13_0 rfl rfl ?_
  refine C0.aloadN d13_1 rfl rfl rfl ?_
  refine C0.arrlen V_o2 d13_2 rfl ?_
  refine C0.icmp_ne d13_3 (by decide) (by decide : _ = 11) rfl (fun q => absurd (by decide) q) (fun _ => ?_)
  refine C0.aloadN d13_6 rfl rfl rfl ?_
  refine C0.callP (hw _ (List.mem_of_getElem? (i := 117) rfl)) (hw _ (List.mem_of_getElem? (i := 118) rfl)) (hw _ (List.mem_of_getElem? (i := 120) rfl)) (hw _ (List.mem_of_getElem? (i := 119) rfl)) (hw _ (List.mem_of_getElem? (i := 11) rfl)) (hw _ (List.mem_of_getElem? (i := 121) rfl)) E_o0 (by decide) (a := o0) (rm14 l Z a0 hw o0 o2 kde x0 h0 n0 C0.size E_o0 F_o0_modCount F_o0_elementData F_o0_size g_o0 S_DEFAULTCAPACITY_EMPTY_ELEMENTDATA V_o2 hde) (argsL := []) pd14 rfl 0 (by decide) (by decide) (by decide) (by decide) (rest := []) rfl rfl (Nat.le_of_eq rfl) d13_7 rfl (fun v1 T1 h1 C1 qq1 => ?_)
  obtain ⟨ed1, ked1, rfl, K1, p1_0, p1_1, p1_2, p1_3, p1_4, p1_5, p1_6, p1_7⟩ := qq1
  have ne_o0_ed1 : o0 ≠ ed1 := Nat.ne_of_lt (Nat.lt_of_lt_of_le E_o0.lt p1_7)
  have ne_o1_ed1 : o1 ≠ ed1 := Nat.ne_of_lt (Nat.lt_of_lt_of_le E_o1.lt p1_7)
  have ne_o2_ed1 : o2 ≠ ed1 := Nat.ne_of_lt (Nat.lt_of_lt_of_le V_o2.lt p1_7)
  have sz_ed1 : h0.size ≤ ed1 := Nat.le_trans KP.1 p1_7
  have g_ed1 : n0 ≤ ed1 := Nat.le_trans C0.size p1_7
  have ne_o2_o0 : o2 ≠ o0 := (Nat.ne_of_lt (Nat.lt_of_lt_of_le hde g_o0))
  have S_DEFAULTCAPACITY_EMPTY_ELEMENTDATA := own_stak S_DEFAULTCAPACITY_EMPTY_ELEMENTDATA K1 (allS (own_plainE E_o0) (all0))
  have E_o0 := E_o0.keep K1
  have E_o1 := E_o1.keep K1
  have V_o2 := V_o2.keep K1 (ninS ne_o2_o0 nin0)
  have KP := KP.trans K1 (allS (Or.inl (by simp)) (all0))
  have E_o0 := p1_0
  have F_o0_modCount := p1_1
  have F_o0_elementData := p1_2
  have F_o0_size := p1_3
  have E_ed1 := p1_4
  have V_ed1 := p1_5
  have O_ked1 := p1_6
  show Go p e below F n0 (fun v h' => ∃ ed : Addr, ∃ ked : ClassId, v = none ∧ Keep h0 h' [o0] ∧ Exa Z h' o0 "java/util/ArrayList" ∧ Fld Z h' o0 "java/util/AbstractList" "modCount" "I" x0 ∧ Fld Z h' o0 "java/util/ArrayList" "elementData" "[Ljava/lang/Object;" (.ref ed) ∧ Fld Z h' o0 "java/util/ArrayList" "size" "I" (.int (1 : Int32)) ∧ Exa Z h' ed "[Ljava/lang/Object;" ∧ Arv Z h' ed ked (.object "java/lang/Object") (10 : Int32) [(.ref o1), .null, .null, .null, .null, .null, .null, .null, .null, .null] .null ∧ Ovr Z ked "java/lang/Object" ∧ h0.size ≤ ed) T1 (mkF m 10 #[.val (.ref o0), .val (.ref o1), .val (.ref o2), .val (.int (0 : Int32))] [(.ref ed1)])
  refine C1.astoreN d13_10 rfl rfl (L' := #[.val (.ref o0), .val (.ref o1), .val (.ref ed1), .val (.int (0 : Int32))]) rfl ?_
  refine C1.aloadN d13_11 rfl rfl rfl ?_
  refine C1.iloadN d13_12 rfl rfl ?_
  refine C1.aloadN d13_13 rfl rfl rfl ?_
  refine C1.aastore V_ed1 O_ked1 (Ins.of_exa E_o1 (hw _ (List.mem_of_getElem? (i := 133) rfl))) ⟨by decide, by decide⟩ (Nat.le_of_ble_eq_true rfl) g_ed1 d13_14 rfl (fun T2 h2 C2 W2 Vn2 => ?_)
  have E_o0 := E_o0.wr W2
  have E_o1 := E_o1.wr W2
  have S_DEFAULTCAPACITY_EMPTY_ELEMENTDATA := S_DEFAULTCAPACITY_EMPTY_ELEMENTDATA.wr W2
  have V_o2 := V_o2.other W2 ne_o2_ed1
  have F_o0_modCount := F_o0_modCount.other W2 (Or.inl ne_o0_ed1)
  have F_o0_elementData := F_o0_elementData.other W2 (Or.inl ne_o0_ed1)
  have F_o0_size := F_o0_size.other W2 (Or.inl ne_o0_ed1)
  have E_ed1 := E_ed1.wr W2
  have KP := KP.wr W2 (Or.inr sz_ed1)
  have V_ed1 : Arv Z h2 ed1 ked1 (.object "java/lang/Object") (10 : Int32) [(.ref o1), .null, .null, .null, .null, .null, .null, .null, .null, .null] .null := Vn2
  refine C2.aloadN d13_15 rfl rfl rfl ?_
  refine C2.iloadN d13_16 rfl rfl ?_
  refine C2.iconst (1 : Int32) d13_17 rfl rfl ?_
  refine C2.iadd d13_18 rfl ?_
  rw [show ((0 : Int32) + (1 : Int32)) = (1 : Int32) from by decide]
  refine C2.putF (host := "") (Or.inl (hw _ (List.mem_of_getElem? (i := 110) rfl))) Via.refl F_o0_size E_o0 (Or.inl (hw _ (List.mem_of_getElem? (i := 111) rfl))) (hw _ (List.mem_of_getElem? (i := 10) rfl)) (ty := .int) (by decide) rfl rfl g_o0 d13_19 rfl (fun T3 h3 C3 W3 => ?_)
  have E_o0 := E_o0.wr W3
  have E_o1 := E_o1.wr W3
  have S_DEFAULTCAPACITY_EMPTY_ELEMENTDATA := S_DEFAULTCAPACITY_EMPTY_ELEMENTDATA.wr W3
  have V_o2 := V_o2.other W3 ne_o2_o0
  have F_o0_modCount := F_o0_modCount.other W3 (Or.inr (slot_ne (Or.inl (hw _ (List.mem_of_getElem? (i := 29) rfl))) (Or.inl (hw _ (List.mem_of_getElem? (i := 111) rfl))) (by decide) (t := .int) (t' := .int) (by decide) (by decide)))
  have F_o0_elementData := F_o0_elementData.other W3 (Or.inr (slot_ne (Or.inl (hw _ (List.mem_of_getElem? (i := 32) rfl))) (Or.inl (hw _ (List.mem_of_getElem? (i := 111) rfl))) (by decide) (t := (.array (.object "java/lang/Object"))) (t' := .int) (by decide) (by decide)))
  have E_ed1 := E_ed1.wr W3
  have V_ed1 := V_ed1.other W3 (Ne.symm ne_o0_ed1)
  have KP := KP.wr W3 (Or.inl (by simp))
  have F_o0_size := F_o0_size.same W3
  exact C3.retV d13_22 rfl (by decide) (by decide) ⟨ed1, ked1, rfl, KP, E_o0, F_o0_modCount, F_o0_elementData, F_o0_size, E_ed1, V_ed1, O_ked1, sz_ed1⟩
theorem pn12 : plainName "java/util/ArrayList" = true := by first | (simp [plainName, overriddenIn]; done) | decide +kernel
theorem pd12 : parseMethodDescriptor "(Ljava/lang/Object;)Z" = some ⟨[(.object "java/lang/Object")], some .boolean⟩ := by decide +kernel
theorem ef12 (m : MethodId) (o0 : Addr) (o1 : Addr) : entryFrame m #[(.ref o0), (.ref o1)] 2 = mkF m 0 #[.val (.ref o0), .val (.ref o1)] [] := by first | (simp [entryFrame, mkF, argsToLocals, Value.category]; done) | rfl
theorem d12_0 : decode jdk_38_method_25_code 0 = .ok (.aload_n 0, 1) := by decide +kernel
theorem d12_1 : decode jdk_38_method_25_code 1 = .ok (.dup, 1) := by decide +kernel
theorem d12_2 : decode jdk_38_method_25_code 2 = .ok (.getfield 63, 3) := by decide +kernel
theorem d12_5 : decode jdk_38_method_25_code 5 = .ok (.iconst 1, 1) := by decide +kernel
theorem d12_6 : decode jdk_38_method_25_code 6 = .ok (.iadd, 1) := by decide +kernel
theorem d12_7 : decode jdk_38_method_25_code 7 = .ok (.putfield 63, 3) := by decide +kernel
theorem d12_10 : decode jdk_38_method_25_code 10 = .ok (.aload_n 0, 1) := by decide +kernel
theorem d12_11 : decode jdk_38_method_25_code 11 = .ok (.aload_n 1, 1) := by decide +kernel
theorem d12_12 : decode jdk_38_method_25_code 12 = .ok (.aload_n 0, 1) := by decide +kernel
theorem d12_13 : decode jdk_38_method_25_code 13 = .ok (.getfield 9, 3) := by decide +kernel
theorem d12_16 : decode jdk_38_method_25_code 16 = .ok (.aload_n 0, 1) := by decide +kernel
theorem d12_17 : decode jdk_38_method_25_code 17 = .ok (.getfield 48, 3) := by decide +kernel
theorem d12_20 : decode jdk_38_method_25_code 20 = .ok (.invokevirtual 131, 3) := by decide +kernel
theorem d12_23 : decode jdk_38_method_25_code 23 = .ok (.iconst 1, 1) := by decide +kernel
theorem d12_24 : decode jdk_38_method_25_code 24 = .ok (.ireturn, 1) := by decide +kernel
set_option maxRecDepth 65536 in
set_option maxHeartbeats 40000000 in
theorem rm12 (l : Launch) (Z : State) (a0 : Array Value) (hw : ∀ d ∈ tables_1, d.before a0 Z = true) (o0 : Addr) (o1 : Addr) (de : Addr) (kde : ClassId) (h0 : Heap) (n0 : Nat) (Z0 : n0 ≤ h0.size) (E_o0 : Exa Z h0 o0 "java/util/ArrayList") (F_o0_modCount : Fld Z h0 o0 "java/util/AbstractList" "modCount" "I" (.int (0 : Int32))) (F_o0_elementData : Fld Z h0 o0 "java/util/ArrayList" "elementData" "[Ljava/lang/Object;" (.ref de)) (F_o0_size : Fld Z h0 o0 "java/util/ArrayList" "size" "I" (.int (0 : Int32))) (g_o0 : n0 ≤ o0) (E_o1 : Exa Z h0 o1 "com/example/nestor/nestor/engine/Index") (S_DEFAULTCAPACITY_EMPTY_ELEMENTDATA : Sta Z h0 "java/util/ArrayList" "DEFAULTCAPACITY_EMPTY_ELEMENTDATA" "[Ljava/lang/Object;" (.ref de)) (V_de : Arv Z h0 de kde (.object "java/lang/Object") (0 : Int32) [] .null) (hde : de < n0) :
    Ctr l Z (⟨"java/util/ArrayList", "add", "(Ljava/lang/Object;)Z"⟩ : MethodName) jdk_38_method_25_code 2 (some .boolean) ({ frames := 4, cells := 1, slots := 10, locals := 56 } : Room) #[(.ref o0), (.ref o1)] h0 n0 (fun v h' => ∃ ed : Addr, ∃ ked : ClassId, v = some (.int (1 : Int32)) ∧ Keep h0 h' [o0] ∧ Exa Z h' o0 "java/util/ArrayList" ∧ Fld Z h' o0 "java/util/AbstractList" "modCount" "I" (.int (1 : Int32)) ∧ Fld Z h' o0 "java/util/ArrayList" "elementData" "[Ljava/lang/Object;" (.ref ed) ∧ Fld Z h' o0 "java/util/ArrayList" "size" "I" (.int (1 : Int32)) ∧ Exa Z h' ed "[Ljava/lang/Object;" ∧ Arv Z h' ed ked (.object "java/lang/Object") (10 : Int32) [(.ref o1), .null, .null, .null, .null, .null, .null, .null, .null, .null] .null ∧ Ovr Z ked "java/lang/Object" ∧ h0.size ≤ ed) := by
  refine Ctr.body (L := #[.val (.ref o0), .val (.ref o1)]) (plainFor_of_name pn12) Z0 (fun m => ef12 m o0 o1) ?_
  intro p e F m below meth c T0 C0
  have KP : Keep h0 h0 [o0] := Keep.refl h0 _
  refine C0.aloadN d12_0 rfl rfl rfl ?_
  refine C0.dup d12_1 rfl rfl ?_
  refine C0.getF (host := "") (Or.inl (hw _ (List.mem_of_getElem? (i := 108) rfl))) (Via.of (hw _ (List.mem_of_getElem? (i := 109) rfl))) F_o0_modCount d12_2 rfl (fun T1 C1 => ?_)
  refine C1.iconst (1 : Int32) d12_5 rfl rfl ?_
  refine C1.iadd d12_6 rfl ?_
  rw [show ((0 : Int32) + (1 : Int32)) = (1 : Int32) from by decide]
  refine C1.putF (host := "") (Or.inl (hw _ (List.mem_of_getElem? (i := 108) rfl))) (Via.of (hw _ (List.mem_of_getElem? (i := 109) rfl))) F_o0_modCount E_o0 (Or.inl (hw _ (List.mem_of_getElem? (i := 29) rfl))) (hw _ (List.mem_of_getElem? (i := 10) rfl)) (ty := .int) (by decide) rfl rfl g_o0 d12_7 rfl (fun T2 h2 C2 W2 => ?_)
  have ne_de_o0 : de ≠ o0 := (Nat.ne_of_lt (Nat.lt_of_lt_of_le hde g_o0))
  have E_o0 := E_o0.wr W2
  have F_o0_elementData := F_o0_elementData.other W2 (Or.inr (slot_ne (Or.inl (hw _ (List.mem_of_getElem? (i := 32) rfl))) (Or.inl (hw _ (List.mem_of_getElem? (i := 29) rfl))) (by decide) (t := (.array (.object "java/lang/Object"))) (t' := .int) (by decide) (by decide)))
  have F_o0_size := F_o0_size.other W2 (Or.inr (slot_ne (Or.inl (hw _ (List.mem_of_getElem? (i := 111) rfl))) (Or.inl (hw _ (List.mem_of_getElem? (i := 29) rfl))) (by decide) (t := .int) (t' := .int) (by decide) (by decide)))
  have E_o1 := E_o1.wr W2
  have S_DEFAULTCAPACITY_EMPTY_ELEMENTDATA := S_DEFAULTCAPACITY_EMPTY_ELEMENTDATA.wr W2
  have V_de := V_de.other W2 ne_de_o0
  have KP := KP.wr W2 (Or.inl (by simp))
  have F_o0_modCount := F_o0_modCount.same W2
  refine C2.aloadN d12_10 rfl rfl rfl ?_
  refine C2.aloadN d12_11 rfl rfl rfl ?_
  refine C2.aloadN d12_12 rfl rfl rfl ?_
  refine C2.getF (host := "") (Or.inl (hw _ (List.mem_of_getElem? (i := 31) rfl))) Via.refl F_o0_elementData d12_13 rfl (fun T3 C3 => ?_)
  refine C3.aloadN d12_16 rfl rfl rfl ?_
  refine C3.getF (host := "") (Or.inl (hw _ (List.mem_of_getElem? (i := 110) rfl))) Via.refl F_o0_size d12_17 rfl (fun T4 C4 => ?_)
  refine C4.callP (hw _ (List.mem_of_getElem? (i := 112) rfl)) (hw _ (List.mem_of_getElem? (i := 113) rfl)) (hw _ (List.mem_of_getElem? (i := 115) rfl)) (hw _ (List.mem_of_getElem? (i := 114) rfl)) (hw _ (List.mem_of_getElem? (i := 11) rfl)) (hw _ (List.mem_of_getElem? (i := 116) rfl)) E_o0 (by decide) (a := o0) (rm13 l Z a0 hw o0 o1 de (0 : Int32) kde (.int (1 : Int32)) h2 n0 C4.size E_o0 F_o0_modCount F_o0_elementData F_o0_size g_o0 E_o1 rfl S_DEFAULTCAPACITY_EMPTY_ELEMENTDATA V_de hde) (argsL := [(.ref o1), (.ref de), (.int (0 : Int32))]) pd13 rfl 0 (by decide) (by decide) (by decide) (by decide) (rest := []) rfl rfl (Nat.le_of_eq rfl) d12_20 rfl (fun v5 T5 h5 C5 qq5 => ?_)
  obtain ⟨ed5, ked5, rfl, K5, p5_0, p5_1, p5_2, p5_3, p5_4, p5_5, p5_6, p5_7⟩ := qq5
  have ne_o0_ed5 : o0 ≠ ed5 := Nat.ne_of_lt (Nat.lt_of_lt_of_le E_o0.lt p5_7)
  have ne_o1_ed5 : o1 ≠ ed5 := Nat.ne_of_lt (Nat.lt_of_lt_of_le E_o1.lt p5_7)
  have ne_de_ed5 : de ≠ ed5 := Nat.ne_of_lt (Nat.lt_of_lt_of_le V_de.lt p5_7)
  have sz_ed5 : h0.size ≤ ed5 := Nat.le_trans KP.1 p5_7
  have g_ed5 : n0 ≤ ed5 := Nat.le_trans C4.size p5_7
  have S_DEFAULTCAPACITY_EMPTY_ELEMENTDATA := own_stak S_DEFAULTCAPACITY_EMPTY_ELEMENTDATA K5 (allS (own_plainE E_o0) (all0))
  have E_o0 := E_o0.keep K5
  have E_o1 := E_o1.keep K5
  have V_de := V_de.keep K5 (ninS ne_de_o0 nin0)
  have KP := KP.trans K5 (allS (Or.inl (by simp)) (all0))
  have E_o0 := p5_0
  have F_o0_modCount := p5_1
  have F_o0_elementData := p5_2
  have F_o0_size := p5_3
  have E_ed5 := p5_4
  have V_ed5 := p5_5
  have O_ked5 := p5_6
  show Go p e below F n0 (fun v h' => ∃ ed : Addr, ∃ ked : ClassId, v = some (.int (1 : Int32)) ∧ Keep h0 h' [o0] ∧ Exa Z h' o0 "java/util/ArrayList" ∧ Fld Z h' o0 "java/util/AbstractList" "modCount" "I" (.int (1 : Int32)) ∧ Fld Z h' o0 "java/util/ArrayList" "elementData" "[Ljava/lang/Object;" (.ref ed) ∧ Fld Z h' o0 "java/util/ArrayList" "size" "I" (.int (1 : Int32)) ∧ Exa Z h' ed "[Ljava/lang/Object;" ∧ Arv Z h' ed ked (.object "java/lang/Object") (10 : Int32) [(.ref o1), .null, .null, .null, .null, .null, .null, .null, .null, .null] .null ∧ Ovr Z ked "java/lang/Object" ∧ h0.size ≤ ed) T5 (mkF m 23 #[.val (.ref o0), .val (.ref o1)] [])
  refine C5.iconst (1 : Int32) d12_23 rfl rfl ?_
  exact C5.retN (t := .boolean) d12_24 rfl (by simp) (by decide) (by decide) (w := (1 : Int32)) rfl ⟨ed5, ked5, rfl, KP, E_o0, F_o0_modCount, F_o0_elementData, F_o0_size, E_ed5, V_ed5, O_ked5, sz_ed5⟩
theorem pn24 : plainName "java/util/ArrayList$Itr" = true := by first | (simp [plainName, overriddenIn]; done) | decide +kernel
theorem pd24 : parseMethodDescriptor "(Ljava/util/ArrayList;)V" = some ⟨[(.object "java/util/ArrayList")], none⟩ := by decide +kernel
theorem ef24 (m : MethodId) (o0 : Addr) (o1 : Addr) : entryFrame m #[(.ref o0), (.ref o1)] 2 = mkF m 0 #[.val (.ref o0), .val (.ref o1)] [] := by first | (simp [entryFrame, mkF, argsToLocals, Value.category]; done) | rfl
theorem d24_0 : decode jdk_49_method_1_code 0 = .ok (.aload_n 0, 1) := by decide +kernel
theorem d24_1 : decode jdk_49_method_1_code 1 = .ok (.aload_n 1, 1) := by decide +kernel
theorem d24_2 : decode jdk_49_method_1_code 2 = .ok (.putfield 1, 3) := by decide +kernel
theorem d24_5 : decode jdk_49_method_1_code 5 = .ok (.aload_n 0, 1) := by decide +kernel
theorem d24_6 : decode jdk_49_method_1_code 6 = .ok (.invokespecial 7, 3) := by decide +kernel
theorem d24_9 : decode jdk_49_method_1_code 9 = .ok (.aload_n 0, 1) := by decide +kernel
theorem d24_10 : decode jdk_49_method_1_code 10 = .ok (.iconst (-1), 1) := by decide +kernel
theorem d24_11 : decode jdk_49_method_1_code 11 = .ok (.putfield 13, 3) := by decide +kernel
theorem d24_14 : decode jdk_49_method_1_code 14 = .ok (.aload_n 0, 1) := by decide +kernel
theorem d24_15 : decode jdk_49_method_1_code 15 = .ok (.aload_n 0, 1) := by decide +kernel
theorem d24_16 : decode jdk_49_method_1_code 16 = .ok (.getfield 1, 3) := by decide +kernel
theorem d24_19 : decode jdk_49_method_1_code 19 = .ok (.getfield 17, 3) := by decide +kernel
theorem d24_22 : decode jdk_49_method_1_code 22 = .ok (.putfield 22, 3) := by decide +kernel
theorem d24_25 : decode jdk_49_method_1_code 25 = .ok (.return_, 1) := by decide +kernel
set_option maxRecDepth 65536 in
set_option maxHeartbeats 40000000 in
theorem rm24 (l : Launch) (Z : State) (a0 : Array Value) (hw : ∀ d ∈ tables_1, d.before a0 Z = true) (o0 : Addr) (o1 : Addr) (x0 : Value) (x2 : Value) (x3 : Value) (mc : Int32) (h0 : Heap) (n0 : Nat) (Z0 : n0 ≤ h0.size) (E_o0 : Exa Z h0 o0 "java/util/ArrayList$Itr") (F_o0_this_0 : Fld Z h0 o0 "java/util/ArrayList$Itr" "this$0" "Ljava/util/ArrayList;" x0) (F_o0_cursor : Fld Z h0 o0 "java/util/ArrayList$Itr" "cursor" "I" (.int (0 : Int32))) (F_o0_lastRet : Fld Z h0 o0 "java/util/ArrayList$Itr" "lastRet" "I" x2) (F_o0_expectedModCount : Fld Z h0 o0 "java/util/ArrayList$Itr" "expectedModCount" "I" x3) (g_o0 : n0 ≤ o0) (E_o1 : Exa Z h0 o1 "java/util/ArrayList") (F_o1_modCount : Fld Z h0 o1 "java/util/AbstractList" "modCount" "I" (.int mc)) :
    Ctr l Z (⟨"java/util/ArrayList$Itr", "<init>", "(Ljava/util/ArrayList;)V"⟩ : MethodName) jdk_49_method_1_code 2 none ({ frames := 1, cells := 0, slots := 0, locals := 12 } : Room) #[(.ref o0), (.ref o1)] h0 n0 (fun v h' => v = none ∧ Keep h0 h' [o0] ∧ Exa Z h' o0 "java/util/ArrayList$Itr" ∧ Fld Z h' o0 "java/util/ArrayList$Itr" "this$0" "Ljava/util/ArrayList;" (.ref o1) ∧ Fld Z h' o0 "java/util/ArrayList$Itr" "cursor" "I" (.int (0 : Int32)) ∧ Fld Z h' o0 "java/util/ArrayList$Itr" "lastRet" "I" (.int (-1 : Int32)) ∧ Fld Z h' o0 "java/util/ArrayList$Itr" "expectedModCount" "I" (.int mc)) := by
  refine Ctr.body (L := #[.val (.ref o0), .val (.ref o1)]) (plainFor_of_name pn24) Z0 (fun m => ef24 m o0 o1) ?_
  intro p e F m below meth c T0 C0
  have KP : Keep h0 h0 [o0] := Keep.refl h0 _
  refine C0.aloadN d24_0 rfl rfl rfl ?_
  refine C0.aloadN d24_1 rfl rfl rfl ?_
  refine C0.putF (host := "") (Or.inl (hw _ (List.mem_of_getElem? (i := 183) rfl))) Via.refl F_o0_this_0 E_o0 (Or.inr ⟨(hw _ (List.mem_of_getElem? (i := 184) rfl)), rfl, rfl⟩) (hw _ (List.mem_of_getElem? (i := 177) rfl)) (ty := (.object "java/util/ArrayList")) (by decide) rfl rfl g_o0 d24_2 rfl (fun T1 h1 C1 W1 => ?_)
  have ne_o1_o0 : o1 ≠ o0 := (ne_exa E_o1 E_o0 (by decide))
  have E_o0 := E_o0.wr W1
  have F_o0_cursor := F_o0_cursor.other W1 (Or.inr (slot_ne (Or.inl (hw _ (List.mem_of_getElem? (i := 201) rfl))) (Or.inr (hw _ (List.mem_of_getElem? (i := 184) rfl))) (by decide) (t := .int) (t' := (.object "java/util/ArrayList")) (by decide) (by decide)))
  have F_o0_lastRet := F_o0_lastRet.other W1 (Or.inr (slot_ne (Or.inl (hw _ (List.mem_of_getElem? (i := 187) rfl))) (Or.inr (hw _ (List.mem_of_getElem? (i := 184) rfl))) (by decide) (t := .int) (t' := (.object "java/util/ArrayList")) (by decide) (by decide)))
  have F_o0_expectedModCount := F_o0_expectedModCount.other W1 (Or.inr (slot_ne (Or.inl (hw _ (List.mem_of_getElem? (i := 190) rfl))) (Or.inr (hw _ (List.mem_of_getElem? (i := 184) rfl))) (by decide) (t := .int) (t' := (.object "java/util/ArrayList")) (by decide) (by decide)))
  have E_o1 := E_o1.wr W1
  have F_o1_modCount := F_o1_modCount.other W1 (Or.inl ne_o1_o0)
  have KP := KP.wr W1 (Or.inl (by simp))
  have F_o0_this_0 := F_o0_this_0.same W1
  refine C1.aloadN d24_5 rfl rfl rfl ?_
  refine C1.initObj (hw _ (List.mem_of_getElem? (i := 185) rfl)) (hw _ (List.mem_of_getElem? (i := 7) rfl)) (hw _ (List.mem_of_getElem? (i := 8) rfl)) rfl (by decide) 0 (Nat.le_of_eq rfl) (by decide) d24_6 rfl (fun T2 C2 => ?_)
  refine C2.aloadN d24_9 rfl rfl rfl ?_
  refine C2.iconst (-1 : Int32) d24_10 rfl rfl ?_
  refine C2.putF (host := "") (Or.inl (hw _ (List.mem_of_getElem? (i := 186) rfl))) Via.refl F_o0_lastRet E_o0 (Or.inl (hw _ (List.mem_of_getElem? (i := 187) rfl))) (hw _ (List.mem_of_getElem? (i := 177) rfl)) (ty := .int) (by decide) rfl rfl g_o0 d24_11 rfl (fun T3 h3 C3 W3 => ?_)
  have E_o0 := E_o0.wr W3
  have F_o0_this_0 := F_o0_this_0.other W3 (Or.inr (slot_ne (Or.inr (hw _ (List.mem_of_getElem? (i := 184) rfl))) (Or.inl (hw _ (List.mem_of_getElem? (i := 187) rfl))) (by decide) (t := (.object "java/util/ArrayList")) (t' := .int) (by decide) (by decide)))
  have F_o0_cursor := F_o0_cursor.other W3 (Or.inr (slot_ne (Or.inl (hw _ (List.mem_of_getElem? (i := 201) rfl))) (Or.inl (hw _ (List.mem_of_getElem? (i := 187) rfl))) (by decide) (t := .int) (t' := .int) (by decide) (by decide)))
  have F_o0_expectedModCount := F_o0_expectedModCount.other W3 (Or.inr (slot_ne (Or.inl (hw _ (List.mem_of_getElem? (i := 190) rfl))) (Or.inl (hw _ (List.mem_of_getElem? (i := 187) rfl))) (by decide) (t := .int) (t' := .int) (by decide) (by decide)))
  have E_o1 := E_o1.wr W3
  have F_o1_modCount := F_o1_modCount.other W3 (Or.inl ne_o1_o0)
  have KP := KP.wr W3 (Or.inl (by simp))
  have F_o0_lastRet := F_o0_lastRet.same W3
  refine C3.aloadN d24_14 rfl rfl rfl ?_
  refine C3.aloadN d24_15 rfl rfl rfl ?_
  refine C3.getF (host := "") (Or.inl (hw _ (List.mem_of_getElem? (i := 183) rfl))) Via.refl F_o0_this_0 d24_16 rfl (fun T4 C4 => ?_)
  refine C4.getF (host := "") (Or.inl (hw _ (List.mem_of_getElem? (i := 188) rfl))) (Via.of (hw _ (List.mem_of_getElem? (i := 109) rfl))) F_o1_modCount d24_19 rfl (fun T5 C5 => ?_)
  refine C5.putF (host := "") (Or.inl (hw _ (List.mem_of_getElem? (i := 189) rfl))) Via.refl F_o0_expectedModCount E_o0 (Or.inl (hw _ (List.mem_of_getElem? (i := 190) rfl))) (hw _ (List.mem_of_getElem? (i := 177) rfl)) (ty := .int) (by decide) rfl rfl g_o0 d24_22 rfl (fun T6 h6 C6 W6 => ?_)
  have E_o0 := E_o0.wr W6
  have F_o0_this_0 := F_o0_this_0.other W6 (Or.inr (slot_ne (Or.inr (hw _ (List.mem_of_getElem? (i := 184) rfl))) (Or.inl (hw _ (List.mem_of_getElem? (i := 190) rfl))) (by decide) (t := (.object "java/util/ArrayList")) (t' := .int) (by decide) (by decide)))
  have F_o0_cursor := F_o0_cursor.other W6 (Or.inr (slot_ne (Or.inl (hw _ (List.mem_of_getElem? (i := 201) rfl))) (Or.inl (hw _ (List.mem_of_getElem? (i := 190) rfl))) (by decide) (t := .int) (t' := .int) (by decide) (by decide)))
  have F_o0_lastRet := F_o0_lastRet.other W6 (Or.inr (slot_ne (Or.inl (hw _ (List.mem_of_getElem? (i := 187) rfl))) (Or.inl (hw _ (List.mem_of_getElem? (i := 190) rfl))) (by decide) (t := .int) (t' := .int) (by decide) (by decide)))
  have E_o1 := E_o1.wr W6
  have F_o1_modCount := F_o1_modCount.other W6 (Or.inl ne_o1_o0)
  have KP := KP.wr W6 (Or.inl (by simp))
  have F_o0_expectedModCount := F_o0_expectedModCount.same W6
  exact C6.retV d24_25 rfl (by decide) (by decide) ⟨rfl, KP, E_o0, F_o0_this_0, F_o0_cursor, F_o0_lastRet, F_o0_expectedModCount⟩
theorem pn23 : plainName "java/util/ArrayList" = true := by first | (simp [plainName, overriddenIn]; done) | decide +kernel
theorem pd23 : parseMethodDescriptor "()Ljava/util/Iterator;" = some ⟨[], some (.object "java/util/Iterator")⟩ := by decide +kernel
theorem ef23 (m : MethodId) (o0 : Addr) : entryFrame m #[(.ref o0)] 1 = mkF m 0 #[.val (.ref o0)] [] := by first | (simp [entryFrame, mkF, argsToLocals, Value.category]; done) | rfl
theorem d23_0 : decode jdk_38_method_55_code 0 = .ok (.new 267, 3) := by decide +kernel
theorem d23_3 : decode jdk_38_method_55_code 3 = .ok (.dup, 1) := by decide +kernel
theorem d23_4 : decode jdk_38_method_55_code 4 = .ok (.aload_n 0, 1) := by decide +kernel
theorem d23_5 : decode jdk_38_method_55_code 5 = .ok (.invokespecial 269, 3) := by decide +kernel
theorem d23_8 : decode jdk_38_method_55_code 8 = .ok (.areturn, 1) := by decide +kernel
set_option maxRecDepth 65536 in
set_option maxHeartbeats 40000000 in
theorem rm23 (l : Launch) (Z : State) (a0 : Array Value) (hw : ∀ d ∈ tables_1, d.before a0 Z = true) (o0 : Addr) (mc : Int32) (h0 : Heap) (n0 : Nat) (Z0 : n0 ≤ h0.size) (E_o0 : Exa Z h0 o0 "java/util/ArrayList") (F_o0_modCount : Fld Z h0 o0 "java/util/AbstractList" "modCount" "I" (.int mc)) :
    Ctr l Z (⟨"java/util/ArrayList", "iterator", "()Ljava/util/Iterator;"⟩ : MethodName) jdk_38_method_55_code 1 (some (.object "java/util/Iterator")) ({ frames := 2, cells := 1, slots := 4, locals := 26 } : Room) #[(.ref o0)] h0 n0 (fun v h' => ∃ it : Addr, v = some (.ref it) ∧ Keep h0 h' [] ∧ Exa Z h' it "java/util/ArrayList$Itr" ∧ Fld Z h' it "java/util/ArrayList$Itr" "this$0" "Ljava/util/ArrayList;" (.ref o0) ∧ Fld Z h' it "java/util/ArrayList$Itr" "cursor" "I" (.int (0 : Int32)) ∧ Fld Z h' it "java/util/ArrayList$Itr" "lastRet" "I" (.int (-1 : Int32)) ∧ Fld Z h' it "java/util/ArrayList$Itr" "expectedModCount" "I" (.int mc) ∧ h0.size ≤ it) := by
  refine Ctr.body (L := #[.val (.ref o0)]) (plainFor_of_name pn23) Z0 (fun m => ef23 m o0) ?_
  intro p e F m below meth c T0 C0
  have KP : Keep h0 h0 [] := Keep.refl h0 _
  refine C0.new (hw _ (List.mem_of_getElem? (i := 176) rfl)) (hw _ (List.mem_of_getElem? (i := 177) rfl)) (hw _ (List.mem_of_getElem? (i := 178) rfl)) d23_0 rfl (by decide) (by decide) (fun T1 h1 b1 C1 e1 g_b1 E1 E_b1 D1 => ?_)
  have ne_o0_b1 : o0 ≠ b1 := Nat.ne_of_lt (Nat.lt_of_lt_of_eq E_o0.lt e1.symm)
  have sz_b1 : h0.size ≤ b1 := Nat.le_trans KP.1 (Nat.le_of_eq e1.symm)
  have E_o0 := E_o0.ext E1
  have F_o0_modCount := F_o0_modCount.ext E1
  have KP := KP.ext E1
  have F_b1_this_0 : Fld Z h1 b1 "java/util/ArrayList$Itr" "this$0" "Ljava/util/ArrayList;" .null := D1 (Or.inr (hw _ (List.mem_of_getElem? (i := 184) rfl))) (ty := (.object "java/util/ArrayList")) (by decide)
  have F_b1_lastRet : Fld Z h1 b1 "java/util/ArrayList$Itr" "lastRet" "I" (.int (0 : Int32)) := D1 (Or.inl (hw _ (List.mem_of_getElem? (i := 187) rfl))) (ty := .int) (by decide)
  have F_b1_expectedModCount : Fld Z h1 b1 "java/util/ArrayList$Itr" "expectedModCount" "I" (.int (0 : Int32)) := D1 (Or.inl (hw _ (List.mem_of_getElem? (i := 190) rfl))) (ty := .int) (by decide)
  have F_b1_cursor : Fld Z h1 b1 "java/util/ArrayList$Itr" "cursor" "I" (.int (0 : Int32)) := D1 (Or.inl (hw _ (List.mem_of_getElem? (i := 201) rfl))) (ty := .int) (by decide)
  refine C1.dup d23_3 rfl rfl ?_
  refine C1.aloadN d23_4 rfl rfl rfl ?_
  refine C1.callN rfl (hw _ (List.mem_of_getElem? (i := 179) rfl)) (hw _ (List.mem_of_getElem? (i := 180) rfl)) (hw _ (List.mem_of_getElem? (i := 178) rfl)) (hw _ (List.mem_of_getElem? (i := 182) rfl)) (by decide) (a := b1) (rm24 l Z a0 hw b1 o0 .null (.int (0 : Int32)) (.int (0 : Int32)) mc h1 n0 C1.size E_b1 F_b1_this_0 F_b1_cursor F_b1_lastRet F_b1_expectedModCount g_b1 E_o0 F_o0_modCount) (argsL := [(.ref o0)]) pd24 rfl 1 (by decide) (by decide) (by decide) (by decide) (rest := [(.ref b1)]) rfl rfl (Nat.le_of_eq rfl) d23_5 rfl (fun v2 T2 h2 C2 qq2 => ?_)
  obtain ⟨rfl, K2, p2_0, p2_1, p2_2, p2_3, p2_4⟩ := qq2
  have E_o0 := E_o0.keep K2
  have F_o0_modCount := F_o0_modCount.keep K2 (ninS ne_o0_b1 nin0)
  have E_b1 := E_b1.keep K2
  have KP := KP.trans K2 (allS (Or.inr sz_b1) (all0))
  have E_b1 := p2_0
  have F_b1_this_0 := p2_1
  have F_b1_cursor := p2_2
  have F_b1_lastRet := p2_3
  have F_b1_expectedModCount := p2_4
  show Go p e below F n0 (fun v h' => ∃ it : Addr, v = some (.ref it) ∧ Keep h0 h' [] ∧ Exa Z h' it "java/util/ArrayList$Itr" ∧ Fld Z h' it "java/util/ArrayList$Itr" "this$0" "Ljava/util/ArrayList;" (.ref o0) ∧ Fld Z h' it "java/util/ArrayList$Itr" "cursor" "I" (.int (0 : Int32)) ∧ Fld Z h' it "java/util/ArrayList$Itr" "lastRet" "I" (.int (-1 : Int32)) ∧ Fld Z h' it "java/util/ArrayList$Itr" "expectedModCount" "I" (.int mc) ∧ h0.size ≤ it) T2 (mkF m 8 #[.val (.ref o0)] [(.ref b1)])
  exact C2.retA d23_8 rfl rfl rfl (by decide) (by decide) ⟨b1, rfl, KP, E_b1, F_b1_this_0, F_b1_cursor, F_b1_lastRet, F_b1_expectedModCount, sz_b1⟩
def f25 (cu : Int32) (sz : Int32) : Int32 := if cu = sz then (0 : Int32) else ((1 : Int32))
theorem pn25 : plainName "java/util/ArrayList$Itr" = true := by first | (simp [plainName, overriddenIn]; done) | decide +kernel
theorem pd25 : parseMethodDescriptor "()Z" = some ⟨[], some .boolean⟩ := by decide +kernel
theorem ef25 (m : MethodId) (o0 : Addr) : entryFrame m #[(.ref o0)] 1 = mkF m 0 #[.val (.ref o0)] [] := by first | (simp [entryFrame, mkF, argsToLocals, Value.category]; done) | rfl
theorem d25_0 : decode jdk_49_method_2_code 0 = .ok (.aload_n 0, 1) := by decide +kernel
theorem d25_1 : decode jdk_49_method_2_code 1 = .ok (.getfield 25, 3) := by decide +kernel
theorem d25_4 : decode jdk_49_method_2_code 4 = .ok (.aload_n 0, 1) := by decide +kernel
theorem d25_5 : decode jdk_49_method_2_code 5 = .ok (.getfield 1, 3) := by decide +kernel
theorem d25_8 : decode jdk_49_method_2_code 8 = .ok (.getfield 28, 3) := by decide +kernel
theorem d25_11 : decode jdk_49_method_2_code 11 = .ok (.if_icmp .eq 7, 3) := by decide +kernel
theorem d25_14 : decode jdk_49_method_2_code 14 = .ok (.iconst 1, 1) := by decide +kernel
theorem d25_15 : decode jdk_49_method_2_code 15 = .ok (.goto 4, 3) := by decide +kernel
theorem d25_18 : decode jdk_49_method_2_code 18 = .ok (.iconst 0, 1) := by decide +kernel
theorem d25_19 : decode jdk_49_method_2_code 19 = .ok (.ireturn, 1) := by decide +kernel
set_option maxRecDepth 65536 in
set_option maxHeartbeats 40000000 in
theorem rm25 (l : Launch) (Z : State) (a0 : Array Value) (hw : ∀ d ∈ tables_1, d.before a0 Z = true) (o0 : Addr) (al : Addr) (cu : Int32) (sz : Int32) (h0 : Heap) (n0 : Nat) (Z0 : n0 ≤ h0.size) (F_o0_this_0 : Fld Z h0 o0 "java/util/ArrayList$Itr" "this$0" "Ljava/util/ArrayList;" (.ref al)) (F_o0_cursor : Fld Z h0 o0 "java/util/ArrayList$Itr" "cursor" "I" (.int cu)) (F_al_size : Fld Z h0 al "java/util/ArrayList" "size" "I" (.int sz)) :
    Ctr l Z (⟨"java/util/ArrayList$Itr", "hasNext", "()Z"⟩ : MethodName) jdk_49_method_2_code 1 (some .boolean) ({ frames := 0, cells := 0, slots := 0, locals := 0 } : Room) #[(.ref o0)] h0 n0 (fun v h' => v = some (.int (f25 cu sz)) ∧ h' = h0) := by
  refine Ctr.body (L := #[.val (.ref o0)]) (plainFor_of_name pn25) Z0 (fun m => ef25 m o0) ?_
  intro p e F m below meth c T0 C0
  refine C0.aloadN d25_0 rfl rfl rfl ?_
  refine C0.getF (host := "") (Or.inl (hw _ (List.mem_of_getElem? (i := 200) rfl))) Via.refl F_o0_cursor d25_1 rfl (fun T1 C1 => ?_)
  refine C1.aloadN d25_4 rfl rfl rfl ?_
  refine C1.getF (host := "") (Or.inl (hw _ (List.mem_of_getElem? (i := 183) rfl))) Via.refl F_o0_this_0 d25_5 rfl (fun T2 C2 => ?_)
  refine C2.getF (Or.inr (hw _ (List.mem_of_getElem? (i := 202) rfl))) Via.refl F_al_size d25_8 rfl (fun T3 C3 => ?_)
  refine C3.icmp_eq d25_11 (by decide) (by decide : _ = 18) rfl (fun c11 => ?_) (fun c11 => ?_)
  · refine C3.iconst (0 : Int32) d25_18 rfl rfl ?_
    exact C3.retN (t := .boolean) d25_19 rfl (by simp) (by decide) (by decide) (w := (0 : Int32)) rfl ⟨by rw [f25, if_pos c11], rfl⟩
  · refine C3.iconst (1 : Int32) d25_14 rfl rfl ?_
    refine C3.goto d25_15 (by decide) (by decide : _ = 19) ?_
    exact C3.retN (t := .boolean) d25_19 rfl (by simp) (by decide) (by decide) (w := (1 : Int32)) rfl ⟨by rw [f25, if_neg c11], rfl⟩
theorem pn27 : plainName "java/util/ArrayList$Itr" = true := by first | (simp [plainName, overriddenIn]; done) | decide +kernel
theorem pd27 : parseMethodDescriptor "()V" = some ⟨[], none⟩ := by decide +kernel
theorem ef27 (m : MethodId) (o0 : Addr) : entryFrame m #[(.ref o0)] 1 = mkF m 0 #[.val (.ref o0)] [] := by first | (simp [entryFrame, mkF, argsToLocals, Value.category]; done) | rfl
theorem d27_0 : decode jdk_49_method_6_code 0 = .ok (.aload_n 0, 1) := by decide +kernel
theorem d27_1 : decode jdk_49_method_6_code 1 = .ok (.getfield 1, 3) := by decide +kernel
theorem d27_4 : decode jdk_49_method_6_code 4 = .ok (.getfield 17, 3) := by decide +kernel
theorem d27_7 : decode jdk_49_method_6_code 7 = .ok (.aload_n 0, 1) := by decide +kernel
theorem d27_8 : decode jdk_49_method_6_code 8 = .ok (.getfield 22, 3) := by decide +kernel
theorem d27_11 : decode jdk_49_method_6_code 11 = .ok (.if_icmp .eq 11, 3) := by decide +kernel
theorem d27_22 : decode jdk_49_method_6_code 22 = .ok (.return_, 1) := by decide +kernel
set_option maxRecDepth 65536 in
set_option maxHeartbeats 40000000 in
theorem rm27 (l : Launch) (Z : State) (a0 : Array Value) (hw : ∀ d ∈ tables_1, d.before a0 Z = true) (o0 : Addr) (al : Addr) (mc : Int32) (h0 : Heap) (n0 : Nat) (Z0 : n0 ≤ h0.size) (F_o0_this_0 : Fld Z h0 o0 "java/util/ArrayList$Itr" "this$0" "Ljava/util/ArrayList;" (.ref al)) (F_al_modCount : Fld Z h0 al "java/util/AbstractList" "modCount" "I" (.int mc)) (F_o0_expectedModCount : Fld Z h0 o0 "java/util/ArrayList$Itr" "expectedModCount" "I" (.int mc)) :
    Ctr l Z (⟨"java/util/ArrayList$Itr", "checkForComodification", "()V"⟩ : MethodName) jdk_49_method_6_code 1 none ({ frames := 0, cells := 0, slots := 0, locals := 0 } : Room) #[(.ref o0)] h0 n0 (fun v h' => v = none ∧ h' = h0) := by
  refine Ctr.body (L := #[.val (.ref o0)]) (plainFor_of_name pn27) Z0 (fun m => ef27 m o0) ?_
  intro p e F m below meth c T0 C0
  refine C0.aloadN d27_0 rfl rfl rfl ?_
  refine C0.getF (host := "") (Or.inl (hw _ (List.mem_of_getElem? (i := 183) rfl))) Via.refl F_o0_this_0 d27_1 rfl (fun T1 C1 => ?_)
  refine C1.getF (host := "") (Or.inl (hw _ (List.mem_of_getElem? (i := 188) rfl))) (Via.of (hw _ (List.mem_of_getElem? (i := 109) rfl))) F_al_modCount d27_4 rfl (fun T2 C2 => ?_)
  refine C2.aloadN d27_7 rfl rfl rfl ?_
  refine C2.getF (host := "") (Or.inl (hw _ (List.mem_of_getElem? (i := 189) rfl))) Via.refl F_o0_expectedModCount d27_8 rfl (fun T3 C3 => ?_)
  refine C3.icmp_eq d27_11 (by decide) (by decide : _ = 22) rfl (fun _ => ?_) (fun q => absurd rfl q)
  exact C3.retV d27_22 rfl (by decide) (by decide) ⟨rfl, rfl⟩
theorem pn26 : plainName "java/util/ArrayList$Itr" = true := by first | (simp [plainName, overriddenIn]; done) | decide +kernel
theorem pd26 : parseMethodDescriptor "()Ljava/lang/Object;" = some ⟨[], some (.object "java/lang/Object")⟩ := by decide +kernel
theorem ef26 (m : MethodId) (o0 : Addr) : entryFrame m #[(.ref o0)] 3 = mkF m 0 #[.val (.ref o0), .unset, .unset] [] := by first | (simp [entryFrame, mkF, argsToLocals, Value.category]; done) | rfl
theorem d26_0 : decode jdk_49_method_3_code 0 = .ok (.aload_n 0, 1) := by decide +kernel
theorem d26_1 : decode jdk_49_method_3_code 1 = .ok (.invokevirtual 31, 3) := by decide +kernel
theorem d26_4 : decode jdk_49_method_3_code 4 = .ok (.aload_n 0, 1) := by decide +kernel
theorem d26_5 : decode jdk_49_method_3_code 5 = .ok (.getfield 25, 3) := by decide +kernel
theorem d26_8 : decode jdk_49_method_3_code 8 = .ok (.istore_n 1, 1) := by decide +kernel
theorem d26_9 : decode jdk_49_method_3_code 9 = .ok (.iload_n 1, 1) := by decide +kernel
theorem d26_10 : decode jdk_49_method_3_code 10 = .ok (.aload_n 0, 1) := by decide +kernel
theorem d26_11 : decode jdk_49_method_3_code 11 = .ok (.getfield 1, 3) := by decide +kernel
theorem d26_14 : decode jdk_49_method_3_code 14 = .ok (.getfield 28, 3) := by decide +kernel
theorem d26_17 : decode jdk_49_method_3_code 17 = .ok (.if_icmp .lt 11, 3) := by decide +kernel
theorem d26_28 : decode jdk_49_method_3_code 28 = .ok (.aload_n 0, 1) := by decide +kernel
theorem d26_29 : decode jdk_49_method_3_code 29 = .ok (.getfield 1, 3) := by decide +kernel
theorem d26_32 : decode jdk_49_method_3_code 32 = .ok (.getfield 37, 3) := by decide +kernel
theorem d26_35 : decode jdk_49_method_3_code 35 = .ok (.astore_n 2, 1) := by decide +kernel
theorem d26_36 : decode jdk_49_method_3_code 36 = .ok (.iload_n 1, 1) := by decide +kernel
theorem d26_37 : decode jdk_49_method_3_code 37 = .ok (.aload_n 2, 1) := by decide +kernel
theorem d26_38 : decode jdk_49_method_3_code 38 = .ok (.arraylength, 1) := by decide +kernel
theorem d26_39 : decode jdk_49_method_3_code 39 = .ok (.if_icmp .lt 11, 3) := by decide +kernel
theorem d26_50 : decode jdk_49_method_3_code 50 = .ok (.aload_n 0, 1) := by decide +kernel
theorem d26_51 : decode jdk_49_method_3_code 51 = .ok (.iload_n 1, 1) := by decide +kernel
theorem d26_52 : decode jdk_49_method_3_code 52 = .ok (.iconst 1, 1) := by decide +kernel
theorem d26_53 : decode jdk_49_method_3_code 53 = .ok (.iadd, 1) := by decide +kernel
theorem d26_54 : decode jdk_49_method_3_code 54 = .ok (.putfield 25, 3) := by decide +kernel
theorem d26_57 : decode jdk_49_method_3_code 57 = .ok (.aload_n 2, 1) := by decide +kernel
theorem d26_58 : decode jdk_49_method_3_code 58 = .ok (.aload_n 0, 1) := by decide +kernel
theorem d26_59 : decode jdk_49_method_3_code 59 = .ok (.iload_n 1, 1) := by decide +kernel
theorem d26_60 : decode jdk_49_method_3_code 60 = .ok (.dup_x1, 1) := by decide +kernel
theorem d26_61 : decode jdk_49_method_3_code 61 = .ok (.putfield 13, 3) := by decide +kernel
theorem d26_64 : decode jdk_49_method_3_code 64 = .ok (.aaload, 1) := by decide +kernel
theorem d26_65 : decode jdk_49_method_3_code 65 = .ok (.areturn, 1) := by decide +kernel
set_option maxRecDepth 65536 in
set_option maxHeartbeats 40000000 in
theorem rm26 (l : Launch) (Z : State) (a0 : Array Value) (hw : ∀ d ∈ tables_1, d.before a0 Z = true) (o0 : Addr) (al : Addr) (ed : Addr) (ix : Addr) (ked : ClassId) (mc : Int32) (x2 : Value) (h0 : Heap) (n0 : Nat) (Z0 : n0 ≤ h0.size) (E_o0 : Exa Z h0 o0 "java/util/ArrayList$Itr") (F_o0_this_0 : Fld Z h0 o0 "java/util/ArrayList$Itr" "this$0" "Ljava/util/ArrayList;" (.ref al)) (F_o0_cursor : Fld Z h0 o0 "java/util/ArrayList$Itr" "cursor" "I" (.int (0 : Int32))) (F_o0_lastRet : Fld Z h0 o0 "java/util/ArrayList$Itr" "lastRet" "I" x2) (F_o0_expectedModCount : Fld Z h0 o0 "java/util/ArrayList$Itr" "expectedModCount" "I" (.int mc)) (g_o0 : n0 ≤ o0) (E_al : Exa Z h0 al "java/util/ArrayList") (F_al_modCount : Fld Z h0 al "java/util/AbstractList" "modCount" "I" (.int mc)) (F_al_elementData : Fld Z h0 al "java/util/ArrayList" "elementData" "[Ljava/lang/Object;" (.ref ed)) (F_al_size : Fld Z h0 al "java/util/ArrayList" "size" "I" (.int (1 : Int32))) (V_ed : Arv Z h0 ed ked (.object "java/lang/Object") (10 : Int32) [(.ref ix), .null, .null, .null, .null, .null, .null, .null, .null, .null] .null) :
    Ctr l Z (⟨"java/util/ArrayList$Itr", "next", "()Ljava/lang/Object;"⟩ : MethodName) jdk_49_method_3_code 3 (some (.object "java/lang/Object")) ({ frames := 1, cells := 0, slots := 0, locals := 12 } : Room) #[(.ref o0)] h0 n0 (fun v h' => v = some (.ref ix) ∧ Keep h0 h' [o0] ∧ Exa Z h' o0 "java/util/ArrayList$Itr" ∧ Fld Z h' o0 "java/util/ArrayList$Itr" "this$0" "Ljava/util/ArrayList;" (.ref al) ∧ Fld Z h' o0 "java/util/ArrayList$Itr" "cursor" "I" (.int (1 : Int32)) ∧ Fld Z h' o0 "java/util/ArrayList$Itr" "lastRet" "I" (.int (0 : Int32)) ∧ Fld Z h' o0 "java/util/ArrayList$Itr" "expectedModCount" "I" (.int mc)) := by
  refine Ctr.body (L := #[.val (.ref o0), .unset, .unset]) (plainFor_of_name pn26) Z0 (fun m => ef26 m o0) ?_
  intro p e F m below meth c T0 C0
  have KP : Keep h0 h0 [o0] := Keep.refl h0 _
  refine C0.aloadN d26_0 rfl rfl rfl ?_
  refine C0.callV (hw _ (List.mem_of_getElem? (i := 211) rfl)) (hw _ (List.mem_of_getElem? (i := 212) rfl)) (hw _ (List.mem_of_getElem? (i := 214) rfl)) (hw _ (List.mem_of_getElem? (i := 213) rfl)) (hw _ (List.mem_of_getElem? (i := 178) rfl)) (hw _ (List.mem_of_getElem? (i := 215) rfl)) E_o0 (by decide) (a := o0) (rm27 l Z a0 hw o0 al mc h0 n0 C0.size F_o0_this_0 F_al_modCount F_o0_expectedModCount) (argsL := []) pd27 rfl 0 (by decide) (by decide) (by decide) (by decide) (rest := []) rfl rfl (Nat.le_of_eq rfl) d26_1 rfl (fun v1 T1 h1 C1 qq1 => ?_)
  obtain ⟨rfl, hh1⟩ := qq1
  have hh1 := hh1.symm; subst hh1
  show Go p e below F n0 (fun v h' => v = some (.ref ix) ∧ Keep h0 h' [o0] ∧ Exa Z h' o0 "java/util/ArrayList$Itr" ∧ Fld Z h' o0 "java/util/ArrayList$Itr" "this$0" "Ljava/util/ArrayList;" (.ref al) ∧ Fld Z h' o0 "java/util/ArrayList$Itr" "cursor" "I" (.int (1 : Int32)) ∧ Fld Z h' o0 "java/util/ArrayList$Itr" "lastRet" "I" (.int (0 : Int32)) ∧ Fld Z h' o0 "java/util/ArrayList$Itr" "expectedModCount" "I" (.int mc)) T1 (mkF m 4 #[.val (.ref o0), .unset, .unset] [])
  refine C1.aloadN d26_4 rfl rfl rfl ?_
  refine C1.getF (host := "") (Or.inl (hw _ (List.mem_of_getElem? (i := 200) rfl))) Via.refl F_o0_cursor d26_5 rfl (fun T2 C2 => ?_)
  refine C2.istoreN d26_8 rfl (L' := #[.val (.ref o0), .val (.int (0 : Int32)), .unset]) rfl ?_
  refine C2.iloadN d26_9 rfl rfl ?_
  refine C2.aloadN d26_10 rfl rfl rfl ?_
  refine C2.getF (host := "") (Or.inl (hw _ (List.mem_of_getElem? (i := 183) rfl))) Via.refl F_o0_this_0 d26_11 rfl (fun T3 C3 => ?_)
  refine C3.getF (Or.inr (hw _ (List.mem_of_getElem? (i := 202) rfl))) Via.refl F_al_size d26_14 rfl (fun T4 C4 => ?_)
  refine C4.icmp_lt d26_17 (by decide) (by decide : _ = 28) rfl (fun _ => ?_) (fun q => absurd (by decide) q)
  refine C4.aloadN d26_28 rfl rfl rfl ?_
  refine C4.getF (host := "") (Or.inl (hw _ (List.mem_of_getElem? (i := 183) rfl))) Via.refl F_o0_this_0 d26_29 rfl (fun T5 C5 => ?_)
  refine C5.getF (host := "") (Or.inl (hw _ (List.mem_of_getElem? (i := 216) rfl))) Via.refl F_al_elementData d26_32 rfl (fun T6 C6 => ?_)
  refine C6.astoreN d26_35 rfl rfl (L' := #[.val (.ref o0), .val (.int (0 : Int32)), .val (.ref ed)]) rfl ?_
  refine C6.iloadN d26_36 rfl rfl ?_
  refine C6.aloadN d26_37 rfl rfl rfl ?_
  refine C6.arrlen V_ed d26_38 rfl ?_
  refine C6.icmp_lt d26_39 (by decide) (by decide : _ = 50) rfl (fun _ => ?_) (fun q => absurd (by decide) q)
  refine C6.aloadN d26_50 rfl rfl rfl ?_
  refine C6.iloadN d26_51 rfl rfl ?_
  refine C6.iconst (1 : Int32) d26_52 rfl rfl ?_
  refine C6.iadd d26_53 rfl ?_
  rw [show ((0 : Int32) + (1 : Int32)) = (1 : Int32) from by decide]
  refine C6.putF (host := "") (Or.inl (hw _ (List.mem_of_getElem? (i := 200) rfl))) Via.refl F_o0_cursor E_o0 (Or.inl (hw _ (List.mem_of_getElem? (i := 201) rfl))) (hw _ (List.mem_of_getElem? (i := 177) rfl)) (ty := .int) (by decide) rfl rfl g_o0 d26_54 rfl (fun T7 h7 C7 W7 => ?_)
  have ne_al_o0 : al ≠ o0 := (ne_exa E_al E_o0 (by decide))
  have ne_ed_o0 : ed ≠ o0 := (Ne.symm (own_nea E_o0 (hw _ (List.mem_of_getElem? (i := 177) rfl)) V_ed))
  have E_o0 := E_o0.wr W7
  have F_o0_this_0 := F_o0_this_0.other W7 (Or.inr (slot_ne (Or.inr (hw _ (List.mem_of_getElem? (i := 184) rfl))) (Or.inl (hw _ (List.mem_of_getElem? (i := 201) rfl))) (by decide) (t := (.object "java/util/ArrayList")) (t' := .int) (by decide) (by decide)))
  have F_o0_lastRet := F_o0_lastRet.other W7 (Or.inr (slot_ne (Or.inl (hw _ (List.mem_of_getElem? (i := 187) rfl))) (Or.inl (hw _ (List.mem_of_getElem? (i := 201) rfl))) (by decide) (t := .int) (t' := .int) (by decide) (by decide)))
  have F_o0_expectedModCount := F_o0_expectedModCount.other W7 (Or.inr (slot_ne (Or.inl (hw _ (List.mem_of_getElem? (i := 190) rfl))) (Or.inl (hw _ (List.mem_of_getElem? (i := 201) rfl))) (by decide) (t := .int) (t' := .int) (by decide) (by decide)))
  have E_al := E_al.wr W7
  have F_al_modCount := F_al_modCount.other W7 (Or.inl ne_al_o0)
  have F_al_elementData := F_al_elementData.other W7 (Or.inl ne_al_o0)
  have F_al_size := F_al_size.other W7 (Or.inl ne_al_o0)
  have V_ed := V_ed.other W7 ne_ed_o0
  have KP := KP.wr W7 (Or.inl (by simp))
  have F_o0_cursor := F_o0_cursor.same W7
  refine C7.aloadN d26_57 rfl rfl rfl ?_
  refine C7.aloadN d26_58 rfl rfl rfl ?_
  refine C7.iloadN d26_59 rfl rfl ?_
  refine C7.dupX1 d26_60 rfl rfl rfl ?_
  refine C7.putF (host := "") (Or.inl (hw _ (List.mem_of_getElem? (i := 186) rfl))) Via.refl F_o0_lastRet E_o0 (Or.inl (hw _ (List.mem_of_getElem? (i := 187) rfl))) (hw _ (List.mem_of_getElem? (i := 177) rfl)) (ty := .int) (by decide) rfl rfl g_o0 d26_61 rfl (fun T8 h8 C8 W8 => ?_)
  have E_o0 := E_o0.wr W8
  have F_o0_this_0 := F_o0_this_0.other W8 (Or.inr (slot_ne (Or.inr (hw _ (List.mem_of_getElem? (i := 184) rfl))) (Or.inl (hw _ (List.mem_of_getElem? (i := 187) rfl))) (by decide) (t := (.object "java/util/ArrayList")) (t' := .int) (by decide) (by decide)))
  have F_o0_cursor := F_o0_cursor.other W8 (Or.inr (slot_ne (Or.inl (hw _ (List.mem_of_getElem? (i := 201) rfl))) (Or.inl (hw _ (List.mem_of_getElem? (i := 187) rfl))) (by decide) (t := .int) (t' := .int) (by decide) (by decide)))
  have F_o0_expectedModCount := F_o0_expectedModCount.other W8 (Or.inr (slot_ne (Or.inl (hw _ (List.mem_of_getElem? (i := 190) rfl))) (Or.inl (hw _ (List.mem_of_getElem? (i := 187) rfl))) (by decide) (t := .int) (t' := .int) (by decide) (by decide)))
  have E_al := E_al.wr W8
  have F_al_modCount := F_al_modCount.other W8 (Or.inl ne_al_o0)
  have F_al_elementData := F_al_elementData.other W8 (Or.inl ne_al_o0)
  have F_al_size := F_al_size.other W8 (Or.inl ne_al_o0)
  have V_ed := V_ed.other W8 ne_ed_o0
  have KP := KP.wr W8 (Or.inl (by simp))
  have F_o0_lastRet := F_o0_lastRet.same W8
  refine C8.aaload (v := (.ref ix)) V_ed ⟨by decide, by decide⟩ rfl d26_64 rfl ?_
  exact C8.retA d26_65 rfl rfl rfl (by decide) (by decide) ⟨rfl, KP, E_o0, F_o0_this_0, F_o0_cursor, F_o0_lastRet, F_o0_expectedModCount⟩
theorem pn8 : plainName "java/util/Objects" = true := by first | (simp [plainName, overriddenIn]; done) | decide +kernel
theorem pd8 : parseMethodDescriptor "(Ljava/lang/Object;)Ljava/lang/Object;" = some ⟨[(.object "java/lang/Object")], some (.object "java/lang/Object")⟩ := by decide +kernel
theorem ef8 (m : MethodId) (o0 : Addr) : entryFrame m #[(.ref o0)] 1 = mkF m 0 #[.val (.ref o0)] [] := by first | (simp [entryFrame, mkF, argsToLocals, Value.category]; done) | rfl
theorem d8_0 : decode jdk_31_method_10_code 0 = .ok (.aload_n 0, 1) := by decide +kernel
theorem d8_1 : decode jdk_31_method_10_code 1 = .ok (.ifnonnull 11, 3) := by decide +kernel
theorem d8_12 : decode jdk_31_method_10_code 12 = .ok (.aload_n 0, 1) := by decide +kernel
theorem d8_13 : decode jdk_31_method_10_code 13 = .ok (.areturn, 1) := by decide +kernel
set_option maxRecDepth 65536 in
set_option maxHeartbeats 40000000 in
theorem rm8 (l : Launch) (Z : State) (a0 : Array Value) (hw : ∀ d ∈ tables_1, d.before a0 Z = true) (o0 : Addr) (h0 : Heap) (n0 : Nat) (Z0 : n0 ≤ h0.size) :
    Ctr l Z (⟨"java/util/Objects", "requireNonNull", "(Ljava/lang/Object;)Ljava/lang/Object;"⟩ : MethodName) jdk_31_method_10_code 1 (some (.object "java/lang/Object")) ({ frames := 0, cells := 0, slots := 0, locals := 0 } : Room) #[(.ref o0)] h0 n0 (fun v h' => v = some (.ref o0) ∧ h' = h0) := by
  refine Ctr.body (L := #[.val (.ref o0)]) (plainFor_of_name pn8) Z0 (fun m => ef8 m o0) ?_
  intro p e F m below meth c T0 C0
  refine C0.aloadN d8_0 rfl rfl rfl ?_
  refine C0.ifnonnullYes d8_1 (by decide) (by decide : _ = 12) ?_
  refine C0.aloadN d8_12 rfl rfl rfl ?_
  exact C0.retA d8_13 rfl rfl rfl (by decide) (by decide) ⟨rfl, rfl⟩
theorem pn7 : plainName "java/util/Arrays" = true := by first | (simp [plainName, overriddenIn]; done) | decide +kernel
theorem pd7 : parseMethodDescriptor "([ILjava/util/function/IntUnaryOperator;)V" = some ⟨[(.array .int), (.object "java/util/function/IntUnaryOperator")], none⟩ := by decide +kernel
theorem ef7 (m : MethodId) (o0 : Addr) (o1 : Addr) : entryFrame m #[(.ref o0), (.ref o1)] 3 = mkF m 0 #[.val (.ref o0), .val (.ref o1), .unset] [] := by first | (simp [entryFrame, mkF, argsToLocals, Value.category]; done) | rfl
theorem d7_0 : decode jdk_65_method_175_code 0 = .ok (.aload_n 1, 1) := by decide +kernel
theorem d7_1 : decode jdk_65_method_175_code 1 = .ok (.invokestatic 175, 3) := by decide +kernel
theorem d7_4 : decode jdk_65_method_175_code 4 = .ok (.pop, 1) := by decide +kernel
theorem d7_5 : decode jdk_65_method_175_code 5 = .ok (.iconst 0, 1) := by decide +kernel
theorem d7_6 : decode jdk_65_method_175_code 6 = .ok (.istore_n 2, 1) := by decide +kernel
theorem d7_7 : decode jdk_65_method_175_code 7 = .ok (.iload_n 2, 1) := by decide +kernel
theorem d7_8 : decode jdk_65_method_175_code 8 = .ok (.aload_n 0, 1) := by decide +kernel
theorem d7_9 : decode jdk_65_method_175_code 9 = .ok (.arraylength, 1) := by decide +kernel
theorem d7_10 : decode jdk_65_method_175_code 10 = .ok (.if_icmp .ge 19, 3) := by decide +kernel
theorem d7_13 : decode jdk_65_method_175_code 13 = .ok (.aload_n 0, 1) := by decide +kernel
theorem d7_14 : decode jdk_65_method_175_code 14 = .ok (.iload_n 2, 1) := by decide +kernel
theorem d7_15 : decode jdk_65_method_175_code 15 = .ok (.aload_n 1, 1) := by decide +kernel
theorem d7_16 : decode jdk_65_method_175_code 16 = .ok (.iload_n 2, 1) := by decide +kernel
theorem d7_17 : decode jdk_65_method_175_code 17 = .ok (.invokeinterface 582 2, 5) := by decide +kernel
theorem d7_22 : decode jdk_65_method_175_code 22 = .ok (.iastore, 1) := by decide +kernel
theorem d7_23 : decode jdk_65_method_175_code 23 = .ok (.iinc 2 1, 3) := by decide +kernel
theorem d7_26 : decode jdk_65_method_175_code 26 = .ok (.goto (-19), 3) := by decide +kernel
theorem d7_29 : decode jdk_65_method_175_code 29 = .ok (.return_, 1) := by decide +kernel
set_option maxRecDepth 65536 in
set_option maxHeartbeats 40000000 in
theorem rm7 (l : Launch) (Z : State) (a0 : Array Value) (hw : ∀ d ∈ tables_1, d.before a0 Z = true) (o0 : Addr) (o1 : Addr) (ko0 : ClassId) (h0 : Heap) (n0 : Nat) (Z0 : n0 ≤ h0.size) (V_o0 : Arv Z h0 o0 ko0 .int (1 : Int32) [(.int (0 : Int32))] (.int (0 : Int32))) (g_o0 : n0 ≤ o0) (L_o1 : Lam.LamS Z h0 o1) (hlm : o1 < n0) :
    Ctr l Z (⟨"java/util/Arrays", "setAll", "([ILjava/util/function/IntUnaryOperator;)V"⟩ : MethodName) jdk_65_method_175_code 3 none ({ frames := 2, cells := 0, slots := 0, locals := 42 } : Room) #[(.ref o0), (.ref o1)] h0 n0 (fun v h' => v = none ∧ Keep h0 h' [o0] ∧ Arv Z h' o0 ko0 .int (1 : Int32) [(.int (0 : Int32))] (.int (0 : Int32))) := by
  refine Ctr.body (L := #[.val (.ref o0), .val (.ref o1), .unset]) (plainFor_of_name pn7) Z0 (fun m => ef7 m o0 o1) ?_
  intro p e F m below meth c T0 C0
  have KP : Keep h0 h0 [o0] := Keep.refl h0 _
  refine C0.aloadN d7_0 rfl rfl rfl ?_
  refine C0.callS (hw _ (List.mem_of_getElem? (i := 51) rfl)) (hw _ (List.mem_of_getElem? (i := 52) rfl)) (hw _ (List.mem_of_getElem? (i := 53) rfl)) (hw _ (List.mem_of_getElem? (i := 54) rfl)) (by decide) (rm8 l Z a0 hw o1 h0 n0 C0.size ) (argsL := [(.ref o1)]) pd8 rfl 0 (by decide) (by decide) (by decide) (by decide) (rest := []) rfl rfl (Nat.le_of_eq rfl) d7_1 rfl (fun v1 T1 h1 C1 qq1 => ?_)
  obtain ⟨rfl, hh1⟩ := qq1
  have hh1 := hh1.symm; subst hh1
  show Go p e below F n0 (fun v h' => v = none ∧ Keep h0 h' [o0] ∧ Arv Z h' o0 ko0 .int (1 : Int32) [(.int (0 : Int32))] (.int (0 : Int32))) T1 (mkF m 4 #[.val (.ref o0), .val (.ref o1), .unset] [(.ref o1)])
  refine C1.pop d7_4 rfl rfl ?_
  refine C1.iconst (0 : Int32) d7_5 rfl rfl ?_
  refine C1.istoreN d7_6 rfl (L' := #[.val (.ref o0), .val (.ref o1), .val (.int (0 : Int32))]) rfl ?_
  refine C1.iloadN d7_7 rfl rfl ?_
  refine C1.aloadN d7_8 rfl rfl rfl ?_
  refine C1.arrlen V_o0 d7_9 rfl ?_
  refine C1.icmp_ge d7_10 (by decide) (by decide : _ = 29) rfl (fun q => absurd (by decide) q) (fun _ => ?_)
  refine C1.aloadN d7_13 rfl rfl rfl ?_
  refine C1.iloadN d7_14 rfl rfl ?_
  refine C1.aloadN d7_15 rfl rfl rfl ?_
  refine C1.iloadN d7_16 rfl rfl ?_
  refine C1.applyLam d9_0 d9_1 (hw _ (List.mem_of_getElem? (i := 55) rfl)) (hw _ (List.mem_of_getElem? (i := 56) rfl)) (hw _ (List.mem_of_getElem? (i := 57) rfl)) (hw _ (List.mem_of_getElem? (i := 58) rfl)) (hw _ (List.mem_of_getElem? (i := 59) rfl)) (hw _ (List.mem_of_getElem? (i := 2) rfl)) L_o1 rfl 2 (Nat.le_of_eq rfl) (by decide) (by decide) (by decide) (by decide) d7_17 rfl (fun T2 C2 => ?_)
  refine C2.iastore V_o0 ⟨by decide, by decide⟩ (Nat.le_of_ble_eq_true rfl) g_o0 d7_22 rfl (fun T3 h3 C3 W3 Vn3 => ?_)
  have ne_o1_o0 : o1 ≠ o0 := (Nat.ne_of_lt (Nat.lt_of_lt_of_le hlm g_o0))
  have L_o1 := L_o1.other W3 ne_o1_o0
  have KP := KP.wr W3 (Or.inl (by simp))
  have V_o0 : Arv Z h3 o0 ko0 .int (1 : Int32) [(.int (0 : Int32))] (.int (0 : Int32)) := Vn3
  refine C3.iinc (1 : Int32) d7_23 rfl rfl rfl (L' := #[.val (.ref o0), .val (.ref o1), .val (.int ((0 : Int32) + (1 : Int32)))]) rfl ?_
  refine C3.goto d7_26 (by decide) (by decide : _ = 7) ?_
  refine C3.iloadN d7_7 rfl rfl ?_
  refine C3.aloadN d7_8 rfl rfl rfl ?_
  refine C3.arrlen V_o0 d7_9 rfl ?_
  refine C3.icmp_ge d7_10 (by decide) (by decide : _ = 29) rfl (fun _ => ?_) (fun q => absurd q (by decide))
  exact C3.retV d7_29 rfl (by decide) (by decide) ⟨rfl, KP, V_o0⟩
theorem pn11 : plainName "com/example/nestor/nestor/engine/Relation" = true := by first | (simp [plainName, overriddenIn]; done) | decide +kernel
theorem pd11 : parseMethodDescriptor "()I" = some ⟨[], some .int⟩ := by decide +kernel
theorem ef11 (m : MethodId) (o0 : Addr) : entryFrame m #[(.ref o0)] 1 = mkF m 0 #[.val (.ref o0)] [] := by first | (simp [entryFrame, mkF, argsToLocals, Value.category]; done) | rfl
theorem d11_0 : decode prog_26_method_4_code 0 = .ok (.aload_n 0, 1) := by decide +kernel
theorem d11_1 : decode prog_26_method_4_code 1 = .ok (.getfield 38, 3) := by decide +kernel
theorem d11_4 : decode prog_26_method_4_code 4 = .ok (.ireturn, 1) := by decide +kernel
set_option maxRecDepth 65536 in
set_option maxHeartbeats 40000000 in
theorem rm11 (l : Launch) (Z : State) (a0 : Array Value) (hw : ∀ d ∈ tables_1, d.before a0 Z = true) (o0 : Addr) (y0 : Int32) (h0 : Heap) (n0 : Nat) (Z0 : n0 ≤ h0.size) (F_o0_size : Fld Z h0 o0 "com/example/nestor/nestor/engine/Relation" "size" "I" (.int y0)) :
    Ctr l Z (⟨"com/example/nestor/nestor/engine/Relation", "size", "()I"⟩ : MethodName) prog_26_method_4_code 1 (some .int) ({ frames := 0, cells := 0, slots := 0, locals := 0 } : Room) #[(.ref o0)] h0 n0 (fun v h' => v = some (.int y0) ∧ h' = h0) := by
  refine Ctr.body (L := #[.val (.ref o0)]) (plainFor_of_name pn11) Z0 (fun m => ef11 m o0) ?_
  intro p e F m below meth c T0 C0
  refine C0.aloadN d11_0 rfl rfl rfl ?_
  refine C0.getF (host := "") (Or.inl (hw _ (List.mem_of_getElem? (i := 95) rfl))) Via.refl F_o0_size d11_1 rfl (fun T1 C1 => ?_)
  exact C1.retI d11_4 rfl (by decide) (by decide) ⟨rfl, rfl⟩
theorem pn32 : plainName "com/example/nestor/nestor/engine/Relation" = true := by first | (simp [plainName, overriddenIn]; done) | decide +kernel
theorem pd32 : parseMethodDescriptor "()I" = some ⟨[], some .int⟩ := by decide +kernel
theorem ef32 (m : MethodId) (o0 : Addr) : entryFrame m #[(.ref o0)] 1 = mkF m 0 #[.val (.ref o0)] [] := by first | (simp [entryFrame, mkF, argsToLocals, Value.category]; done) | rfl
theorem d32_0 : decode prog_26_method_14_code 0 = .ok (.aload_n 0, 1) := by decide +kernel
theorem d32_1 : decode prog_26_method_14_code 1 = .ok (.getfield 92, 3) := by decide +kernel
theorem d32_4 : decode prog_26_method_14_code 4 = .ok (.ireturn, 1) := by decide +kernel
set_option maxRecDepth 65536 in
set_option maxHeartbeats 40000000 in
theorem rm32 (l : Launch) (Z : State) (a0 : Array Value) (hw : ∀ d ∈ tables_1, d.before a0 Z = true) (o0 : Addr) (y0 : Int32) (h0 : Heap) (n0 : Nat) (Z0 : n0 ≤ h0.size) (F_o0_deltaStart : Fld Z h0 o0 "com/example/nestor/nestor/engine/Relation" "deltaStart" "I" (.int y0)) :
    Ctr l Z (⟨"com/example/nestor/nestor/engine/Relation", "deltaStart", "()I"⟩ : MethodName) prog_26_method_14_code 1 (some .int) ({ frames := 0, cells := 0, slots := 0, locals := 0 } : Room) #[(.ref o0)] h0 n0 (fun v h' => v = some (.int y0) ∧ h' = h0) := by
  refine Ctr.body (L := #[.val (.ref o0)]) (plainFor_of_name pn32) Z0 (fun m => ef32 m o0) ?_
  intro p e F m below meth c T0 C0
  refine C0.aloadN d32_0 rfl rfl rfl ?_
  refine C0.getF (host := "") (Or.inl (hw _ (List.mem_of_getElem? (i := 242) rfl))) Via.refl F_o0_deltaStart d32_1 rfl (fun T1 C1 => ?_)
  exact C1.retI d32_4 rfl (by decide) (by decide) ⟨rfl, rfl⟩
theorem pn33 : plainName "com/example/nestor/nestor/engine/Relation" = true := by first | (simp [plainName, overriddenIn]; done) | decide +kernel
theorem pd33 : parseMethodDescriptor "()I" = some ⟨[], some .int⟩ := by decide +kernel
theorem ef33 (m : MethodId) (o0 : Addr) : entryFrame m #[(.ref o0)] 1 = mkF m 0 #[.val (.ref o0)] [] := by first | (simp [entryFrame, mkF, argsToLocals, Value.category]; done) | rfl
theorem d33_0 : decode prog_26_method_15_code 0 = .ok (.aload_n 0, 1) := by decide +kernel
theorem d33_1 : decode prog_26_method_15_code 1 = .ok (.getfield 95, 3) := by decide +kernel
theorem d33_4 : decode prog_26_method_15_code 4 = .ok (.ireturn, 1) := by decide +kernel
set_option maxRecDepth 65536 in
set_option maxHeartbeats 40000000 in
theorem rm33 (l : Launch) (Z : State) (a0 : Array Value) (hw : ∀ d ∈ tables_1, d.before a0 Z = true) (o0 : Addr) (y0 : Int32) (h0 : Heap) (n0 : Nat) (Z0 : n0 ≤ h0.size) (F_o0_deltaEnd : Fld Z h0 o0 "com/example/nestor/nestor/engine/Relation" "deltaEnd" "I" (.int y0)) :
    Ctr l Z (⟨"com/example/nestor/nestor/engine/Relation", "deltaEnd", "()I"⟩ : MethodName) prog_26_method_15_code 1 (some .int) ({ frames := 0, cells := 0, slots := 0, locals := 0 } : Room) #[(.ref o0)] h0 n0 (fun v h' => v = some (.int y0) ∧ h' = h0) := by
  refine Ctr.body (L := #[.val (.ref o0)]) (plainFor_of_name pn33) Z0 (fun m => ef33 m o0) ?_
  intro p e F m below meth c T0 C0
  refine C0.aloadN d33_0 rfl rfl rfl ?_
  refine C0.getF (host := "") (Or.inl (hw _ (List.mem_of_getElem? (i := 240) rfl))) Via.refl F_o0_deltaEnd d33_1 rfl (fun T1 C1 => ?_)
  exact C1.retI d33_4 rfl (by decide) (by decide) ⟨rfl, rfl⟩
theorem pn10 : plainName "com/example/nestor/nestor/engine/Index" = true := by first | (simp [plainName, overriddenIn]; done) | decide +kernel
theorem pd10 : parseMethodDescriptor "(Lcom/example/nestor/nestor/engine/Relation;[I)V" = some ⟨[(.object "com/example/nestor/nestor/engine/Relation"), (.array .int)], none⟩ := by decide +kernel
theorem ef10 (m : MethodId) (o0 : Addr) (o1 : Addr) (o2 : Addr) : entryFrame m #[(.ref o0), (.ref o1), (.ref o2)] 4 = mkF m 0 #[.val (.ref o0), .val (.ref o1), .val (.ref o2), .unset] [] := by first | (simp [entryFrame, mkF, argsToLocals, Value.category]; done) | rfl
theorem d10_0 : decode prog_21_method_1_code 0 = .ok (.aload_n 0, 1) := by decide +kernel
theorem d10_1 : decode prog_21_method_1_code 1 = .ok (.invokespecial 1, 3) := by decide +kernel
theorem d10_4 : decode prog_21_method_1_code 4 = .ok (.aload_n 0, 1) := by decide +kernel
theorem d10_5 : decode prog_21_method_1_code 5 = .ok (.bipush 16, 2) := by decide +kernel
theorem d10_7 : decode prog_21_method_1_code 7 = .ok (.newarray .int, 2) := by decide +kernel
theorem d10_9 : decode prog_21_method_1_code 9 = .ok (.putfield 7, 3) := by decide +kernel
theorem d10_12 : decode prog_21_method_1_code 12 = .ok (.aload_n 0, 1) := by decide +kernel
theorem d10_13 : decode prog_21_method_1_code 13 = .ok (.bipush 8, 2) := by decide +kernel
theorem d10_15 : decode prog_21_method_1_code 15 = .ok (.newarray .int, 2) := by decide +kernel
theorem d10_17 : decode prog_21_method_1_code 17 = .ok (.putfield 13, 3) := by decide +kernel
theorem d10_20 : decode prog_21_method_1_code 20 = .ok (.aload_n 0, 1) := by decide +kernel
theorem d10_21 : decode prog_21_method_1_code 21 = .ok (.bipush 8, 2) := by decide +kernel
theorem d10_23 : decode prog_21_method_1_code 23 = .ok (.newarray .int, 2) := by decide +kernel
theorem d10_25 : decode prog_21_method_1_code 25 = .ok (.putfield 16, 3) := by decide +kernel
theorem d10_28 : decode prog_21_method_1_code 28 = .ok (.aload_n 0, 1) := by decide +kernel
theorem d10_29 : decode prog_21_method_1_code 29 = .ok (.bipush 16, 2) := by decide +kernel
theorem d10_31 : decode prog_21_method_1_code 31 = .ok (.newarray .int, 2) := by decide +kernel
theorem d10_33 : decode prog_21_method_1_code 33 = .ok (.putfield 19, 3) := by decide +kernel
theorem d10_36 : decode prog_21_method_1_code 36 = .ok (.aload_n 0, 1) := by decide +kernel
theorem d10_37 : decode prog_21_method_1_code 37 = .ok (.aload_n 1, 1) := by decide +kernel
theorem d10_38 : decode prog_21_method_1_code 38 = .ok (.putfield 22, 3) := by decide +kernel
theorem d10_41 : decode prog_21_method_1_code 41 = .ok (.aload_n 0, 1) := by decide +kernel
theorem d10_42 : decode prog_21_method_1_code 42 = .ok (.aload_n 2, 1) := by decide +kernel
theorem d10_43 : decode prog_21_method_1_code 43 = .ok (.invokevirtual 26, 3) := by decide +kernel
theorem d10_46 : decode prog_21_method_1_code 46 = .ok (.checkcast 27, 3) := by decide +kernel
theorem d10_49 : decode prog_21_method_1_code 49 = .ok (.putfield 31, 3) := by decide +kernel
theorem d10_52 : decode prog_21_method_1_code 52 = .ok (.aload_n 0, 1) := by decide +kernel
theorem d10_53 : decode prog_21_method_1_code 53 = .ok (.aload_n 2, 1) := by decide +kernel
theorem d10_54 : decode prog_21_method_1_code 54 = .ok (.arraylength, 1) := by decide +kernel
theorem d10_55 : decode prog_21_method_1_code 55 = .ok (.newarray .int, 2) := by decide +kernel
theorem d10_57 : decode prog_21_method_1_code 57 = .ok (.putfield 34, 3) := by decide +kernel
theorem d10_60 : decode prog_21_method_1_code 60 = .ok (.iconst 0, 1) := by decide +kernel
theorem d10_61 : decode prog_21_method_1_code 61 = .ok (.istore_n 3, 1) := by decide +kernel
theorem d10_62 : decode prog_21_method_1_code 62 = .ok (.iload_n 3, 1) := by decide +kernel
theorem d10_63 : decode prog_21_method_1_code 63 = .ok (.aload_n 1, 1) := by decide +kernel
theorem d10_64 : decode prog_21_method_1_code 64 = .ok (.invokevirtual 37, 3) := by decide +kernel
theorem d10_67 : decode prog_21_method_1_code 67 = .ok (.if_icmp .ge 14, 3) := by decide +kernel
theorem d10_81 : decode prog_21_method_1_code 81 = .ok (.return_, 1) := by decide +kernel
set_option maxRecDepth 65536 in
set_option maxHeartbeats 40000000 in
theorem rm10 (l : Launch) (Z : State) (a0 : Array Value) (hw : ∀ d ∈ tables_1, d.before a0 Z = true) (o0 : Addr) (o1 : Addr) (o2 : Addr) (x0 : Value) (x1 : Value) (x2 : Value) (x3 : Value) (x4 : Value) (x5 : Value) (x6 : Value) (ko2 : ClassId) (h0 : Heap) (n0 : Nat) (Z0 : n0 ≤ h0.size) (E_o0 : Exa Z h0 o0 "com/example/nestor/nestor/engine/Index") (F_o0_slots : Fld Z h0 o0 "com/example/nestor/nestor/engine/Index" "slots" "[I" x0) (F_o0_firsts : Fld Z h0 o0 "com/example/nestor/nestor/engine/Index" "firsts" "[I" x1) (F_o0_lasts : Fld Z h0 o0 "com/example/nestor/nestor/engine/Index" "lasts" "[I" x2) (F_o0_nexts : Fld Z h0 o0 "com/example/nestor/nestor/engine/Index" "nexts" "[I" x3) (F_o0_relation : Fld Z h0 o0 "com/example/nestor/nestor/engine/Index" "relation" "Lcom/example/nestor/nestor/engine/Relation;" x4) (F_o0_columns : Fld Z h0 o0 "com/example/nestor/nestor/engine/Index" "columns" "[I" x5) (F_o0_scratch : Fld Z h0 o0 "com/example/nestor/nestor/engine/Index" "scratch" "[I" x6) (F_o0_groups : Fld Z h0 o0 "com/example/nestor/nestor/engine/Index" "groups" "I" (.int (0 : Int32))) (g_o0 : n0 ≤ o0) (E_o1 : Exa Z h0 o1 "com/example/nestor/nestor/engine/Relation") (F_o1_size : Fld Z h0 o1 "com/example/nestor/nestor/engine/Relation" "size" "I" (.int (0 : Int32))) (V_o2 : Arv Z h0 o2 ko2 .int (1 : Int32) [(.int (0 : Int32))] (.int (0 : Int32))) (E_o2 : Exa Z h0 o2 "[I") :
    Ctr l Z (⟨"com/example/nestor/nestor/engine/Index", "<init>", "(Lcom/example/nestor/nestor/engine/Relation;[I)V"⟩ : MethodName) prog_21_method_1_code 4 none ({ frames := 1, cells := 6, slots := 50, locals := 15 } : Room) #[(.ref o0), (.ref o1), (.ref o2)] h0 n0 (fun v h' => ∃ sl : Addr, ∃ fi : Addr, ∃ la : Addr, ∃ nx : Addr, ∃ co : Addr, ∃ sc : Addr, ∃ ksl : ClassId, ∃ kfi : ClassId, ∃ kla : ClassId, ∃ knx : ClassId, ∃ kco : ClassId, ∃ ksc : ClassId, v = none ∧ Keep h0 h' [o0] ∧ Exa Z h' o0 "com/example/nestor/nestor/engine/Index" ∧ Fld Z h' o0 "com/example/nestor/nestor/engine/Index" "slots" "[I" (.ref sl) ∧ Fld Z h' o0 "com/example/nestor/nestor/engine/Index" "firsts" "[I" (.ref fi) ∧ Fld Z h' o0 "com/example/nestor/nestor/engine/Index" "lasts" "[I" (.ref la) ∧ Fld Z h' o0 "com/example/nestor/nestor/engine/Index" "nexts" "[I" (.ref nx) ∧ Fld Z h' o0 "com/example/nestor/nestor/engine/Index" "relation" "Lcom/example/nestor/nestor/engine/Relation;" (.ref o1) ∧ Fld Z h' o0 "com/example/nestor/nestor/engine/Index" "columns" "[I" (.ref co) ∧ Fld Z h' o0 "com/example/nestor/nestor/engine/Index" "scratch" "[I" (.ref sc) ∧ Fld Z h' o0 "com/example/nestor/nestor/engine/Index" "groups" "I" (.int (0 : Int32)) ∧ Arv Z h' sl ksl .int (16 : Int32) (own_z16.map Value.int) (.int (0 : Int32)) ∧ Arv Z h' fi kfi .int (8 : Int32) (own_z8.map Value.int) (.int (0 : Int32)) ∧ Arv Z h' la kla .int (8 : Int32) (own_z8.map Value.int) (.int (0 : Int32)) ∧ Arv Z h' nx knx .int (16 : Int32) (own_z16.map Value.int) (.int (0 : Int32)) ∧ Arv Z h' co kco .int (1 : Int32) [(.int (0 : Int32))] (.int (0 : Int32)) ∧ Arv Z h' sc ksc .int (1 : Int32) [(.int (0 : Int32))] (.int (0 : Int32)) ∧ h0.size ≤ sl ∧ h0.size ≤ fi ∧ h0.size ≤ la ∧ h0.size ≤ nx ∧ h0.size ≤ co ∧ h0.size ≤ sc ∧ sl ≠ fi ∧ sl ≠ la ∧ sl ≠ nx ∧ sl ≠ co ∧ sl ≠ sc ∧ fi ≠ la ∧ fi ≠ nx ∧ fi ≠ co ∧ fi ≠ sc ∧ la ≠ nx ∧ la ≠ co ∧ la ≠ sc ∧ nx ≠ co ∧ nx ≠ sc ∧ co ≠ sc) := by
  refine Ctr.body (L := #[.val (.ref o0), .val (.ref o1), .val (.ref o2), .unset]) (plainFor_of_name pn10) Z0 (fun m => ef10 m o0 o1 o2) ?_
  intro p e F m below meth c T0 C0
  have KP : Keep h0 h0 [o0] := Keep.refl h0 _
  refine C0.aloadN d10_0 rfl rfl rfl ?_
  refine C0.initObj (hw _ (List.mem_of_getElem? (i := 66) rfl)) (hw _ (List.mem_of_getElem? (i := 7) rfl)) (hw _ (List.mem_of_getElem? (i := 8) rfl)) rfl (by decide) 0 (Nat.le_of_eq rfl) (by decide) d10_1 rfl (fun T1 C1 => ?_)
  refine C1.aloadN d10_4 rfl rfl rfl ?_
  refine C1.bipush (16 : Int32) d10_5 rfl rfl ?_
  refine C1.newarr (hw _ (List.mem_of_getElem? (i := 37) rfl)) 16 (by decide) (by decide) (by decide) (by decide) (by decide) d10_7 rfl (fun T2 h2 b2 k2 C2 e2 g_b2 E2 V_b2 => ?_)
  have ne_o0_b2 : o0 ≠ b2 := Nat.ne_of_lt (Nat.lt_of_lt_of_eq E_o0.lt e2.symm)
  have ne_o1_b2 : o1 ≠ b2 := Nat.ne_of_lt (Nat.lt_of_lt_of_eq E_o1.lt e2.symm)
  have ne_o2_b2 : o2 ≠ b2 := Nat.ne_of_lt (Nat.lt_of_lt_of_eq V_o2.lt e2.symm)
  have sz_b2 : h0.size ≤ b2 := Nat.le_trans KP.1 (Nat.le_of_eq e2.symm)
  have E_o0 := E_o0.ext E2
  have F_o0_slots := F_o0_slots.ext E2
  have F_o0_firsts := F_o0_firsts.ext E2
  have F_o0_lasts := F_o0_lasts.ext E2
  have F_o0_nexts := F_o0_nexts.ext E2
  have F_o0_relation := F_o0_relation.ext E2
  have F_o0_columns := F_o0_columns.ext E2
  have F_o0_scratch := F_o0_scratch.ext E2
  have F_o0_groups := F_o0_groups.ext E2
  have E_o1 := E_o1.ext E2
  have F_o1_size := F_o1_size.ext E2
  have V_o2 := V_o2.ext E2
  have E_o2 := E_o2.ext E2
  have KP := KP.ext E2
  have V_b2 : Arv Z h2 b2 k2 .int (16 : Int32) [(.int (0 : Int32)), (.int (0 : Int32)), (.int (0 : Int32)), (.int (0 : Int32)), (.int (0 : Int32)), (.int (0 : Int32)), (.int (0 : Int32)), (.int (0 : Int32)), (.int (0 : Int32)), (.int (0 : Int32)), (.int (0 : Int32)), (.int (0 : Int32)), (.int (0 : Int32)), (.int (0 : Int32)), (.int (0 : Int32)), (.int (0 : Int32))] (.int (0 : Int32)) := V_b2
  refine C2.putF (host := "") (Or.inl (hw _ (List.mem_of_getElem? (i := 67) rfl))) Via.refl F_o0_slots E_o0 (Or.inl (hw _ (List.mem_of_getElem? (i := 68) rfl))) (hw _ (List.mem_of_getElem? (i := 61) rfl)) (ty := (.array .int)) (by decide) rfl rfl g_o0 d10_9 rfl (fun T3 h3 C3 W3 => ?_)
  have ne_o1_o0 : o1 ≠ o0 := (ne_exa E_o1 E_o0 (by decide))
  have ne_o2_o0 : o2 ≠ o0 := (ne_exa E_o2 E_o0 (by decide))
  have E_o0 := E_o0.wr W3
  have F_o0_firsts := F_o0_firsts.other W3 (Or.inr (slot_ne (Or.inl (hw _ (List.mem_of_getElem? (i := 70) rfl))) (Or.inl (hw _ (List.mem_of_getElem? (i := 68) rfl))) (by decide) (t := (.array .int)) (t' := (.array .int)) (by decide) (by decide)))
  have F_o0_lasts := F_o0_lasts.other W3 (Or.inr (slot_ne (Or.inl (hw _ (List.mem_of_getElem? (i := 72) rfl))) (Or.inl (hw _ (List.mem_of_getElem? (i := 68) rfl))) (by decide) (t := (.array .int)) (t' := (.array .int)) (by decide) (by decide)))
  have F_o0_nexts := F_o0_nexts.other W3 (Or.inr (slot_ne (Or.inl (hw _ (List.mem_of_getElem? (i := 74) rfl))) (Or.inl (hw _ (List.mem_of_getElem? (i := 68) rfl))) (by decide) (t := (.array .int)) (t' := (.array .int)) (by decide) (by decide)))
  have F_o0_relation := F_o0_relation.other W3 (Or.inr (slot_ne (Or.inr (hw _ (List.mem_of_getElem? (i := 76) rfl))) (Or.inl (hw _ (List.mem_of_getElem? (i := 68) rfl))) (by decide) (t := (.object "com/example/nestor/nestor/engine/Relation")) (t' := (.array .int)) (by decide) (by decide)))
  have F_o0_columns := F_o0_columns.other W3 (Or.inr (slot_ne (Or.inr (hw _ (List.mem_of_getElem? (i := 87) rfl))) (Or.inl (hw _ (List.mem_of_getElem? (i := 68) rfl))) (by decide) (t := (.array .int)) (t' := (.array .int)) (by decide) (by decide)))
  have F_o0_scratch := F_o0_scratch.other W3 (Or.inr (slot_ne (Or.inr (hw _ (List.mem_of_getElem? (i := 89) rfl))) (Or.inl (hw _ (List.mem_of_getElem? (i := 68) rfl))) (by decide) (t := (.array .int)) (t' := (.array .int)) (by decide) (by decide)))
  have F_o0_groups := F_o0_groups.other W3 (Or.inr (slot_ne (Or.inl (hw _ (List.mem_of_getElem? (i := 233) rfl))) (Or.inl (hw _ (List.mem_of_getElem? (i := 68) rfl))) (by decide) (t := .int) (t' := (.array .int)) (by decide) (by decide)))
  have E_o1 := E_o1.wr W3
  have F_o1_size := F_o1_size.other W3 (Or.inl ne_o1_o0)
  have V_o2 := V_o2.other W3 ne_o2_o0
  have E_o2 := E_o2.wr W3
  have V_b2 := V_b2.other W3 (Ne.symm ne_o0_b2)
  have KP := KP.wr W3 (Or.inl (by simp))
  have F_o0_slots := F_o0_slots.same W3
  refine C3.aloadN d10_12 rfl rfl rfl ?_
  refine C3.bipush (8 : Int32) d10_13 rfl rfl ?_
  refine C3.newarr (hw _ (List.mem_of_getElem? (i := 37) rfl)) 8 (by decide) (by decide) (by decide) (by decide) (by decide) d10_15 rfl (fun T4 h4 b4 k4 C4 e4 g_b4 E4 V_b4 => ?_)
  have ne_o0_b4 : o0 ≠ b4 := Nat.ne_of_lt (Nat.lt_of_lt_of_eq E_o0.lt e4.symm)
  have ne_o1_b4 : o1 ≠ b4 := Nat.ne_of_lt (Nat.lt_of_lt_of_eq E_o1.lt e4.symm)
  have ne_o2_b4 : o2 ≠ b4 := Nat.ne_of_lt (Nat.lt_of_lt_of_eq V_o2.lt e4.symm)
  have ne_b2_b4 : b2 ≠ b4 := Nat.ne_of_lt (Nat.lt_of_lt_of_eq V_b2.lt e4.symm)
  have sz_b4 : h0.size ≤ b4 := Nat.le_trans KP.1 (Nat.le_of_eq e4.symm)
  have E_o0 := E_o0.ext E4
  have F_o0_slots := F_o0_slots.ext E4
  have F_o0_firsts := F_o0_firsts.ext E4
  have F_o0_lasts := F_o0_lasts.ext E4
  have F_o0_nexts := F_o0_nexts.ext E4
  have F_o0_relation := F_o0_relation.ext E4
  have F_o0_columns := F_o0_columns.ext E4
  have F_o0_scratch := F_o0_scratch.ext E4
  have F_o0_groups := F_o0_groups.ext E4
  have E_o1 := E_o1.ext E4
  have F_o1_size := F_o1_size.ext E4
  have V_o2 := V_o2.ext E4
  have E_o2 := E_o2.ext E4
  have V_b2 := V_b2.ext E4
  have KP := KP.ext E4
  have V_b4 : Arv Z h4 b4 k4 .int (8 : Int32) [(.int (0 : Int32)), (.int (0 : Int32)), (.int (0 : Int32)), (.int (0 : Int32)), (.int (0 : Int32)), (.int (0 : Int32)), (.int (0 : Int32)), (.int (0 : Int32))] (.int (0 : Int32)) := V_b4
  refine C4.putF (host := "") (Or.inl (hw _ (List.mem_of_getElem? (i := 69) rfl))) Via.refl F_o0_firsts E_o0 (Or.inl (hw _ (List.mem_of_getElem? (i := 70) rfl))) (hw _ (List.mem_of_getElem? (i := 61) rfl)) (ty := (.array .int)) (by decide) rfl rfl g_o0 d10_17 rfl (fun T5 h5 C5 W5 => ?_)
  have E_o0 := E_o0.wr W5
  have F_o0_slots := F_o0_slots.other W5 (Or.inr (slot_ne (Or.inl (hw _ (List.mem_of_getElem? (i := 68) rfl))) (Or.inl (hw _ (List.mem_of_getElem? (i := 70) rfl))) (by decide) (t := (.array .int)) (t' := (.array .int)) (by decide) (by decide)))
  have F_o0_lasts := F_o0_lasts.other W5 (Or.inr (slot_ne (Or.inl (hw _ (List.mem_of_getElem? (i := 72) rfl))) (Or.inl (hw _ (List.mem_of_getElem? (i := 70) rfl))) (by decide) (t := (.array .int)) (t' := (.array .int)) (by decide) (by decide)))
  have F_o0_nexts := F_o0_nexts.other W5 (Or.inr (slot_ne (Or.inl (hw _ (List.mem_of_getElem? (i := 74) rfl))) (Or.inl (hw _ (List.mem_of_getElem? (i := 70) rfl))) (by decide) (t := (.array .int)) (t' := (.array .int)) (by decide) (by decide)))
  have F_o0_relation := F_o0_relation.other W5 (Or.inr (slot_ne (Or.inr (hw _ (List.mem_of_getElem? (i := 76) rfl))) (Or.inl (hw _ (List.mem_of_getElem? (i := 70) rfl))) (by decide) (t := (.object "com/example/nestor/nestor/engine/Relation")) (t' := (.array .int)) (by decide) (by decide)))
  have F_o0_columns := F_o0_columns.other W5 (Or.inr (slot_ne (Or.inr (hw _ (List.mem_of_getElem? (i := 87) rfl))) (Or.inl (hw _ (List.mem_of_getElem? (i := 70) rfl))) (by decide) (t := (.array .int)) (t' := (.array .int)) (by decide) (by decide)))
  have F_o0_scratch := F_o0_scratch.other W5 (Or.inr (slot_ne (Or.inr (hw _ (List.mem_of_getElem? (i := 89) rfl))) (Or.inl (hw _ (List.mem_of_getElem? (i := 70) rfl))) (by decide) (t := (.array .int)) (t' := (.array .int)) (by decide) (by decide)))
  have F_o0_groups := F_o0_groups.other W5 (Or.inr (slot_ne (Or.inl (hw _ (List.mem_of_getElem? (i := 233) rfl))) (Or.inl (hw _ (List.mem_of_getElem? (i := 70) rfl))) (by decide) (t := .int) (t' := (.array .int)) (by decide) (by decide)))
  have E_o1 := E_o1.wr W5
  have F_o1_size := F_o1_size.other W5 (Or.inl ne_o1_o0)
  have V_o2 := V_o2.other W5 ne_o2_o0
  have E_o2 := E_o2.wr W5
  have V_b2 := V_b2.other W5 (Ne.symm ne_o0_b2)
  have V_b4 := V_b4.other W5 (Ne.symm ne_o0_b4)
  have KP := KP.wr W5 (Or.inl (by simp))
  have F_o0_firsts := F_o0_firsts.same W5
  refine C5.aloadN d10_20 rfl rfl rfl ?_
  refine C5.bipush (8 : Int32) d10_21 rfl rfl ?_
  refine C5.newarr (hw _ (List.mem_of_getElem? (i := 37) rfl)) 8 (by decide) (by decide) (by decide) (by decide) (by decide) d10_23 rfl (fun T6 h6 b6 k6 C6 e6 g_b6 E6 V_b6 => ?_)
  have ne_o0_b6 : o0 ≠ b6 := Nat.ne_of_lt (Nat.lt_of_lt_of_eq E_o0.lt e6.symm)
  have ne_o1_b6 : o1 ≠ b6 := Nat.ne_of_lt (Nat.lt_of_lt_of_eq E_o1.lt e6.symm)
  have ne_o2_b6 : o2 ≠ b6 := Nat.ne_of_lt (Nat.lt_of_lt_of_eq V_o2.lt e6.symm)
  have ne_b2_b6 : b2 ≠ b6 := Nat.ne_of_lt (Nat.lt_of_lt_of_eq V_b2.lt e6.symm)
  have ne_b4_b6 : b4 ≠ b6 := Nat.ne_of_lt (Nat.lt_of_lt_of_eq V_b4.lt e6.symm)
  have sz_b6 : h0.size ≤ b6 := Nat.le_trans KP.1 (Nat.le_of_eq e6.symm)
  have E_o0 := E_o0.ext E6
  have F_o0_slots := F_o0_slots.ext E6
  have F_o0_firsts := F_o0_firsts.ext E6
  have F_o0_lasts := F_o0_lasts.ext E6
  have F_o0_nexts := F_o0_nexts.ext E6
  have F_o0_relation := F_o0_relation.ext E6
  have F_o0_columns := F_o0_columns.ext E6
  have F_o0_scratch := F_o0_scratch.ext E6
  have F_o0_groups := F_o0_groups.ext E6
  have E_o1 := E_o1.ext E6
  have F_o1_size := F_o1_size.ext E6
  have V_o2 := V_o2.ext E6
  have E_o2 := E_o2.ext E6
  have V_b2 := V_b2.ext E6
  have V_b4 := V_b4.ext E6
  have KP := KP.ext E6
  have V_b6 : Arv Z h6 b6 k6 .int (8 : Int32) [(.int (0 : Int32)), (.int (0 : Int32)), (.int (0 : Int32)), (.int (0 : Int32)), (.int (0 : Int32)), (.int (0 : Int32)), (.int (0 : Int32)), (.int (0 : Int32))] (.int (0 : Int32)) := V_b6
  refine C6.putF (host := "") (Or.inl (hw _ (List.mem_of_getElem? (i := 71) rfl))) Via.refl F_o0_lasts E_o0 (Or.inl (hw _ (List.mem_of_getElem? (i := 72) rfl))) (hw _ (List.mem_of_getElem? (i := 61) rfl)) (ty := (.array .int)) (by decide) rfl rfl g_o0 d10_25 rfl (fun T7 h7 C7 W7 => ?_)
  have E_o0 := E_o0.wr W7
  have F_o0_slots := F_o0_slots.other W7 (Or.inr (slot_ne (Or.inl (hw _ (List.mem_of_getElem? (i := 68) rfl))) (Or.inl (hw _ (List.mem_of_getElem? (i := 72) rfl))) (by decide) (t := (.array .int)) (t' := (.array .int)) (by decide) (by decide)))
  have F_o0_firsts := F_o0_firsts.other W7 (Or.inr (slot_ne (Or.inl (hw _ (List.mem_of_getElem? (i := 70) rfl))) (Or.inl (hw _ (List.mem_of_getElem? (i := 72) rfl))) (by decide) (t := (.array .int)) (t' := (.array .int)) (by decide) (by decide)))
  have F_o0_nexts := F_o0_nexts.other W7 (Or.inr (slot_ne (Or.inl (hw _ (List.mem_of_getElem? (i := 74) rfl))) (Or.inl (hw _ (List.mem_of_getElem? (i := 72) rfl))) (by decide) (t := (.array .int)) (t' := (.array .int)) (by decide) (by decide)))
  have F_o0_relation := F_o0_relation.other W7 (Or.inr (slot_ne (Or.inr (hw _ (List.mem_of_getElem? (i := 76) rfl))) (Or.inl (hw _ (List.mem_of_getElem? (i := 72) rfl))) (by decide) (t := (.object "com/example/nestor/nestor/engine/Relation")) (t' := (.array .int)) (by decide) (by decide)))
  have F_o0_columns := F_o0_columns.other W7 (Or.inr (slot_ne (Or.inr (hw _ (List.mem_of_getElem? (i := 87) rfl))) (Or.inl (hw _ (List.mem_of_getElem? (i := 72) rfl))) (by decide) (t := (.array .int)) (t' := (.array .int)) (by decide) (by decide)))
  have F_o0_scratch := F_o0_scratch.other W7 (Or.inr (slot_ne (Or.inr (hw _ (List.mem_of_getElem? (i := 89) rfl))) (Or.inl (hw _ (List.mem_of_getElem? (i := 72) rfl))) (by decide) (t := (.array .int)) (t' := (.array .int)) (by decide) (by decide)))
  have F_o0_groups := F_o0_groups.other W7 (Or.inr (slot_ne (Or.inl (hw _ (List.mem_of_getElem? (i := 233) rfl))) (Or.inl (hw _ (List.mem_of_getElem? (i := 72) rfl))) (by decide) (t := .int) (t' := (.array .int)) (by decide) (by decide)))
  have E_o1 := E_o1.wr W7
  have F_o1_size := F_o1_size.other W7 (Or.inl ne_o1_o0)
  have V_o2 := V_o2.other W7 ne_o2_o0
  have E_o2 := E_o2.wr W7
  have V_b2 := V_b2.other W7 (Ne.symm ne_o0_b2)
  have V_b4 := V_b4.other W7 (Ne.symm ne_o0_b4)
  have V_b6 := V_b6.other W7 (Ne.symm ne_o0_b6)
  have KP := KP.wr W7 (Or.inl (by simp))
  have F_o0_lasts := F_o0_lasts.same W7
  refine C7.aloadN d10_28 rfl rfl rfl ?_
  refine C7.bipush (16 : Int32) d10_29 rfl rfl ?_
  refine C7.newarr (hw _ (List.mem_of_getElem? (i := 37) rfl)) 16 (by decide) (by decide) (by decide) (by decide) (by decide) d10_31 rfl (fun T8 h8 b8 k8 C8 e8 g_b8 E8 V_b8 => ?_)
  have ne_o0_b8 : o0 ≠ b8 := Nat.ne_of_lt (Nat.lt_of_lt_of_eq E_o0.lt e8.symm)
  have ne_o1_b8 : o1 ≠ b8 := Nat.ne_of_lt (Nat.lt_of_lt_of_eq E_o1.lt e8.symm)
  have ne_o2_b8 : o2 ≠ b8 := Nat.ne_of_lt (Nat.lt_of_lt_of_eq V_o2.lt e8.symm)
  have ne_b2_b8 : b2 ≠ b8 := Nat.ne_of_lt (Nat.lt_of_lt_of_eq V_b2.lt e8.symm)
  have ne_b4_b8 : b4 ≠ b8 := Nat.ne_of_lt (Nat.lt_of_lt_of_eq V_b4.lt e8.symm)
  have ne_b6_b8 : b6 ≠ b8 := Nat.ne_of_lt (Nat.lt_of_lt_of_eq V_b6.lt e8.symm)
  have sz_b8 : h0.size ≤ b8 := Nat.le_trans KP.1 (Nat.le_of_eq e8.symm)
  have E_o0 := E_o0.ext E8
  have F_o0_slots := F_o0_slots.ext E8
  have F_o0_firsts := F_o0_firsts.ext E8
  have F_o0_lasts := F_o0_lasts.ext E8
  have F_o0_nexts := F_o0_nexts.ext E8
  have F_o0_relation := F_o0_relation.ext E8
  have F_o0_columns := F_o0_columns.ext E8
  have F_o0_scratch := F_o0_scratch.ext E8
  have F_o0_groups := F_o0_groups.ext E8
  have E_o1 := E_o1.ext E8
  have F_o1_size := F_o1_size.ext E8
  have V_o2 := V_o2.ext E8
  have E_o2 := E_o2.ext E8
  have V_b2 := V_b2.ext E8
  have V_b4 := V_b4.ext E8
  have V_b6 := V_b6.ext E8
  have KP := KP.ext E8
  have V_b8 : Arv Z h8 b8 k8 .int (16 : Int32) [(.int (0 : Int32)), (.int (0 : Int32)), (.int (0 : Int32)), (.int (0 : Int32)), (.int (0 : Int32)), (.int (0 : Int32)), (.int (0 : Int32)), (.int (0 : Int32)), (.int (0 : Int32)), (.int (0 : Int32)), (.int (0 : Int32)), (.int (0 : Int32)), (.int (0 : Int32)), (.int (0 : Int32)), (.int (0 : Int32)), (.int (0 : Int32))] (.int (0 : Int32)) := V_b8
  refine C8.putF (host := "") (Or.inl (hw _ (List.mem_of_getElem? (i := 73) rfl))) Via.refl F_o0_nexts E_o0 (Or.inl (hw _ (List.mem_of_getElem? (i := 74) rfl))) (hw _ (List.mem_of_getElem? (i := 61) rfl)) (ty := (.array .int)) (by decide) rfl rfl g_o0 d10_33 rfl (fun T9 h9 C9 W9 => ?_)
  have E_o0 := E_o0.wr W9
  have F_o0_slots := F_o0_slots.other W9 (Or.inr (slot_ne (Or.inl (hw _ (List.mem_of_getElem? (i := 68) rfl))) (Or.inl (hw _ (List.mem_of_getElem? (i := 74) rfl))) (by decide) (t := (.array .int)) (t' := (.array .int)) (by decide) (by decide)))
  have F_o0_firsts := F_o0_firsts.other W9 (Or.inr (slot_ne (Or.inl (hw _ (List.mem_of_getElem? (i := 70) rfl))) (Or.inl (hw _ (List.mem_of_getElem? (i := 74) rfl))) (by decide) (t := (.array .int)) (t' := (.array .int)) (by decide) (by decide)))
  have F_o0_lasts := F_o0_lasts.other W9 (Or.inr (slot_ne (Or.inl (hw _ (List.mem_of_getElem? (i := 72) rfl))) (Or.inl (hw _ (List.mem_of_getElem? (i := 74) rfl))) (by decide) (t := (.array .int)) (t' := (.array .int)) (by decide) (by decide)))
  have F_o0_relation := F_o0_relation.other W9 (Or.inr (slot_ne (Or.inr (hw _ (List.mem_of_getElem? (i := 76) rfl))) (Or.inl (hw _ (List.mem_of_getElem? (i := 74) rfl))) (by decide) (t := (.object "com/example/nestor/nestor/engine/Relation")) (t' := (.array .int)) (by decide) (by decide)))
  have F_o0_columns := F_o0_columns.other W9 (Or.inr (slot_ne (Or.inr (hw _ (List.mem_of_getElem? (i := 87) rfl))) (Or.inl (hw _ (List.mem_of_getElem? (i := 74) rfl))) (by decide) (t := (.array .int)) (t' := (.array .int)) (by decide) (by decide)))
  have F_o0_scratch := F_o0_scratch.other W9 (Or.inr (slot_ne (Or.inr (hw _ (List.mem_of_getElem? (i := 89) rfl))) (Or.inl (hw _ (List.mem_of_getElem? (i := 74) rfl))) (by decide) (t := (.array .int)) (t' := (.array .int)) (by decide) (by decide)))
  have F_o0_groups := F_o0_groups.other W9 (Or.inr (slot_ne (Or.inl (hw _ (List.mem_of_getElem? (i := 233) rfl))) (Or.inl (hw _ (List.mem_of_getElem? (i := 74) rfl))) (by decide) (t := .int) (t' := (.array .int)) (by decide) (by decide)))
  have E_o1 := E_o1.wr W9
  have F_o1_size := F_o1_size.other W9 (Or.inl ne_o1_o0)
  have V_o2 := V_o2.other W9 ne_o2_o0
  have E_o2 := E_o2.wr W9
  have V_b2 := V_b2.other W9 (Ne.symm ne_o0_b2)
  have V_b4 := V_b4.other W9 (Ne.symm ne_o0_b4)
  have V_b6 := V_b6.other W9 (Ne.symm ne_o0_b6)
  have V_b8 := V_b8.other W9 (Ne.symm ne_o0_b8)
  have KP := KP.wr W9 (Or.inl (by simp))
  have F_o0_nexts := F_o0_nexts.same W9
  refine C9.aloadN d10_36 rfl rfl rfl ?_
  refine C9.aloadN d10_37 rfl rfl rfl ?_
  refine C9.putF (host := "") (Or.inl (hw _ (List.mem_of_getElem? (i := 75) rfl))) Via.refl F_o0_relation E_o0 (Or.inr ⟨(hw _ (List.mem_of_getElem? (i := 76) rfl)), rfl, rfl⟩) (hw _ (List.mem_of_getElem? (i := 61) rfl)) (ty := (.object "com/example/nestor/nestor/engine/Relation")) (by decide) rfl rfl g_o0 d10_38 rfl (fun T10 h10 C10 W10 => ?_)
  have E_o0 := E_o0.wr W10
  have F_o0_slots := F_o0_slots.other W10 (Or.inr (slot_ne (Or.inl (hw _ (List.mem_of_getElem? (i := 68) rfl))) (Or.inr (hw _ (List.mem_of_getElem? (i := 76) rfl))) (by decide) (t := (.array .int)) (t' := (.object "com/example/nestor/nestor/engine/Relation")) (by decide) (by decide)))
  have F_o0_firsts := F_o0_firsts.other W10 (Or.inr (slot_ne (Or.inl (hw _ (List.mem_of_getElem? (i := 70) rfl))) (Or.inr (hw _ (List.mem_of_getElem? (i := 76) rfl))) (by decide) (t := (.array .int)) (t' := (.object "com/example/nestor/nestor/engine/Relation")) (by decide) (by decide)))
  have F_o0_lasts := F_o0_lasts.other W10 (Or.inr (slot_ne (Or.inl (hw _ (List.mem_of_getElem? (i := 72) rfl))) (Or.inr (hw _ (List.mem_of_getElem? (i := 76) rfl))) (by decide) (t := (.array .int)) (t' := (.object "com/example/nestor/nestor/engine/Relation")) (by decide) (by decide)))
  have F_o0_nexts := F_o0_nexts.other W10 (Or.inr (slot_ne (Or.inl (hw _ (List.mem_of_getElem? (i := 74) rfl))) (Or.inr (hw _ (List.mem_of_getElem? (i := 76) rfl))) (by decide) (t := (.array .int)) (t' := (.object "com/example/nestor/nestor/engine/Relation")) (by decide) (by decide)))
  have F_o0_columns := F_o0_columns.other W10 (Or.inr (slot_ne (Or.inr (hw _ (List.mem_of_getElem? (i := 87) rfl))) (Or.inr (hw _ (List.mem_of_getElem? (i := 76) rfl))) (by decide) (t := (.array .int)) (t' := (.object "com/example/nestor/nestor/engine/Relation")) (by decide) (by decide)))
  have F_o0_scratch := F_o0_scratch.other W10 (Or.inr (slot_ne (Or.inr (hw _ (List.mem_of_getElem? (i := 89) rfl))) (Or.inr (hw _ (List.mem_of_getElem? (i := 76) rfl))) (by decide) (t := (.array .int)) (t' := (.object "com/example/nestor/nestor/engine/Relation")) (by decide) (by decide)))
  have F_o0_groups := F_o0_groups.other W10 (Or.inr (slot_ne (Or.inl (hw _ (List.mem_of_getElem? (i := 233) rfl))) (Or.inr (hw _ (List.mem_of_getElem? (i := 76) rfl))) (by decide) (t := .int) (t' := (.object "com/example/nestor/nestor/engine/Relation")) (by decide) (by decide)))
  have E_o1 := E_o1.wr W10
  have F_o1_size := F_o1_size.other W10 (Or.inl ne_o1_o0)
  have V_o2 := V_o2.other W10 ne_o2_o0
  have E_o2 := E_o2.wr W10
  have V_b2 := V_b2.other W10 (Ne.symm ne_o0_b2)
  have V_b4 := V_b4.other W10 (Ne.symm ne_o0_b4)
  have V_b6 := V_b6.other W10 (Ne.symm ne_o0_b6)
  have V_b8 := V_b8.other W10 (Ne.symm ne_o0_b8)
  have KP := KP.wr W10 (Or.inl (by simp))
  have F_o0_relation := F_o0_relation.same W10
  refine C10.aloadN d10_41 rfl rfl rfl ?_
  refine C10.aloadN d10_42 rfl rfl rfl ?_
  refine C10.clonearr (hw _ (List.mem_of_getElem? (i := 77) rfl)) (hw _ (List.mem_of_getElem? (i := 78) rfl)) (hw _ (List.mem_of_getElem? (i := 82) rfl)) (hw _ (List.mem_of_getElem? (i := 80) rfl)) (hw _ (List.mem_of_getElem? (i := 81) rfl)) (hw _ (List.mem_of_getElem? (i := 83) rfl)) V_o2 E_o2 rfl (by decide) 1 (Nat.le_of_eq rfl) (by decide) 1 (by decide) (by decide) (by decide) d10_43 rfl (fun T11 h11 b11 C11 e11 g_b11 E11 V_b11 E_b11 => ?_)
  have ne_o0_b11 : o0 ≠ b11 := Nat.ne_of_lt (Nat.lt_of_lt_of_eq E_o0.lt e11.symm)
  have ne_o1_b11 : o1 ≠ b11 := Nat.ne_of_lt (Nat.lt_of_lt_of_eq E_o1.lt e11.symm)
  have ne_o2_b11 : o2 ≠ b11 := Nat.ne_of_lt (Nat.lt_of_lt_of_eq V_o2.lt e11.symm)
  have ne_b2_b11 : b2 ≠ b11 := Nat.ne_of_lt (Nat.lt_of_lt_of_eq V_b2.lt e11.symm)
  have ne_b4_b11 : b4 ≠ b11 := Nat.ne_of_lt (Nat.lt_of_lt_of_eq V_b4.lt e11.symm)
  have ne_b6_b11 : b6 ≠ b11 := Nat.ne_of_lt (Nat.lt_of_lt_of_eq V_b6.lt e11.symm)
  have ne_b8_b11 : b8 ≠ b11 := Nat.ne_of_lt (Nat.lt_of_lt_of_eq V_b8.lt e11.symm)
  have sz_b11 : h0.size ≤ b11 := Nat.le_trans KP.1 (Nat.le_of_eq e11.symm)
  have E_o0 := E_o0.ext E11
  have F_o0_slots := F_o0_slots.ext E11
  have F_o0_firsts := F_o0_firsts.ext E11
  have F_o0_lasts := F_o0_lasts.ext E11
  have F_o0_nexts := F_o0_nexts.ext E11
  have F_o0_relation := F_o0_relation.ext E11
  have F_o0_columns := F_o0_columns.ext E11
  have F_o0_scratch := F_o0_scratch.ext E11
  have F_o0_groups := F_o0_groups.ext E11
  have E_o1 := E_o1.ext E11
  have F_o1_size := F_o1_size.ext E11
  have V_o2 := V_o2.ext E11
  have E_o2 := E_o2.ext E11
  have V_b2 := V_b2.ext E11
  have V_b4 := V_b4.ext E11
  have V_b6 := V_b6.ext E11
  have V_b8 := V_b8.ext E11
  have KP := KP.ext E11
  refine C11.castY (hw _ (List.mem_of_getElem? (i := 84) rfl)) (Ins.self E_b11) d10_46 rfl (fun T12 C12 => ?_)
  refine C12.putF (host := "") (Or.inl (hw _ (List.mem_of_getElem? (i := 86) rfl))) Via.refl F_o0_columns E_o0 (Or.inr ⟨(hw _ (List.mem_of_getElem? (i := 87) rfl)), rfl, rfl⟩) (hw _ (List.mem_of_getElem? (i := 61) rfl)) (ty := (.array .int)) (by decide) rfl rfl g_o0 d10_49 rfl (fun T13 h13 C13 W13 => ?_)
  have E_o0 := E_o0.wr W13
  have F_o0_slots := F_o0_slots.other W13 (Or.inr (slot_ne (Or.inl (hw _ (List.mem_of_getElem? (i := 68) rfl))) (Or.inr (hw _ (List.mem_of_getElem? (i := 87) rfl))) (by decide) (t := (.array .int)) (t' := (.array .int)) (by decide) (by decide)))
  have F_o0_firsts := F_o0_firsts.other W13 (Or.inr (slot_ne (Or.inl (hw _ (List.mem_of_getElem? (i := 70) rfl))) (Or.inr (hw _ (List.mem_of_getElem? (i := 87) rfl))) (by decide) (t := (.array .int)) (t' := (.array .int)) (by decide) (by decide)))
  have F_o0_lasts := F_o0_lasts.other W13 (Or.inr (slot_ne (Or.inl (hw _ (List.mem_of_getElem? (i := 72) rfl))) (Or.inr (hw _ (List.mem_of_getElem? (i := 87) rfl))) (by decide) (t := (.array .int)) (t' := (.array .int)) (by decide) (by decide)))
  have F_o0_nexts := F_o0_nexts.other W13 (Or.inr (slot_ne (Or.inl (hw _ (List.mem_of_getElem? (i := 74) rfl))) (Or.inr (hw _ (List.mem_of_getElem? (i := 87) rfl))) (by decide) (t := (.array .int)) (t' := (.array .int)) (by decide) (by decide)))
  have F_o0_relation := F_o0_relation.other W13 (Or.inr (slot_ne (Or.inr (hw _ (List.mem_of_getElem? (i := 76) rfl))) (Or.inr (hw _ (List.mem_of_getElem? (i := 87) rfl))) (by decide) (t := (.object "com/example/nestor/nestor/engine/Relation")) (t' := (.array .int)) (by decide) (by decide)))
  have F_o0_scratch := F_o0_scratch.other W13 (Or.inr (slot_ne (Or.inr (hw _ (List.mem_of_getElem? (i := 89) rfl))) (Or.inr (hw _ (List.mem_of_getElem? (i := 87) rfl))) (by decide) (t := (.array .int)) (t' := (.array .int)) (by decide) (by decide)))
  have F_o0_groups := F_o0_groups.other W13 (Or.inr (slot_ne (Or.inl (hw _ (List.mem_of_getElem? (i := 233) rfl))) (Or.inr (hw _ (List.mem_of_getElem? (i := 87) rfl))) (by decide) (t := .int) (t' := (.array .int)) (by decide) (by decide)))
  have E_o1 := E_o1.wr W13
  have F_o1_size := F_o1_size.other W13 (Or.inl ne_o1_o0)
  have V_o2 := V_o2.other W13 ne_o2_o0
  have E_o2 := E_o2.wr W13
  have V_b2 := V_b2.other W13 (Ne.symm ne_o0_b2)
  have V_b4 := V_b4.other W13 (Ne.symm ne_o0_b4)
  have V_b6 := V_b6.other W13 (Ne.symm ne_o0_b6)
  have V_b8 := V_b8.other W13 (Ne.symm ne_o0_b8)
  have V_b11 := V_b11.other W13 (Ne.symm ne_o0_b11)
  have E_b11 := E_b11.wr W13
  have KP := KP.wr W13 (Or.inl (by simp))
  have F_o0_columns := F_o0_columns.same W13
  refine C13.aloadN d10_52 rfl rfl rfl ?_
  refine C13.aloadN d10_53 rfl rfl rfl ?_
  refine C13.arrlen V_o2 d10_54 rfl ?_
  refine C13.newarr (hw _ (List.mem_of_getElem? (i := 37) rfl)) 1 (by decide) (by decide) (by decide) (by decide) (by decide) d10_55 rfl (fun T14 h14 b14 k14 C14 e14 g_b14 E14 V_b14 => ?_)
  have ne_o0_b14 : o0 ≠ b14 := Nat.ne_of_lt (Nat.lt_of_lt_of_eq E_o0.lt e14.symm)
  have ne_o1_b14 : o1 ≠ b14 := Nat.ne_of_lt (Nat.lt_of_lt_of_eq E_o1.lt e14.symm)
  have ne_o2_b14 : o2 ≠ b14 := Nat.ne_of_lt (Nat.lt_of_lt_of_eq V_o2.lt e14.symm)
  have ne_b2_b14 : b2 ≠ b14 := Nat.ne_of_lt (Nat.lt_of_lt_of_eq V_b2.lt e14.symm)
  have ne_b4_b14 : b4 ≠ b14 := Nat.ne_of_lt (Nat.lt_of_lt_of_eq V_b4.lt e14.symm)
  have ne_b6_b14 : b6 ≠ b14 := Nat.ne_of_lt (Nat.lt_of_lt_of_eq V_b6.lt e14.symm)
  have ne_b8_b14 : b8 ≠ b14 := Nat.ne_of_lt (Nat.lt_of_lt_of_eq V_b8.lt e14.symm)
  have ne_b11_b14 : b11 ≠ b14 := Nat.ne_of_lt (Nat.lt_of_lt_of_eq V_b11.lt e14.symm)
  have sz_b14 : h0.size ≤ b14 := Nat.le_trans KP.1 (Nat.le_of_eq e14.symm)
  have E_o0 := E_o0.ext E14
  have F_o0_slots := F_o0_slots.ext E14
  have F_o0_firsts := F_o0_firsts.ext E14
  have F_o0_lasts := F_o0_lasts.ext E14
  have F_o0_nexts := F_o0_nexts.ext E14
  have F_o0_relation := F_o0_relation.ext E14
  have F_o0_columns := F_o0_columns.ext E14
  have F_o0_scratch := F_o0_scratch.ext E14
  have F_o0_groups := F_o0_groups.ext E14
  have E_o1 := E_o1.ext E14
  have F_o1_size := F_o1_size.ext E14
  have V_o2 := V_o2.ext E14
  have E_o2 := E_o2.ext E14
  have V_b2 := V_b2.ext E14
  have V_b4 := V_b4.ext E14
  have V_b6 := V_b6.ext E14
  have V_b8 := V_b8.ext E14
  have V_b11 := V_b11.ext E14
  have E_b11 := E_b11.ext E14
  have KP := KP.ext E14
  have V_b14 : Arv Z h14 b14 k14 .int (1 : Int32) [(.int (0 : Int32))] (.int (0 : Int32)) := V_b14
  refine C14.putF (host := "") (Or.inl (hw _ (List.mem_of_getElem? (i := 88) rfl))) Via.refl F_o0_scratch E_o0 (Or.inr ⟨(hw _ (List.mem_of_getElem? (i := 89) rfl)), rfl, rfl⟩) (hw _ (List.mem_of_getElem? (i := 61) rfl)) (ty := (.array .int)) (by decide) rfl rfl g_o0 d10_57 rfl (fun T15 h15 C15 W15 => ?_)
  have E_o0 := E_o0.wr W15
  have F_o0_slots := F_o0_slots.other W15 (Or.inr (slot_ne (Or.inl (hw _ (List.mem_of_getElem? (i := 68) rfl))) (Or.inr (hw _ (List.mem_of_getElem? (i := 89) rfl))) (by decide) (t := (.array .int)) (t' := (.array .int)) (by decide) (by decide)))
  have F_o0_firsts := F_o0_firsts.other W15 (Or.inr (slot_ne (Or.inl (hw _ (List.mem_of_getElem? (i := 70) rfl))) (Or.inr (hw _ (List.mem_of_getElem? (i := 89) rfl))) (by decide) (t := (.array .int)) (t' := (.array .int)) (by decide) (by decide)))
  have F_o0_lasts := F_o0_lasts.other W15 (Or.inr (slot_ne (Or.inl (hw _ (List.mem_of_getElem? (i := 72) rfl))) (Or.inr (hw _ (List.mem_of_getElem? (i := 89) rfl))) (by decide) (t := (.array .int)) (t' := (.array .int)) (by decide) (by decide)))
  have F_o0_nexts := F_o0_nexts.other W15 (Or.inr (slot_ne (Or.inl (hw _ (List.mem_of_getElem? (i := 74) rfl))) (Or.inr (hw _ (List.mem_of_getElem? (i := 89) rfl))) (by decide) (t := (.array .int)) (t' := (.array .int)) (by decide) (by decide)))
  have F_o0_relation := F_o0_relation.other W15 (Or.inr (slot_ne (Or.inr (hw _ (List.mem_of_getElem? (i := 76) rfl))) (Or.inr (hw _ (List.mem_of_getElem? (i := 89) rfl))) (by decide) (t := (.object "com/example/nestor/nestor/engine/Relation")) (t' := (.array .int)) (by decide) (by decide)))
  have F_o0_columns := F_o0_columns.other W15 (Or.inr (slot_ne (Or.inr (hw _ (List.mem_of_getElem? (i := 87) rfl))) (Or.inr (hw _ (List.mem_of_getElem? (i := 89) rfl))) (by decide) (t := (.array .int)) (t' := (.array .int)) (by decide) (by decide)))
  have F_o0_groups := F_o0_groups.other W15 (Or.inr (slot_ne (Or.inl (hw _ (List.mem_of_getElem? (i := 233) rfl))) (Or.inr (hw _ (List.mem_of_getElem? (i := 89) rfl))) (by decide) (t := .int) (t' := (.array .int)) (by decide) (by decide)))
  have E_o1 := E_o1.wr W15
  have F_o1_size := F_o1_size.other W15 (Or.inl ne_o1_o0)
  have V_o2 := V_o2.other W15 ne_o2_o0
  have E_o2 := E_o2.wr W15
  have V_b2 := V_b2.other W15 (Ne.symm ne_o0_b2)
  have V_b4 := V_b4.other W15 (Ne.symm ne_o0_b4)
  have V_b6 := V_b6.other W15 (Ne.symm ne_o0_b6)
  have V_b8 := V_b8.other W15 (Ne.symm ne_o0_b8)
  have V_b11 := V_b11.other W15 (Ne.symm ne_o0_b11)
  have E_b11 := E_b11.wr W15
  have V_b14 := V_b14.other W15 (Ne.symm ne_o0_b14)
  have KP := KP.wr W15 (Or.inl (by simp))
  have F_o0_scratch := F_o0_scratch.same W15
  refine C15.iconst (0 : Int32) d10_60 rfl rfl ?_
  refine C15.istoreN d10_61 rfl (L' := #[.val (.ref o0), .val (.ref o1), .val (.ref o2), .val (.int (0 : Int32))]) rfl ?_
  refine C15.iloadN d10_62 rfl rfl ?_
  refine C15.aloadN d10_63 rfl rfl rfl ?_
  refine C15.callV (hw _ (List.mem_of_getElem? (i := 90) rfl)) (hw _ (List.mem_of_getElem? (i := 91) rfl)) (hw _ (List.mem_of_getElem? (i := 93) rfl)) (hw _ (List.mem_of_getElem? (i := 92) rfl)) (hw _ (List.mem_of_getElem? (i := 2) rfl)) (hw _ (List.mem_of_getElem? (i := 94) rfl)) E_o1 (by decide) (a := o1) (rm11 l Z a0 hw o1 (0 : Int32) h15 n0 C15.size F_o1_size) (argsL := []) pd11 rfl 1 (by decide) (by decide) (by decide) (by decide) (rest := [(.int (0 : Int32))]) rfl rfl (Nat.le_of_eq rfl) d10_64 rfl (fun v16 T16 h16 C16 qq16 => ?_)
  obtain ⟨rfl, hh16⟩ := qq16
  have hh16 := hh16.symm; subst hh16
  show Go p e below F n0 (fun v h' => ∃ sl : Addr, ∃ fi : Addr, ∃ la : Addr, ∃ nx : Addr, ∃ co : Addr, ∃ sc : Addr, ∃ ksl : ClassId, ∃ kfi : ClassId, ∃ kla : ClassId, ∃ knx : ClassId, ∃ kco : ClassId, ∃ ksc : ClassId, v = none ∧ Keep h0 h' [o0] ∧ Exa Z h' o0 "com/example/nestor/nestor/engine/Index" ∧ Fld Z h' o0 "com/example/nestor/nestor/engine/Index" "slots" "[I" (.ref sl) ∧ Fld Z h' o0 "com/example/nestor/nestor/engine/Index" "firsts" "[I" (.ref fi) ∧ Fld Z h' o0 "com/example/nestor/nestor/engine/Index" "lasts" "[I" (.ref la) ∧ Fld Z h' o0 "com/example/nestor/nestor/engine/Index" "nexts" "[I" (.ref nx) ∧ Fld Z h' o0 "com/example/nestor/nestor/engine/Index" "relation" "Lcom/example/nestor/nestor/engine/Relation;" (.ref o1) ∧ Fld Z h' o0 "com/example/nestor/nestor/engine/Index" "columns" "[I" (.ref co) ∧ Fld Z h' o0 "com/example/nestor/nestor/engine/Index" "scratch" "[I" (.ref sc) ∧ Fld Z h' o0 "com/example/nestor/nestor/engine/Index" "groups" "I" (.int (0 : Int32)) ∧ Arv Z h' sl ksl .int (16 : Int32) (own_z16.map Value.int) (.int (0 : Int32)) ∧ Arv Z h' fi kfi .int (8 : Int32) (own_z8.map Value.int) (.int (0 : Int32)) ∧ Arv Z h' la kla .int (8 : Int32) (own_z8.map Value.int) (.int (0 : Int32)) ∧ Arv Z h' nx knx .int (16 : Int32) (own_z16.map Value.int) (.int (0 : Int32)) ∧ Arv Z h' co kco .int (1 : Int32) [(.int (0 : Int32))] (.int (0 : Int32)) ∧ Arv Z h' sc ksc .int (1 : Int32) [(.int (0 : Int32))] (.int (0 : Int32)) ∧ h0.size ≤ sl ∧ h0.size ≤ fi ∧ h0.size ≤ la ∧ h0.size ≤ nx ∧ h0.size ≤ co ∧ h0.size ≤ sc ∧ sl ≠ fi ∧ sl ≠ la ∧ sl ≠ nx ∧ sl ≠ co ∧ sl ≠ sc ∧ fi ≠ la ∧ fi ≠ nx ∧ fi ≠ co ∧ fi ≠ sc ∧ la ≠ nx ∧ la ≠ co ∧ la ≠ sc ∧ nx ≠ co ∧ nx ≠ sc ∧ co ≠ sc) T16 (mkF m 67 #[.val (.ref o0), .val (.ref o1), .val (.ref o2), .val (.int (0 : Int32))] [(.int (0 : Int32)), (.int (0 : Int32))])
  refine C16.icmp_ge d10_67 (by decide) (by decide : _ = 81) rfl (fun _ => ?_) (fun q => absurd q (by decide))
  exact C16.retV d10_81 rfl (by decide) (by decide) ⟨b2, b4, b6, b8, b11, b14, k2, k4, k6, k8, ko2, k14, rfl, KP, E_o0, F_o0_slots, F_o0_firsts, F_o0_lasts, F_o0_nexts, F_o0_relation, F_o0_columns, F_o0_scratch, F_o0_groups, V_b2, V_b4, V_b6, V_b8, V_b11, V_b14, sz_b2, sz_b4, sz_b6, sz_b8, sz_b11, sz_b14, ne_b2_b4, ne_b2_b6, ne_b2_b8, ne_b2_b11, ne_b2_b14, ne_b4_b6, ne_b4_b8, ne_b4_b11, ne_b4_b14, ne_b6_b8, ne_b6_b11, ne_b6_b14, ne_b8_b11, ne_b8_b14, ne_b11_b14⟩
theorem pn6 : plainName "com/example/nestor/nestor/engine/Relation" = true := by first | (simp [plainName, overriddenIn]; done) | decide +kernel
theorem pd6 : parseMethodDescriptor "()Lcom/example/nestor/nestor/engine/Index;" = some ⟨[], some (.object "com/example/nestor/nestor/engine/Index")⟩ := by decide +kernel
theorem ef6 (m : MethodId) (o0 : Addr) : entryFrame m #[(.ref o0)] 2 = mkF m 0 #[.val (.ref o0), .unset] [] := by first | (simp [entryFrame, mkF, argsToLocals, Value.category]; done) | rfl
theorem d6_0 : decode prog_26_method_8_code 0 = .ok (.aload_n 0, 1) := by decide +kernel
theorem d6_1 : decode prog_26_method_8_code 1 = .ok (.getfield 16, 3) := by decide +kernel
theorem d6_4 : decode prog_26_method_8_code 4 = .ok (.newarray .int, 2) := by decide +kernel
theorem d6_6 : decode prog_26_method_8_code 6 = .ok (.astore_n 1, 1) := by decide +kernel
theorem d6_7 : decode prog_26_method_8_code 7 = .ok (.aload_n 1, 1) := by decide +kernel
theorem d6_8 : decode prog_26_method_8_code 8 = .ok (.invokedynamic 98, 5) := by decide +kernel
theorem d6_13 : decode prog_26_method_8_code 13 = .ok (.invokestatic 102, 3) := by decide +kernel
theorem d6_16 : decode prog_26_method_8_code 16 = .ok (.new 78, 3) := by decide +kernel
theorem d6_19 : decode prog_26_method_8_code 19 = .ok (.dup, 1) := by decide +kernel
theorem d6_20 : decode prog_26_method_8_code 20 = .ok (.aload_n 0, 1) := by decide +kernel
theorem d6_21 : decode prog_26_method_8_code 21 = .ok (.aload_n 1, 1) := by decide +kernel
theorem d6_22 : decode prog_26_method_8_code 22 = .ok (.invokespecial 106, 3) := by decide +kernel
theorem d6_25 : decode prog_26_method_8_code 25 = .ok (.areturn, 1) := by decide +kernel
set_option maxRecDepth 65536 in
set_option maxHeartbeats 40000000 in
theorem rm6 (l : Launch) (Z : State) (a0 : Array Value) (hw : ∀ d ∈ tables_1, d.before a0 Z = true) (o0 : Addr) (lm : Addr) (h0 : Heap) (n0 : Nat) (Z0 : n0 ≤ h0.size) (E_o0 : Exa Z h0 o0 "com/example/nestor/nestor/engine/Relation") (F_o0_arity : Fld Z h0 o0 "com/example/nestor/nestor/engine/Relation" "arity" "I" (.int (1 : Int32))) (F_o0_size : Fld Z h0 o0 "com/example/nestor/nestor/engine/Relation" "size" "I" (.int (0 : Int32))) (L_lm : Lam.LamS Z h0 lm) (hlm : lm < n0) (hsite : Lam.Site Z (⟨"com/example/nestor/nestor/engine/Relation", "byEveryColumn", "()Lcom/example/nestor/nestor/engine/Index;"⟩ : MethodName) 8 lm) :
    Ctr l Z (⟨"com/example/nestor/nestor/engine/Relation", "byEveryColumn", "()Lcom/example/nestor/nestor/engine/Index;"⟩ : MethodName) prog_26_method_8_code 2 (some (.object "com/example/nestor/nestor/engine/Index")) ({ frames := 3, cells := 8, slots := 59, locals := 3073 } : Room) #[(.ref o0)] h0 n0 (fun v h' => ∃ ix : Addr, ∃ sl : Addr, ∃ fi : Addr, ∃ la : Addr, ∃ nx : Addr, ∃ co : Addr, ∃ sc : Addr, ∃ ksl : ClassId, ∃ kfi : ClassId, ∃ kla : ClassId, ∃ knx : ClassId, ∃ kco : ClassId, ∃ ksc : ClassId, v = some (.ref ix) ∧ Keep h0 h' [] ∧ Exa Z h' ix "com/example/nestor/nestor/engine/Index" ∧ Fld Z h' ix "com/example/nestor/nestor/engine/Index" "slots" "[I" (.ref sl) ∧ Fld Z h' ix "com/example/nestor/nestor/engine/Index" "firsts" "[I" (.ref fi) ∧ Fld Z h' ix "com/example/nestor/nestor/engine/Index" "lasts" "[I" (.ref la) ∧ Fld Z h' ix "com/example/nestor/nestor/engine/Index" "nexts" "[I" (.ref nx) ∧ Fld Z h' ix "com/example/nestor/nestor/engine/Index" "relation" "Lcom/example/nestor/nestor/engine/Relation;" (.ref o0) ∧ Fld Z h' ix "com/example/nestor/nestor/engine/Index" "columns" "[I" (.ref co) ∧ Fld Z h' ix "com/example/nestor/nestor/engine/Index" "scratch" "[I" (.ref sc) ∧ Fld Z h' ix "com/example/nestor/nestor/engine/Index" "groups" "I" (.int (0 : Int32)) ∧ Arv Z h' sl ksl .int (16 : Int32) (own_z16.map Value.int) (.int (0 : Int32)) ∧ Arv Z h' fi kfi .int (8 : Int32) (own_z8.map Value.int) (.int (0 : Int32)) ∧ Arv Z h' la kla .int (8 : Int32) (own_z8.map Value.int) (.int (0 : Int32)) ∧ Arv Z h' nx knx .int (16 : Int32) (own_z16.map Value.int) (.int (0 : Int32)) ∧ Arv Z h' co kco .int (1 : Int32) [(.int (0 : Int32))] (.int (0 : Int32)) ∧ Arv Z h' sc ksc .int (1 : Int32) [(.int (0 : Int32))] (.int (0 : Int32)) ∧ h0.size ≤ sl ∧ h0.size ≤ fi ∧ h0.size ≤ la ∧ h0.size ≤ nx ∧ h0.size ≤ co ∧ h0.size ≤ sc ∧ sl ≠ fi ∧ sl ≠ la ∧ sl ≠ nx ∧ sl ≠ co ∧ sl ≠ sc ∧ fi ≠ la ∧ fi ≠ nx ∧ fi ≠ co ∧ fi ≠ sc ∧ la ≠ nx ∧ la ≠ co ∧ la ≠ sc ∧ nx ≠ co ∧ nx ≠ sc ∧ co ≠ sc ∧ h0.size ≤ ix) := by
  refine Ctr.body (L := #[.val (.ref o0), .unset]) (plainFor_of_name pn6) Z0 (fun m => ef6 m o0) ?_
  intro p e F m below meth c T0 C0
  have KP : Keep h0 h0 [] := Keep.refl h0 _
  refine C0.aloadN d6_0 rfl rfl rfl ?_
  refine C0.getF (host := "") (Or.inl (hw _ (List.mem_of_getElem? (i := 35) rfl))) Via.refl F_o0_arity d6_1 rfl (fun T1 C1 => ?_)
  refine C1.newarrE (hw _ (List.mem_of_getElem? (i := 37) rfl)) 1 (by decide) (by decide) (by decide) (by decide) (by decide) (ad := "[I") rfl d6_4 rfl (fun T2 h2 b2 k2 C2 e2 g_b2 E2 V_b2 E_b2 => ?_)
  have ne_o0_b2 : o0 ≠ b2 := Nat.ne_of_lt (Nat.lt_of_lt_of_eq E_o0.lt e2.symm)
  have ne_lm_b2 : lm ≠ b2 := Nat.ne_of_lt (Nat.lt_of_lt_of_eq L_lm.lt e2.symm)
  have sz_b2 : h0.size ≤ b2 := Nat.le_trans KP.1 (Nat.le_of_eq e2.symm)
  have E_o0 := E_o0.ext E2
  have F_o0_arity := F_o0_arity.ext E2
  have F_o0_size := F_o0_size.ext E2
  have L_lm := L_lm.ext E2
  have KP := KP.ext E2
  have V_b2 : Arv Z h2 b2 k2 .int (1 : Int32) [(.int (0 : Int32))] (.int (0 : Int32)) := V_b2
  refine C2.astoreN d6_6 rfl rfl (L' := #[.val (.ref o0), .val (.ref b2)]) rfl ?_
  refine C2.aloadN d6_7 rfl rfl rfl ?_
  refine C2.lamConst hsite rfl (Nat.le_of_ble_eq_true rfl) d6_8 rfl ?_
  refine C2.callS (hw _ (List.mem_of_getElem? (i := 47) rfl)) (hw _ (List.mem_of_getElem? (i := 48) rfl)) (hw _ (List.mem_of_getElem? (i := 49) rfl)) (hw _ (List.mem_of_getElem? (i := 50) rfl)) (by decide) (rm7 l Z a0 hw b2 lm k2 h2 n0 C2.size V_b2 g_b2 L_lm hlm) (argsL := [(.ref b2), (.ref lm)]) pd7 rfl 0 (by decide) (by decide) (by decide) (by decide) (rest := []) rfl rfl (Nat.le_of_eq rfl) d6_13 rfl (fun v3 T3 h3 C3 qq3 => ?_)
  obtain ⟨rfl, K3, p3_0⟩ := qq3
  have E_o0 := E_o0.keep K3
  have F_o0_arity := F_o0_arity.keep K3 (ninS ne_o0_b2 nin0)
  have F_o0_size := F_o0_size.keep K3 (ninS ne_o0_b2 nin0)
  have L_lm := L_lm.keep K3 (ninS ne_lm_b2 nin0)
  have E_b2 := E_b2.keep K3
  have KP := KP.trans K3 (allS (Or.inr sz_b2) (all0))
  have V_b2 := p3_0
  show Go p e below F n0 (fun v h' => ∃ ix : Addr, ∃ sl : Addr, ∃ fi : Addr, ∃ la : Addr, ∃ nx : Addr, ∃ co : Addr, ∃ sc : Addr, ∃ ksl : ClassId, ∃ kfi : ClassId, ∃ kla : ClassId, ∃ knx : ClassId, ∃ kco : ClassId, ∃ ksc : ClassId, v = some (.ref ix) ∧ Keep h0 h' [] ∧ Exa Z h' ix "com/example/nestor/nestor/engine/Index" ∧ Fld Z h' ix "com/example/nestor/nestor/engine/Index" "slots" "[I" (.ref sl) ∧ Fld Z h' ix "com/example/nestor/nestor/engine/Index" "firsts" "[I" (.ref fi) ∧ Fld Z h' ix "com/example/nestor/nestor/engine/Index" "lasts" "[I" (.ref la) ∧ Fld Z h' ix "com/example/nestor/nestor/engine/Index" "nexts" "[I" (.ref nx) ∧ Fld Z h' ix "com/example/nestor/nestor/engine/Index" "relation" "Lcom/example/nestor/nestor/engine/Relation;" (.ref o0) ∧ Fld Z h' ix "com/example/nestor/nestor/engine/Index" "columns" "[I" (.ref co) ∧ Fld Z h' ix "com/example/nestor/nestor/engine/Index" "scratch" "[I" (.ref sc) ∧ Fld Z h' ix "com/example/nestor/nestor/engine/Index" "groups" "I" (.int (0 : Int32)) ∧ Arv Z h' sl ksl .int (16 : Int32) (own_z16.map Value.int) (.int (0 : Int32)) ∧ Arv Z h' fi kfi .int (8 : Int32) (own_z8.map Value.int) (.int (0 : Int32)) ∧ Arv Z h' la kla .int (8 : Int32) (own_z8.map Value.int) (.int (0 : Int32)) ∧ Arv Z h' nx knx .int (16 : Int32) (own_z16.map Value.int) (.int (0 : Int32)) ∧ Arv Z h' co kco .int (1 : Int32) [(.int (0 : Int32))] (.int (0 : Int32)) ∧ Arv Z h' sc ksc .int (1 : Int32) [(.int (0 : Int32))] (.int (0 : Int32)) ∧ h0.size ≤ sl ∧ h0.size ≤ fi ∧ h0.size ≤ la ∧ h0.size ≤ nx ∧ h0.size ≤ co ∧ h0.size ≤ sc ∧ sl ≠ fi ∧ sl ≠ la ∧ sl ≠ nx ∧ sl ≠ co ∧ sl ≠ sc ∧ fi ≠ la ∧ fi ≠ nx ∧ fi ≠ co ∧ fi ≠ sc ∧ la ≠ nx ∧ la ≠ co ∧ la ≠ sc ∧ nx ≠ co ∧ nx ≠ sc ∧ co ≠ sc ∧ h0.size ≤ ix) T3 (mkF m 16 #[.val (.ref o0), .val (.ref b2)] [])
  refine C3.new (hw _ (List.mem_of_getElem? (i := 60) rfl)) (hw _ (List.mem_of_getElem? (i := 61) rfl)) (hw _ (List.mem_of_getElem? (i := 62) rfl)) d6_16 rfl (by decide) (by decide) (fun T4 h4 b4 C4 e4 g_b4 E4 E_b4 D4 => ?_)
  have ne_o0_b4 : o0 ≠ b4 := Nat.ne_of_lt (Nat.lt_of_lt_of_eq E_o0.lt e4.symm)
  have ne_lm_b4 : lm ≠ b4 := Nat.ne_of_lt (Nat.lt_of_lt_of_eq L_lm.lt e4.symm)
  have ne_b2_b4 : b2 ≠ b4 := Nat.ne_of_lt (Nat.lt_of_lt_of_eq E_b2.lt e4.symm)
  have sz_b4 : h0.size ≤ b4 := Nat.le_trans KP.1 (Nat.le_of_eq e4.symm)
  have E_o0 := E_o0.ext E4
  have F_o0_arity := F_o0_arity.ext E4
  have F_o0_size := F_o0_size.ext E4
  have L_lm := L_lm.ext E4
  have E_b2 := E_b2.ext E4
  have V_b2 := V_b2.ext E4
  have KP := KP.ext E4
  have F_b4_slots : Fld Z h4 b4 "com/example/nestor/nestor/engine/Index" "slots" "[I" .null := D4 (Or.inl (hw _ (List.mem_of_getElem? (i := 68) rfl))) (ty := (.array .int)) (by decide)
  have F_b4_firsts : Fld Z h4 b4 "com/example/nestor/nestor/engine/Index" "firsts" "[I" .null := D4 (Or.inl (hw _ (List.mem_of_getElem? (i := 70) rfl))) (ty := (.array .int)) (by decide)
  have F_b4_lasts : Fld Z h4 b4 "com/example/nestor/nestor/engine/Index" "lasts" "[I" .null := D4 (Or.inl (hw _ (List.mem_of_getElem? (i := 72) rfl))) (ty := (.array .int)) (by decide)
  have F_b4_nexts : Fld Z h4 b4 "com/example/nestor/nestor/engine/Index" "nexts" "[I" .null := D4 (Or.inl (hw _ (List.mem_of_getElem? (i := 74) rfl))) (ty := (.array .int)) (by decide)
  have F_b4_relation : Fld Z h4 b4 "com/example/nestor/nestor/engine/Index" "relation" "Lcom/example/nestor/nestor/engine/Relation;" .null := D4 (Or.inr (hw _ (List.mem_of_getElem? (i := 76) rfl))) (ty := (.object "com/example/nestor/nestor/engine/Relation")) (by decide)
  have F_b4_columns : Fld Z h4 b4 "com/example/nestor/nestor/engine/Index" "columns" "[I" .null := D4 (Or.inr (hw _ (List.mem_of_getElem? (i := 87) rfl))) (ty := (.array .int)) (by decide)
  have F_b4_scratch : Fld Z h4 b4 "com/example/nestor/nestor/engine/Index" "scratch" "[I" .null := D4 (Or.inr (hw _ (List.mem_of_getElem? (i := 89) rfl))) (ty := (.array .int)) (by decide)
  have F_b4_groups : Fld Z h4 b4 "com/example/nestor/nestor/engine/Index" "groups" "I" (.int (0 : Int32)) := D4 (Or.inl (hw _ (List.mem_of_getElem? (i := 233) rfl))) (ty := .int) (by decide)
  refine C4.dup d6_19 rfl rfl ?_
  refine C4.aloadN d6_20 rfl rfl rfl ?_
  refine C4.aloadN d6_21 rfl rfl rfl ?_
  refine C4.callN rfl (hw _ (List.mem_of_getElem? (i := 63) rfl)) (hw _ (List.mem_of_getElem? (i := 64) rfl)) (hw _ (List.mem_of_getElem? (i := 62) rfl)) (hw _ (List.mem_of_getElem? (i := 65) rfl)) (by decide) (a := b4) (rm10 l Z a0 hw b4 o0 b2 .null .null .null .null .null .null .null k2 h4 n0 C4.size E_b4 F_b4_slots F_b4_firsts F_b4_lasts F_b4_nexts F_b4_relation F_b4_columns F_b4_scratch F_b4_groups g_b4 E_o0 F_o0_size V_b2 E_b2) (argsL := [(.ref o0), (.ref b2)]) pd10 rfl 1 (by decide) (by decide) (by decide) (by decide) (rest := [(.ref b4)]) rfl rfl (Nat.le_of_eq rfl) d6_22 rfl (fun v5 T5 h5 C5 qq5 => ?_)
  obtain ⟨sl5, fi5, la5, nx5, co5, sc5, ksl5, kfi5, kla5, knx5, kco5, ksc5, rfl, K5, p5_0, p5_1, p5_2, p5_3, p5_4, p5_5, p5_6, p5_7, p5_8, p5_9, p5_10, p5_11, p5_12, p5_13, p5_14, p5_15, p5_16, p5_17, p5_18, p5_19, p5_20, p5_21, p5_22, p5_23, p5_24, p5_25, p5_26, p5_27, p5_28, p5_29, p5_30, p5_31, p5_32, p5_33, p5_34, p5_35⟩ := qq5
  have ne_o0_sl5 : o0 ≠ sl5 := Nat.ne_of_lt (Nat.lt_of_lt_of_le E_o0.lt p5_15)
  have ne_lm_sl5 : lm ≠ sl5 := Nat.ne_of_lt (Nat.lt_of_lt_of_le L_lm.lt p5_15)
  have ne_b2_sl5 : b2 ≠ sl5 := Nat.ne_of_lt (Nat.lt_of_lt_of_le E_b2.lt p5_15)
  have ne_b4_sl5 : b4 ≠ sl5 := Nat.ne_of_lt (Nat.lt_of_lt_of_le E_b4.lt p5_15)
  have sz_sl5 : h0.size ≤ sl5 := Nat.le_trans KP.1 p5_15
  have g_sl5 : n0 ≤ sl5 := Nat.le_trans C4.size p5_15
  have ne_o0_fi5 : o0 ≠ fi5 := Nat.ne_of_lt (Nat.lt_of_lt_of_le E_o0.lt p5_16)
  have ne_lm_fi5 : lm ≠ fi5 := Nat.ne_of_lt (Nat.lt_of_lt_of_le L_lm.lt p5_16)
  have ne_b2_fi5 : b2 ≠ fi5 := Nat.ne_of_lt (Nat.lt_of_lt_of_le E_b2.lt p5_16)
  have ne_b4_fi5 : b4 ≠ fi5 := Nat.ne_of_lt (Nat.lt_of_lt_of_le E_b4.lt p5_16)
  have sz_fi5 : h0.size ≤ fi5 := Nat.le_trans KP.1 p5_16
  have g_fi5 : n0 ≤ fi5 := Nat.le_trans C4.size p5_16
  have ne_o0_la5 : o0 ≠ la5 := Nat.ne_of_lt (Nat.lt_of_lt_of_le E_o0.lt p5_17)
  have ne_lm_la5 : lm ≠ la5 := Nat.ne_of_lt (Nat.lt_of_lt_of_le L_lm.lt p5_17)
  have ne_b2_la5 : b2 ≠ la5 := Nat.ne_of_lt (Nat.lt_of_lt_of_le E_b2.lt p5_17)
  have ne_b4_la5 : b4 ≠ la5 := Nat.ne_of_lt (Nat.lt_of_lt_of_le E_b4.lt p5_17)
  have sz_la5 : h0.size ≤ la5 := Nat.le_trans KP.1 p5_17
  have g_la5 : n0 ≤ la5 := Nat.le_trans C4.size p5_17
  have ne_o0_nx5 : o0 ≠ nx5 := Nat.ne_of_lt (Nat.lt_of_lt_of_le E_o0.lt p5_18)
  have ne_lm_nx5 : lm ≠ nx5 := Nat.ne_of_lt (Nat.lt_of_lt_of_le L_lm.lt p5_18)
  have ne_b2_nx5 : b2 ≠ nx5 := Nat.ne_of_lt (Nat.lt_of_lt_of_le E_b2.lt p5_18)
  have ne_b4_nx5 : b4 ≠ nx5 := Nat.ne_of_lt (Nat.lt_of_lt_of_le E_b4.lt p5_18)
  have sz_nx5 : h0.size ≤ nx5 := Nat.le_trans KP.1 p5_18
  have g_nx5 : n0 ≤ nx5 := Nat.le_trans C4.size p5_18
  have ne_o0_co5 : o0 ≠ co5 := Nat.ne_of_lt (Nat.lt_of_lt_of_le E_o0.lt p5_19)
  have ne_lm_co5 : lm ≠ co5 := Nat.ne_of_lt (Nat.lt_of_lt_of_le L_lm.lt p5_19)
  have ne_b2_co5 : b2 ≠ co5 := Nat.ne_of_lt (Nat.lt_of_lt_of_le E_b2.lt p5_19)
  have ne_b4_co5 : b4 ≠ co5 := Nat.ne_of_lt (Nat.lt_of_lt_of_le E_b4.lt p5_19)
  have sz_co5 : h0.size ≤ co5 := Nat.le_trans KP.1 p5_19
  have g_co5 : n0 ≤ co5 := Nat.le_trans C4.size p5_19
  have ne_o0_sc5 : o0 ≠ sc5 := Nat.ne_of_lt (Nat.lt_of_lt_of_le E_o0.lt p5_20)
  have ne_lm_sc5 : lm ≠ sc5 := Nat.ne_of_lt (Nat.lt_of_lt_of_le L_lm.lt p5_20)
  have ne_b2_sc5 : b2 ≠ sc5 := Nat.ne_of_lt (Nat.lt_of_lt_of_le E_b2.lt p5_20)
  have ne_b4_sc5 : b4 ≠ sc5 := Nat.ne_of_lt (Nat.lt_of_lt_of_le E_b4.lt p5_20)
  have sz_sc5 : h0.size ≤ sc5 := Nat.le_trans KP.1 p5_20
  have g_sc5 : n0 ≤ sc5 := Nat.le_trans C4.size p5_20
  have E_o0 := E_o0.keep K5
  have F_o0_arity := F_o0_arity.keep K5 (ninS ne_o0_b4 nin0)
  have F_o0_size := F_o0_size.keep K5 (ninS ne_o0_b4 nin0)
  have L_lm := L_lm.keep K5 (ninS ne_lm_b4 nin0)
  have E_b2 := E_b2.keep K5
  have V_b2 := V_b2.keep K5 (ninS ne_b2_b4 nin0)
  have E_b4 := E_b4.keep K5
  have KP := KP.trans K5 (allS (Or.inr sz_b4) (all0))
  have E_b4 := p5_0
  have F_b4_slots := p5_1
  have F_b4_firsts := p5_2
  have F_b4_lasts := p5_3
  have F_b4_nexts := p5_4
  have F_b4_relation := p5_5
  have F_b4_columns := p5_6
  have F_b4_scratch := p5_7
  have F_b4_groups := p5_8
  have V_sl5 := p5_9
  have V_fi5 := p5_10
  have V_la5 := p5_11
  have V_nx5 := p5_12
  have V_co5 := p5_13
  have V_sc5 := p5_14
  have ne_sl5_fi5 := p5_21
  have ne_sl5_la5 := p5_22
  have ne_sl5_nx5 := p5_23
  have ne_sl5_co5 := p5_24
  have ne_sl5_sc5 := p5_25
  have ne_fi5_la5 := p5_26
  have ne_fi5_nx5 := p5_27
  have ne_fi5_co5 := p5_28
  have ne_fi5_sc5 := p5_29
  have ne_la5_nx5 := p5_30
  have ne_la5_co5 := p5_31
  have ne_la5_sc5 := p5_32
  have ne_nx5_co5 := p5_33
  have ne_nx5_sc5 := p5_34
  have ne_co5_sc5 := p5_35
  show Go p e below F n0 (fun v h' => ∃ ix : Addr, ∃ sl : Addr, ∃ fi : Addr, ∃ la : Addr, ∃ nx : Addr, ∃ co : Addr, ∃ sc : Addr, ∃ ksl : ClassId, ∃ kfi : ClassId, ∃ kla : ClassId, ∃ knx : ClassId, ∃ kco : ClassId, ∃ ksc : ClassId, v = some (.ref ix) ∧ Keep h0 h' [] ∧ Exa Z h' ix "com/example/nestor/nestor/engine/Index" ∧ Fld Z h' ix "com/example/nestor/nestor/engine/Index" "slots" "[I" (.ref sl) ∧ Fld Z h' ix "com/example/nestor/nestor/engine/Index" "firsts" "[I" (.ref fi) ∧ Fld Z h' ix "com/example/nestor/nestor/engine/Index" "lasts" "[I" (.ref la) ∧ Fld Z h' ix "com/example/nestor/nestor/engine/Index" "nexts" "[I" (.ref nx) ∧ Fld Z h' ix "com/example/nestor/nestor/engine/Index" "relation" "Lcom/example/nestor/nestor/engine/Relation;" (.ref o0) ∧ Fld Z h' ix "com/example/nestor/nestor/engine/Index" "columns" "[I" (.ref co) ∧ Fld Z h' ix "com/example/nestor/nestor/engine/Index" "scratch" "[I" (.ref sc) ∧ Fld Z h' ix "com/example/nestor/nestor/engine/Index" "groups" "I" (.int (0 : Int32)) ∧ Arv Z h' sl ksl .int (16 : Int32) (own_z16.map Value.int) (.int (0 : Int32)) ∧ Arv Z h' fi kfi .int (8 : Int32) (own_z8.map Value.int) (.int (0 : Int32)) ∧ Arv Z h' la kla .int (8 : Int32) (own_z8.map Value.int) (.int (0 : Int32)) ∧ Arv Z h' nx knx .int (16 : Int32) (own_z16.map Value.int) (.int (0 : Int32)) ∧ Arv Z h' co kco .int (1 : Int32) [(.int (0 : Int32))] (.int (0 : Int32)) ∧ Arv Z h' sc ksc .int (1 : Int32) [(.int (0 : Int32))] (.int (0 : Int32)) ∧ h0.size ≤ sl ∧ h0.size ≤ fi ∧ h0.size ≤ la ∧ h0.size ≤ nx ∧ h0.size ≤ co ∧ h0.size ≤ sc ∧ sl ≠ fi ∧ sl ≠ la ∧ sl ≠ nx ∧ sl ≠ co ∧ sl ≠ sc ∧ fi ≠ la ∧ fi ≠ nx ∧ fi ≠ co ∧ fi ≠ sc ∧ la ≠ nx ∧ la ≠ co ∧ la ≠ sc ∧ nx ≠ co ∧ nx ≠ sc ∧ co ≠ sc ∧ h0.size ≤ ix) T5 (mkF m 25 #[.val (.ref o0), .val (.ref b2)] [(.ref b4)])
  exact C5.retA d6_25 rfl rfl rfl (by decide) (by decide) ⟨b4, sl5, fi5, la5, nx5, co5, sc5, ksl5, kfi5, kla5, knx5, kco5, ksc5, rfl, KP, E_b4, F_b4_slots, F_b4_firsts, F_b4_lasts, F_b4_nexts, F_b4_relation, F_b4_columns, F_b4_scratch, F_b4_groups, V_sl5, V_fi5, V_la5, V_nx5, V_co5, V_sc5, sz_sl5, sz_fi5, sz_la5, sz_nx5, sz_co5, sz_sc5, ne_sl5_fi5, ne_sl5_la5, ne_sl5_nx5, ne_sl5_co5, ne_sl5_sc5, ne_fi5_la5, ne_fi5_nx5, ne_fi5_co5, ne_fi5_sc5, ne_la5_nx5, ne_la5_co5, ne_la5_sc5, ne_nx5_co5, ne_nx5_sc5, ne_co5_sc5, sz_b4⟩
theorem pn1 : plainName "com/example/nestor/nestor/engine/Relation" = true := by first | (simp [plainName, overriddenIn]; done) | decide +kernel
theorem pd1 : parseMethodDescriptor "(I)V" = some ⟨[.int], none⟩ := by decide +kernel
theorem ef1 (m : MethodId) (o0 : Addr) (i1 : Int32) : entryFrame m #[(.ref o0), (.int i1)] 2 = mkF m 0 #[.val (.ref o0), .val (.int i1)] [] := by first | (simp [entryFrame, mkF, argsToLocals, Value.category]; done) | rfl
theorem d1_0 : decode prog_26_method_1_code 0 = .ok (.aload_n 0, 1) := by decide +kernel
theorem d1_1 : decode prog_26_method_1_code 1 = .ok (.invokespecial 1, 3) := by decide +kernel
theorem d1_4 : decode prog_26_method_1_code 4 = .ok (.aload_n 0, 1) := by decide +kernel
theorem d1_5 : decode prog_26_method_1_code 5 = .ok (.new 7, 3) := by decide +kernel
theorem d1_8 : decode prog_26_method_1_code 8 = .ok (.dup, 1) := by decide +kernel
theorem d1_9 : decode prog_26_method_1_code 9 = .ok (.invokespecial 9, 3) := by decide +kernel
theorem d1_12 : decode prog_26_method_1_code 12 = .ok (.putfield 10, 3) := by decide +kernel
theorem d1_15 : decode prog_26_method_1_code 15 = .ok (.aload_n 0, 1) := by decide +kernel
theorem d1_16 : decode prog_26_method_1_code 16 = .ok (.iload_n 1, 1) := by decide +kernel
theorem d1_17 : decode prog_26_method_1_code 17 = .ok (.putfield 16, 3) := by decide +kernel
theorem d1_20 : decode prog_26_method_1_code 20 = .ok (.aload_n 0, 1) := by decide +kernel
theorem d1_21 : decode prog_26_method_1_code 21 = .ok (.iload_n 1, 1) := by decide +kernel
theorem d1_22 : decode prog_26_method_1_code 22 = .ok (.bipush 16, 2) := by decide +kernel
theorem d1_24 : decode prog_26_method_1_code 24 = .ok (.imul, 1) := by decide +kernel
theorem d1_25 : decode prog_26_method_1_code 25 = .ok (.newarray .int, 2) := by decide +kernel
theorem d1_27 : decode prog_26_method_1_code 27 = .ok (.putfield 20, 3) := by decide +kernel
theorem d1_30 : decode prog_26_method_1_code 30 = .ok (.aload_n 0, 1) := by decide +kernel
theorem d1_31 : decode prog_26_method_1_code 31 = .ok (.aload_n 0, 1) := by decide +kernel
theorem d1_32 : decode prog_26_method_1_code 32 = .ok (.invokevirtual 24, 3) := by decide +kernel
theorem d1_35 : decode prog_26_method_1_code 35 = .ok (.putfield 28, 3) := by decide +kernel
theorem d1_38 : decode prog_26_method_1_code 38 = .ok (.aload_n 0, 1) := by decide +kernel
theorem d1_39 : decode prog_26_method_1_code 39 = .ok (.getfield 10, 3) := by decide +kernel
theorem d1_42 : decode prog_26_method_1_code 42 = .ok (.aload_n 0, 1) := by decide +kernel
theorem d1_43 : decode prog_26_method_1_code 43 = .ok (.getfield 28, 3) := by decide +kernel
theorem d1_46 : decode prog_26_method_1_code 46 = .ok (.invokeinterface 32 2, 5) := by decide +kernel
theorem d1_51 : decode prog_26_method_1_code 51 = .ok (.pop, 1) := by decide +kernel
theorem d1_52 : decode prog_26_method_1_code 52 = .ok (.return_, 1) := by decide +kernel
set_option maxRecDepth 65536 in
set_option maxHeartbeats 40000000 in
theorem rm1 (l : Launch) (Z : State) (a0 : Array Value) (hw : ∀ d ∈ tables_1, d.before a0 Z = true) (o0 : Addr) (i1 : Int32) (de : Addr) (lm : Addr) (kde : ClassId) (x0 : Value) (x1 : Value) (x2 : Value) (x3 : Value) (h0 : Heap) (n0 : Nat) (Z0 : n0 ≤ h0.size) (E_o0 : Exa Z h0 o0 "com/example/nestor/nestor/engine/Relation") (F_o0_indexes : Fld Z h0 o0 "com/example/nestor/nestor/engine/Relation" "indexes" "Ljava/util/List;" x0) (F_o0_arity : Fld Z h0 o0 "com/example/nestor/nestor/engine/Relation" "arity" "I" x1) (F_o0_cells : Fld Z h0 o0 "com/example/nestor/nestor/engine/Relation" "cells" "[I" x2) (F_o0_unique : Fld Z h0 o0 "com/example/nestor/nestor/engine/Relation" "unique" "Lcom/example/nestor/nestor/engine/Index;" x3) (F_o0_size : Fld Z h0 o0 "com/example/nestor/nestor/engine/Relation" "size" "I" (.int (0 : Int32))) (F_o0_source : Fld Z h0 o0 "com/example/nestor/nestor/engine/Relation" "source" "Lcom/example/nestor/nestor/engine/Relation;" .null) (F_o0_deltaStart : Fld Z h0 o0 "com/example/nestor/nestor/engine/Relation" "deltaStart" "I" (.int (0 : Int32))) (F_o0_deltaEnd : Fld Z h0 o0 "com/example/nestor/nestor/engine/Relation" "deltaEnd" "I" (.int (0 : Int32))) (g_o0 : n0 ≤ o0) (hi1 : i1 = (1 : Int32)) (S_DEFAULTCAPACITY_EMPTY_ELEMENTDATA : Sta Z h0 "java/util/ArrayList" "DEFAULTCAPACITY_EMPTY_ELEMENTDATA" "[Ljava/lang/Object;" (.ref de)) (V_de : Arv Z h0 de kde (.object "java/lang/Object") (0 : Int32) [] .null) (hde : de < n0) (L_lm : Lam.LamS Z h0 lm) (hlm : lm < n0) (hsite : Lam.Site Z (⟨"com/example/nestor/nestor/engine/Relation", "byEveryColumn", "()Lcom/example/nestor/nestor/engine/Index;"⟩ : MethodName) 8 lm) :
    Ctr l Z (⟨"com/example/nestor/nestor/engine/Relation", "<init>", "(I)V"⟩ : MethodName) prog_26_method_1_code 2 none ({ frames := 5, cells := 11, slots := 88, locals := 3087 } : Room) #[(.ref o0), (.int i1)] h0 n0 (fun v h' => ∃ al : Addr, ∃ ce : Addr, ∃ ix : Addr, ∃ ed : Addr, ∃ sl : Addr, ∃ fi : Addr, ∃ la : Addr, ∃ nx : Addr, ∃ co : Addr, ∃ sc : Addr, ∃ kce : ClassId, ∃ ked : ClassId, ∃ ksl : ClassId, ∃ kfi : ClassId, ∃ kla : ClassId, ∃ knx : ClassId, ∃ kco : ClassId, ∃ ksc : ClassId, v = none ∧ Keep h0 h' [o0] ∧ Exa Z h' o0 "com/example/nestor/nestor/engine/Relation" ∧ Fld Z h' o0 "com/example/nestor/nestor/engine/Relation" "indexes" "Ljava/util/List;" (.ref al) ∧ Fld Z h' o0 "com/example/nestor/nestor/engine/Relation" "arity" "I" (.int (1 : Int32)) ∧ Fld Z h' o0 "com/example/nestor/nestor/engine/Relation" "cells" "[I" (.ref ce) ∧ Fld Z h' o0 "com/example/nestor/nestor/engine/Relation" "unique" "Lcom/example/nestor/nestor/engine/Index;" (.ref ix) ∧ Fld Z h' o0 "com/example/nestor/nestor/engine/Relation" "size" "I" (.int (0 : Int32)) ∧ Fld Z h' o0 "com/example/nestor/nestor/engine/Relation" "source" "Lcom/example/nestor/nestor/engine/Relation;" .null ∧ Fld Z h' o0 "com/example/nestor/nestor/engine/Relation" "deltaStart" "I" (.int (0 : Int32)) ∧ Fld Z h' o0 "com/example/nestor/nestor/engine/Relation" "deltaEnd" "I" (.int (0 : Int32)) ∧ Exa Z h' ix "com/example/nestor/nestor/engine/Index" ∧ Fld Z h' ix "com/example/nestor/nestor/engine/Index" "slots" "[I" (.ref sl) ∧ Fld Z h' ix "com/example/nestor/nestor/engine/Index" "firsts" "[I" (.ref fi) ∧ Fld Z h' ix "com/example/nestor/nestor/engine/Index" "lasts" "[I" (.ref la) ∧ Fld Z h' ix "com/example/nestor/nestor/engine/Index" "nexts" "[I" (.ref nx) ∧ Fld Z h' ix "com/example/nestor/nestor/engine/Index" "relation" "Lcom/example/nestor/nestor/engine/Relation;" (.ref o0) ∧ Fld Z h' ix "com/example/nestor/nestor/engine/Index" "columns" "[I" (.ref co) ∧ Fld Z h' ix "com/example/nestor/nestor/engine/Index" "scratch" "[I" (.ref sc) ∧ Fld Z h' ix "com/example/nestor/nestor/engine/Index" "groups" "I" (.int (0 : Int32)) ∧ Exa Z h' al "java/util/ArrayList" ∧ Fld Z h' al "java/util/AbstractList" "modCount" "I" (.int (1 : Int32)) ∧ Fld Z h' al "java/util/ArrayList" "elementData" "[Ljava/lang/Object;" (.ref ed) ∧ Fld Z h' al "java/util/ArrayList" "size" "I" (.int (1 : Int32)) ∧ Arv Z h' sl ksl .int (16 : Int32) (own_z16.map Value.int) (.int (0 : Int32)) ∧ Arv Z h' fi kfi .int (8 : Int32) (own_z8.map Value.int) (.int (0 : Int32)) ∧ Arv Z h' la kla .int (8 : Int32) (own_z8.map Value.int) (.int (0 : Int32)) ∧ Arv Z h' nx knx .int (16 : Int32) (own_z16.map Value.int) (.int (0 : Int32)) ∧ Arv Z h' co kco .int (1 : Int32) [(.int (0 : Int32))] (.int (0 : Int32)) ∧ Arv Z h' sc ksc .int (1 : Int32) [(.int (0 : Int32))] (.int (0 : Int32)) ∧ Arv Z h' ce kce .int (16 : Int32) (own_z16.map Value.int) (.int (0 : Int32)) ∧ Exa Z h' ed "[Ljava/lang/Object;" ∧ Arv Z h' ed ked (.object "java/lang/Object") (10 : Int32) [(.ref ix), .null, .null, .null, .null, .null, .null, .null, .null, .null] .null ∧ Ovr Z ked "java/lang/Object" ∧ h0.size ≤ sl ∧ h0.size ≤ fi ∧ h0.size ≤ la ∧ h0.size ≤ nx ∧ h0.size ≤ co ∧ h0.size ≤ sc ∧ h0.size ≤ ce ∧ h0.size ≤ ed ∧ h0.size ≤ ix ∧ h0.size ≤ al ∧ sl ≠ fi ∧ sl ≠ la ∧ sl ≠ nx ∧ sl ≠ co ∧ sl ≠ sc ∧ sl ≠ ce ∧ sl ≠ ed ∧ fi ≠ la ∧ fi ≠ nx ∧ fi ≠ co ∧ fi ≠ sc ∧ fi ≠ ce ∧ fi ≠ ed ∧ la ≠ nx ∧ la ≠ co ∧ la ≠ sc ∧ la ≠ ce ∧ la ≠ ed ∧ nx ≠ co ∧ nx ≠ sc ∧ nx ≠ ce ∧ nx ≠ ed ∧ co ≠ sc ∧ co ≠ ce ∧ co ≠ ed ∧ sc ≠ ce ∧ sc ≠ ed ∧ ce ≠ ed ∧ own_Inv (0 : Int32) (0 : Int32) own_z16 own_z8 own_z8 own_z16 ∧ own_z16.length = 16) := by
  refine Ctr.body (L := #[.val (.ref o0), .val (.int i1)]) (plainFor_of_name pn1) Z0 (fun m => ef1 m o0 i1) ?_
  intro p e F m below meth c T0 C0
  have KP : Keep h0 h0 [o0] := Keep.refl h0 _
  subst hi1
  refine C0.aloadN d1_0 rfl rfl rfl ?_
  refine C0.initObj (hw _ (List.mem_of_getElem? (i := 6) rfl)) (hw _ (List.mem_of_getElem? (i := 7) rfl)) (hw _ (List.mem_of_getElem? (i := 8) rfl)) rfl (by decide) 0 (Nat.le_of_eq rfl) (by decide) d1_1 rfl (fun T1 C1 => ?_)
  refine C1.aloadN d1_4 rfl rfl rfl ?_
  refine C1.new (hw _ (List.mem_of_getElem? (i := 9) rfl)) (hw _ (List.mem_of_getElem? (i := 10) rfl)) (hw _ (List.mem_of_getElem? (i := 11) rfl)) d1_5 rfl (by decide) (by decide) (fun T2 h2 b2 C2 e2 g_b2 E2 E_b2 D2 => ?_)
  have ne_o0_b2 : o0 ≠ b2 := Nat.ne_of_lt (Nat.lt_of_lt_of_eq E_o0.lt e2.symm)
  have ne_de_b2 : de ≠ b2 := Nat.ne_of_lt (Nat.lt_of_lt_of_eq V_de.lt e2.symm)
  have ne_lm_b2 : lm ≠ b2 := Nat.ne_of_lt (Nat.lt_of_lt_of_eq L_lm.lt e2.symm)
  have sz_b2 : h0.size ≤ b2 := Nat.le_trans KP.1 (Nat.le_of_eq e2.symm)
  have E_o0 := E_o0.ext E2
  have F_o0_indexes := F_o0_indexes.ext E2
  have F_o0_arity := F_o0_arity.ext E2
  have F_o0_cells := F_o0_cells.ext E2
  have F_o0_unique := F_o0_unique.ext E2
  have F_o0_size := F_o0_size.ext E2
  have F_o0_source := F_o0_source.ext E2
  have F_o0_deltaStart := F_o0_deltaStart.ext E2
  have F_o0_deltaEnd := F_o0_deltaEnd.ext E2
  have S_DEFAULTCAPACITY_EMPTY_ELEMENTDATA := S_DEFAULTCAPACITY_EMPTY_ELEMENTDATA.ext E2
  have V_de := V_de.ext E2
  have L_lm := L_lm.ext E2
  have KP := KP.ext E2
  have F_b2_modCount : Fld Z h2 b2 "java/util/AbstractList" "modCount" "I" (.int (0 : Int32)) := D2 (Or.inl (hw _ (List.mem_of_getElem? (i := 29) rfl))) (ty := .int) (by decide)
  have F_b2_elementData : Fld Z h2 b2 "java/util/ArrayList" "elementData" "[Ljava/lang/Object;" .null := D2 (Or.inl (hw _ (List.mem_of_getElem? (i := 32) rfl))) (ty := (.array (.object "java/lang/Object"))) (by decide)
  have F_b2_size : Fld Z h2 b2 "java/util/ArrayList" "size" "I" (.int (0 : Int32)) := D2 (Or.inl (hw _ (List.mem_of_getElem? (i := 111) rfl))) (ty := .int) (by decide)
  refine C2.dup d1_8 rfl rfl ?_
  refine C2.callN rfl (hw _ (List.mem_of_getElem? (i := 12) rfl)) (hw _ (List.mem_of_getElem? (i := 13) rfl)) (hw _ (List.mem_of_getElem? (i := 11) rfl)) (hw _ (List.mem_of_getElem? (i := 14) rfl)) (by decide) (a := b2) (rm3 l Z a0 hw b2 de (.int (0 : Int32)) .null (.int (0 : Int32)) h2 n0 C2.size E_b2 F_b2_modCount F_b2_elementData F_b2_size g_b2 S_DEFAULTCAPACITY_EMPTY_ELEMENTDATA) (argsL := []) pd3 rfl 2 (by decide) (by decide) (by decide) (by decide) (rest := [(.ref b2), (.ref o0)]) rfl rfl (Nat.le_of_eq rfl) d1_9 rfl (fun v3 T3 h3 C3 qq3 => ?_)
  obtain ⟨rfl, K3, p3_0, p3_1, p3_2, p3_3⟩ := qq3
  have S_DEFAULTCAPACITY_EMPTY_ELEMENTDATA := own_stak S_DEFAULTCAPACITY_EMPTY_ELEMENTDATA K3 (allS (own_plainE E_b2) (all0))
  have E_o0 := E_o0.keep K3
  have F_o0_indexes := F_o0_indexes.keep K3 (ninS ne_o0_b2 nin0)
  have F_o0_arity := F_o0_arity.keep K3 (ninS ne_o0_b2 nin0)
  have F_o0_cells := F_o0_cells.keep K3 (ninS ne_o0_b2 nin0)
  have F_o0_unique := F_o0_unique.keep K3 (ninS ne_o0_b2 nin0)
  have F_o0_size := F_o0_size.keep K3 (ninS ne_o0_b2 nin0)
  have F_o0_source := F_o0_source.keep K3 (ninS ne_o0_b2 nin0)
  have F_o0_deltaStart := F_o0_deltaStart.keep K3 (ninS ne_o0_b2 nin0)
  have F_o0_deltaEnd := F_o0_deltaEnd.keep K3 (ninS ne_o0_b2 nin0)
  have V_de := V_de.keep K3 (ninS ne_de_b2 nin0)
  have L_lm := L_lm.keep K3 (ninS ne_lm_b2 nin0)
  have E_b2 := E_b2.keep K3
  have KP := KP.trans K3 (allS (Or.inr sz_b2) (all0))
  have E_b2 := p3_0
  have F_b2_modCount := p3_1
  have F_b2_elementData := p3_2
  have F_b2_size := p3_3
  show Go p e below F n0 (fun v h' => ∃ al : Addr, ∃ ce : Addr, ∃ ix : Addr, ∃ ed : Addr, ∃ sl : Addr, ∃ fi : Addr, ∃ la : Addr, ∃ nx : Addr, ∃ co : Addr, ∃ sc : Addr, ∃ kce : ClassId, ∃ ked : ClassId, ∃ ksl : ClassId, ∃ kfi : ClassId, ∃ kla : ClassId, ∃ knx : ClassId, ∃ kco : ClassId, ∃ ksc : ClassId, v = none ∧ Keep h0 h' [o0] ∧ Exa Z h' o0 "com/example/nestor/nestor/engine/Relation" ∧ Fld Z h' o0 "com/example/nestor/nestor/engine/Relation" "indexes" "Ljava/util/List;" (.ref al) ∧ Fld Z h' o0 "com/example/nestor/nestor/engine/Relation" "arity" "I" (.int (1 : Int32)) ∧ Fld Z h' o0 "com/example/nestor/nestor/engine/Relation" "cells" "[I" (.ref ce) ∧ Fld Z h' o0 "com/example/nestor/nestor/engine/Relation" "unique" "Lcom/example/nestor/nestor/engine/Index;" (.ref ix) ∧ Fld Z h' o0 "com/example/nestor/nestor/engine/Relation" "size" "I" (.int (0 : Int32)) ∧ Fld Z h' o0 "com/example/nestor/nestor/engine/Relation" "source" "Lcom/example/nestor/nestor/engine/Relation;" .null ∧ Fld Z h' o0 "com/example/nestor/nestor/engine/Relation" "deltaStart" "I" (.int (0 : Int32)) ∧ Fld Z h' o0 "com/example/nestor/nestor/engine/Relation" "deltaEnd" "I" (.int (0 : Int32)) ∧ Exa Z h' ix "com/example/nestor/nestor/engine/Index" ∧ Fld Z h' ix "com/example/nestor/nestor/engine/Index" "slots" "[I" (.ref sl) ∧ Fld Z h' ix "com/example/nestor/nestor/engine/Index" "firsts" "[I" (.ref fi) ∧ Fld Z h' ix "com/example/nestor/nestor/engine/Index" "lasts" "[I" (.ref la) ∧ Fld Z h' ix "com/example/nestor/nestor/engine/Index" "nexts" "[I" (.ref nx) ∧ Fld Z h' ix "com/example/nestor/nestor/engine/Index" "relation" "Lcom/example/nestor/nestor/engine/Relation;" (.ref o0) ∧ Fld Z h' ix "com/example/nestor/nestor/engine/Index" "columns" "[I" (.ref co) ∧ Fld Z h' ix "com/example/nestor/nestor/engine/Index" "scratch" "[I" (.ref sc) ∧ Fld Z h' ix "com/example/nestor/nestor/engine/Index" "groups" "I" (.int (0 : Int32)) ∧ Exa Z h' al "java/util/ArrayList" ∧ Fld Z h' al "java/util/AbstractList" "modCount" "I" (.int (1 : Int32)) ∧ Fld Z h' al "java/util/ArrayList" "elementData" "[Ljava/lang/Object;" (.ref ed) ∧ Fld Z h' al "java/util/ArrayList" "size" "I" (.int (1 : Int32)) ∧ Arv Z h' sl ksl .int (16 : Int32) (own_z16.map Value.int) (.int (0 : Int32)) ∧ Arv Z h' fi kfi .int (8 : Int32) (own_z8.map Value.int) (.int (0 : Int32)) ∧ Arv Z h' la kla .int (8 : Int32) (own_z8.map Value.int) (.int (0 : Int32)) ∧ Arv Z h' nx knx .int (16 : Int32) (own_z16.map Value.int) (.int (0 : Int32)) ∧ Arv Z h' co kco .int (1 : Int32) [(.int (0 : Int32))] (.int (0 : Int32)) ∧ Arv Z h' sc ksc .int (1 : Int32) [(.int (0 : Int32))] (.int (0 : Int32)) ∧ Arv Z h' ce kce .int (16 : Int32) (own_z16.map Value.int) (.int (0 : Int32)) ∧ Exa Z h' ed "[Ljava/lang/Object;" ∧ Arv Z h' ed ked (.object "java/lang/Object") (10 : Int32) [(.ref ix), .null, .null, .null, .null, .null, .null, .null, .null, .null] .null ∧ Ovr Z ked "java/lang/Object" ∧ h0.size ≤ sl ∧ h0.size ≤ fi ∧ h0.size ≤ la ∧ h0.size ≤ nx ∧ h0.size ≤ co ∧ h0.size ≤ sc ∧ h0.size ≤ ce ∧ h0.size ≤ ed ∧ h0.size ≤ ix ∧ h0.size ≤ al ∧ sl ≠ fi ∧ sl ≠ la ∧ sl ≠ nx ∧ sl ≠ co ∧ sl ≠ sc ∧ sl ≠ ce ∧ sl ≠ ed ∧ fi ≠ la ∧ fi ≠ nx ∧ fi ≠ co ∧ fi ≠ sc ∧ fi ≠ ce ∧ fi ≠ ed ∧ la ≠ nx ∧ la ≠ co ∧ la ≠ sc ∧ la ≠ ce ∧ la ≠ ed ∧ nx ≠ co ∧ nx ≠ sc ∧ nx ≠ ce ∧ nx ≠ ed ∧ co ≠ sc ∧ co ≠ ce ∧ co ≠ ed ∧ sc ≠ ce ∧ sc ≠ ed ∧ ce ≠ ed ∧ own_Inv (0 : Int32) (0 : Int32) own_z16 own_z8 own_z8 own_z16 ∧ own_z16.length = 16) T3 (mkF m 12 #[.val (.ref o0), .val (.int (1 : Int32))] [(.ref b2), (.ref o0)])
  refine C3.putF (host := "") (Or.inl (hw _ (List.mem_of_getElem? (i := 33) rfl))) Via.refl F_o0_indexes E_o0 (Or.inr ⟨(hw _ (List.mem_of_getElem? (i := 34) rfl)), rfl, rfl⟩) (hw _ (List.mem_of_getElem? (i := 1) rfl)) (ty := (.object "java/util/List")) (by decide) rfl rfl g_o0 d1_12 rfl (fun T4 h4 C4 W4 => ?_)
  have ne_de_o0 : de ≠ o0 := (Nat.ne_of_lt (Nat.lt_of_lt_of_le hde g_o0))
  have ne_lm_o0 : lm ≠ o0 := (Nat.ne_of_lt (Nat.lt_of_lt_of_le hlm g_o0))
  have E_o0 := E_o0.wr W4
  have F_o0_arity := F_o0_arity.other W4 (Or.inr (slot_ne (Or.inr (hw _ (List.mem_of_getElem? (i := 36) rfl))) (Or.inr (hw _ (List.mem_of_getElem? (i := 34) rfl))) (by decide) (t := .int) (t' := (.object "java/util/List")) (by decide) (by decide)))
  have F_o0_cells := F_o0_cells.other W4 (Or.inr (slot_ne (Or.inl (hw _ (List.mem_of_getElem? (i := 39) rfl))) (Or.inr (hw _ (List.mem_of_getElem? (i := 34) rfl))) (by decide) (t := (.array .int)) (t' := (.object "java/util/List")) (by decide) (by decide)))
  have F_o0_unique := F_o0_unique.other W4 (Or.inr (slot_ne (Or.inl (hw _ (List.mem_of_getElem? (i := 98) rfl))) (Or.inr (hw _ (List.mem_of_getElem? (i := 34) rfl))) (by decide) (t := (.object "com/example/nestor/nestor/engine/Index")) (t' := (.object "java/util/List")) (by decide) (by decide)))
  have F_o0_size := F_o0_size.other W4 (Or.inr (slot_ne (Or.inl (hw _ (List.mem_of_getElem? (i := 96) rfl))) (Or.inr (hw _ (List.mem_of_getElem? (i := 34) rfl))) (by decide) (t := .int) (t' := (.object "java/util/List")) (by decide) (by decide)))
  have F_o0_source := F_o0_source.other W4 (Or.inr (slot_ne (Or.inl (hw _ (List.mem_of_getElem? (i := 163) rfl))) (Or.inr (hw _ (List.mem_of_getElem? (i := 34) rfl))) (by decide) (t := (.object "com/example/nestor/nestor/engine/Relation")) (t' := (.object "java/util/List")) (by decide) (by decide)))
  have F_o0_deltaStart := F_o0_deltaStart.other W4 (Or.inr (slot_ne (Or.inl (hw _ (List.mem_of_getElem? (i := 243) rfl))) (Or.inr (hw _ (List.mem_of_getElem? (i := 34) rfl))) (by decide) (t := .int) (t' := (.object "java/util/List")) (by decide) (by decide)))
  have F_o0_deltaEnd := F_o0_deltaEnd.other W4 (Or.inr (slot_ne (Or.inl (hw _ (List.mem_of_getElem? (i := 241) rfl))) (Or.inr (hw _ (List.mem_of_getElem? (i := 34) rfl))) (by decide) (t := .int) (t' := (.object "java/util/List")) (by decide) (by decide)))
  have S_DEFAULTCAPACITY_EMPTY_ELEMENTDATA := S_DEFAULTCAPACITY_EMPTY_ELEMENTDATA.wr W4
  have V_de := V_de.other W4 ne_de_o0
  have L_lm := L_lm.other W4 ne_lm_o0
  have E_b2 := E_b2.wr W4
  have F_b2_modCount := F_b2_modCount.other W4 (Or.inl (Ne.symm ne_o0_b2))
  have F_b2_elementData := F_b2_elementData.other W4 (Or.inl (Ne.symm ne_o0_b2))
  have F_b2_size := F_b2_size.other W4 (Or.inl (Ne.symm ne_o0_b2))
  have KP := KP.wr W4 (Or.inl (by simp))
  have F_o0_indexes := F_o0_indexes.same W4
  refine C4.aloadN d1_15 rfl rfl rfl ?_
  refine C4.iloadN d1_16 rfl rfl ?_
  refine C4.putF (host := "") (Or.inl (hw _ (List.mem_of_getElem? (i := 35) rfl))) Via.refl F_o0_arity E_o0 (Or.inr ⟨(hw _ (List.mem_of_getElem? (i := 36) rfl)), rfl, rfl⟩) (hw _ (List.mem_of_getElem? (i := 1) rfl)) (ty := .int) (by decide) rfl rfl g_o0 d1_17 rfl (fun T5 h5 C5 W5 => ?_)
  have E_o0 := E_o0.wr W5
  have F_o0_indexes := F_o0_indexes.other W5 (Or.inr (slot_ne (Or.inr (hw _ (List.mem_of_getElem? (i := 34) rfl))) (Or.inr (hw _ (List.mem_of_getElem? (i := 36) rfl))) (by decide) (t := (.object "java/util/List")) (t' := .int) (by decide) (by decide)))
  have F_o0_cells := F_o0_cells.other W5 (Or.inr (slot_ne (Or.inl (hw _ (List.mem_of_getElem? (i := 39) rfl))) (Or.inr (hw _ (List.mem_of_getElem? (i := 36) rfl))) (by decide) (t := (.array .int)) (t' := .int) (by decide) (by decide)))
  have F_o0_unique := F_o0_unique.other W5 (Or.inr (slot_ne (Or.inl (hw _ (List.mem_of_getElem? (i := 98) rfl))) (Or.inr (hw _ (List.mem_of_getElem? (i := 36) rfl))) (by decide) (t := (.object "com/example/nestor/nestor/engine/Index")) (t' := .int) (by decide) (by decide)))
  have F_o0_size := F_o0_size.other W5 (Or.inr (slot_ne (Or.inl (hw _ (List.mem_of_getElem? (i := 96) rfl))) (Or.inr (hw _ (List.mem_of_getElem? (i := 36) rfl))) (by decide) (t := .int) (t' := .int) (by decide) (by decide)))
  have F_o0_source := F_o0_source.other W5 (Or.inr (slot_ne (Or.inl (hw _ (List.mem_of_getElem? (i := 163) rfl))) (Or.inr (hw _ (List.mem_of_getElem? (i := 36) rfl))) (by decide) (t := (.object "com/example/nestor/nestor/engine/Relation")) (t' := .int) (by decide) (by decide)))
  have F_o0_deltaStart := F_o0_deltaStart.other W5 (Or.inr (slot_ne (Or.inl (hw _ (List.mem_of_getElem? (i := 243) rfl))) (Or.inr (hw _ (List.mem_of_getElem? (i := 36) rfl))) (by decide) (t := .int) (t' := .int) (by decide) (by decide)))
  have F_o0_deltaEnd := F_o0_deltaEnd.other W5 (Or.inr (slot_ne (Or.inl (hw _ (List.mem_of_getElem? (i := 241) rfl))) (Or.inr (hw _ (List.mem_of_getElem? (i := 36) rfl))) (by decide) (t := .int) (t' := .int) (by decide) (by decide)))
  have S_DEFAULTCAPACITY_EMPTY_ELEMENTDATA := S_DEFAULTCAPACITY_EMPTY_ELEMENTDATA.wr W5
  have V_de := V_de.other W5 ne_de_o0
  have L_lm := L_lm.other W5 ne_lm_o0
  have E_b2 := E_b2.wr W5
  have F_b2_modCount := F_b2_modCount.other W5 (Or.inl (Ne.symm ne_o0_b2))
  have F_b2_elementData := F_b2_elementData.other W5 (Or.inl (Ne.symm ne_o0_b2))
  have F_b2_size := F_b2_size.other W5 (Or.inl (Ne.symm ne_o0_b2))
  have KP := KP.wr W5 (Or.inl (by simp))
  have F_o0_arity := F_o0_arity.same W5
  refine C5.aloadN d1_20 rfl rfl rfl ?_
  refine C5.iloadN d1_21 rfl rfl ?_
  refine C5.bipush (16 : Int32) d1_22 rfl rfl ?_
  refine C5.imul d1_24 rfl ?_
  rw [show ((1 : Int32) * (16 : Int32)) = (16 : Int32) from by decide]
  refine C5.newarr (hw _ (List.mem_of_getElem? (i := 37) rfl)) 16 (by decide) (by decide) (by decide) (by decide) (by decide) d1_25 rfl (fun T6 h6 b6 k6 C6 e6 g_b6 E6 V_b6 => ?_)
  have ne_o0_b6 : o0 ≠ b6 := Nat.ne_of_lt (Nat.lt_of_lt_of_eq E_o0.lt e6.symm)
  have ne_de_b6 : de ≠ b6 := Nat.ne_of_lt (Nat.lt_of_lt_of_eq V_de.lt e6.symm)
  have ne_lm_b6 : lm ≠ b6 := Nat.ne_of_lt (Nat.lt_of_lt_of_eq L_lm.lt e6.symm)
  have ne_b2_b6 : b2 ≠ b6 := Nat.ne_of_lt (Nat.lt_of_lt_of_eq E_b2.lt e6.symm)
  have sz_b6 : h0.size ≤ b6 := Nat.le_trans KP.1 (Nat.le_of_eq e6.symm)
  have E_o0 := E_o0.ext E6
  have F_o0_indexes := F_o0_indexes.ext E6
  have F_o0_arity := F_o0_arity.ext E6
  have F_o0_cells := F_o0_cells.ext E6
  have F_o0_unique := F_o0_unique.ext E6
  have F_o0_size := F_o0_size.ext E6
  have F_o0_source := F_o0_source.ext E6
  have F_o0_deltaStart := F_o0_deltaStart.ext E6
  have F_o0_deltaEnd := F_o0_deltaEnd.ext E6
  have S_DEFAULTCAPACITY_EMPTY_ELEMENTDATA := S_DEFAULTCAPACITY_EMPTY_ELEMENTDATA.ext E6
  have V_de := V_de.ext E6
  have L_lm := L_lm.ext E6
  have E_b2 := E_b2.ext E6
  have F_b2_modCount := F_b2_modCount.ext E6
  have F_b2_elementData := F_b2_elementData.ext E6
  have F_b2_size := F_b2_size.ext E6
  have KP := KP.ext E6
  have V_b6 : Arv Z h6 b6 k6 .int (16 : Int32) [(.int (0 : Int32)), (.int (0 : Int32)), (.int (0 : Int32)), (.int (0 : Int32)), (.int (0 : Int32)), (.int (0 : Int32)), (.int (0 : Int32)), (.int (0 : Int32)), (.int (0 : Int32)), (.int (0 : Int32)), (.int (0 : Int32)), (.int (0 : Int32)), (.int (0 : Int32)), (.int (0 : Int32)), (.int (0 : Int32)), (.int (0 : Int32))] (.int (0 : Int32)) := V_b6
  refine C6.putF (host := "") (Or.inl (hw _ (List.mem_of_getElem? (i := 38) rfl))) Via.refl F_o0_cells E_o0 (Or.inl (hw _ (List.mem_of_getElem? (i := 39) rfl))) (hw _ (List.mem_of_getElem? (i := 1) rfl)) (ty := (.array .int)) (by decide) rfl rfl g_o0 d1_27 rfl (fun T7 h7 C7 W7 => ?_)
  have E_o0 := E_o0.wr W7
  have F_o0_indexes := F_o0_indexes.other W7 (Or.inr (slot_ne (Or.inr (hw _ (List.mem_of_getElem? (i := 34) rfl))) (Or.inl (hw _ (List.mem_of_getElem? (i := 39) rfl))) (by decide) (t := (.object "java/util/List")) (t' := (.array .int)) (by decide) (by decide)))
  have F_o0_arity := F_o0_arity.other W7 (Or.inr (slot_ne (Or.inr (hw _ (List.mem_of_getElem? (i := 36) rfl))) (Or.inl (hw _ (List.mem_of_getElem? (i := 39) rfl))) (by decide) (t := .int) (t' := (.array .int)) (by decide) (by decide)))
  have F_o0_unique := F_o0_unique.other W7 (Or.inr (slot_ne (Or.inl (hw _ (List.mem_of_getElem? (i := 98) rfl))) (Or.inl (hw _ (List.mem_of_getElem? (i := 39) rfl))) (by decide) (t := (.object "com/example/nestor/nestor/engine/Index")) (t' := (.array .int)) (by decide) (by decide)))
  have F_o0_size := F_o0_size.other W7 (Or.inr (slot_ne (Or.inl (hw _ (List.mem_of_getElem? (i := 96) rfl))) (Or.inl (hw _ (List.mem_of_getElem? (i := 39) rfl))) (by decide) (t := .int) (t' := (.array .int)) (by decide) (by decide)))
  have F_o0_source := F_o0_source.other W7 (Or.inr (slot_ne (Or.inl (hw _ (List.mem_of_getElem? (i := 163) rfl))) (Or.inl (hw _ (List.mem_of_getElem? (i := 39) rfl))) (by decide) (t := (.object "com/example/nestor/nestor/engine/Relation")) (t' := (.array .int)) (by decide) (by decide)))
  have F_o0_deltaStart := F_o0_deltaStart.other W7 (Or.inr (slot_ne (Or.inl (hw _ (List.mem_of_getElem? (i := 243) rfl))) (Or.inl (hw _ (List.mem_of_getElem? (i := 39) rfl))) (by decide) (t := .int) (t' := (.array .int)) (by decide) (by decide)))
  have F_o0_deltaEnd := F_o0_deltaEnd.other W7 (Or.inr (slot_ne (Or.inl (hw _ (List.mem_of_getElem? (i := 241) rfl))) (Or.inl (hw _ (List.mem_of_getElem? (i := 39) rfl))) (by decide) (t := .int) (t' := (.array .int)) (by decide) (by decide)))
  have S_DEFAULTCAPACITY_EMPTY_ELEMENTDATA := S_DEFAULTCAPACITY_EMPTY_ELEMENTDATA.wr W7
  have V_de := V_de.other W7 ne_de_o0
  have L_lm := L_lm.other W7 ne_lm_o0
  have E_b2 := E_b2.wr W7
  have F_b2_modCount := F_b2_modCount.other W7 (Or.inl (Ne.symm ne_o0_b2))
  have F_b2_elementData := F_b2_elementData.other W7 (Or.inl (Ne.symm ne_o0_b2))
  have F_b2_size := F_b2_size.other W7 (Or.inl (Ne.symm ne_o0_b2))
  have V_b6 := V_b6.other W7 (Ne.symm ne_o0_b6)
  have KP := KP.wr W7 (Or.inl (by simp))
  have F_o0_cells := F_o0_cells.same W7
  refine C7.aloadN d1_30 rfl rfl rfl ?_
  refine C7.aloadN d1_31 rfl rfl rfl ?_
  refine C7.callP (hw _ (List.mem_of_getElem? (i := 40) rfl)) (hw _ (List.mem_of_getElem? (i := 41) rfl)) (own_selP (y2 := ({ cls := "com/example/nestor/nestor/engine/Relation", name := "size", desc := "()I" } : Jvm.MethodName)) rfl (hw _ (List.mem_of_getElem? (i := 93) rfl)) (hw _ (List.mem_of_getElem? (i := 42) rfl)) (hw _ (List.mem_of_getElem? (i := 41) rfl)) (by decide)) (hw _ (List.mem_of_getElem? (i := 42) rfl)) (hw _ (List.mem_of_getElem? (i := 2) rfl)) (hw _ (List.mem_of_getElem? (i := 43) rfl)) E_o0 (by decide) (a := o0) (rm6 l Z a0 hw o0 lm h7 n0 C7.size E_o0 F_o0_arity F_o0_size L_lm hlm hsite) (argsL := []) pd6 rfl 1 (by decide) (by decide) (by decide) (by decide) (rest := [(.ref o0)]) rfl rfl (Nat.le_of_eq rfl) d1_32 rfl (fun v8 T8 h8 C8 qq8 => ?_)
  obtain ⟨ix8, sl8, fi8, la8, nx8, co8, sc8, ksl8, kfi8, kla8, knx8, kco8, ksc8, rfl, K8, p8_0, p8_1, p8_2, p8_3, p8_4, p8_5, p8_6, p8_7, p8_8, p8_9, p8_10, p8_11, p8_12, p8_13, p8_14, p8_15, p8_16, p8_17, p8_18, p8_19, p8_20, p8_21, p8_22, p8_23, p8_24, p8_25, p8_26, p8_27, p8_28, p8_29, p8_30, p8_31, p8_32, p8_33, p8_34, p8_35, p8_36⟩ := qq8
  have ne_o0_sl8 : o0 ≠ sl8 := Nat.ne_of_lt (Nat.lt_of_lt_of_le E_o0.lt p8_15)
  have ne_de_sl8 : de ≠ sl8 := Nat.ne_of_lt (Nat.lt_of_lt_of_le V_de.lt p8_15)
  have ne_lm_sl8 : lm ≠ sl8 := Nat.ne_of_lt (Nat.lt_of_lt_of_le L_lm.lt p8_15)
  have ne_b2_sl8 : b2 ≠ sl8 := Nat.ne_of_lt (Nat.lt_of_lt_of_le E_b2.lt p8_15)
  have ne_b6_sl8 : b6 ≠ sl8 := Nat.ne_of_lt (Nat.lt_of_lt_of_le V_b6.lt p8_15)
  have sz_sl8 : h0.size ≤ sl8 := Nat.le_trans KP.1 p8_15
  have g_sl8 : n0 ≤ sl8 := Nat.le_trans C7.size p8_15
  have ne_o0_fi8 : o0 ≠ fi8 := Nat.ne_of_lt (Nat.lt_of_lt_of_le E_o0.lt p8_16)
  have ne_de_fi8 : de ≠ fi8 := Nat.ne_of_lt (Nat.lt_of_lt_of_le V_de.lt p8_16)
  have ne_lm_fi8 : lm ≠ fi8 := Nat.ne_of_lt (Nat.lt_of_lt_of_le L_lm.lt p8_16)
  have ne_b2_fi8 : b2 ≠ fi8 := Nat.ne_of_lt (Nat.lt_of_lt_of_le E_b2.lt p8_16)
  have ne_b6_fi8 : b6 ≠ fi8 := Nat.ne_of_lt (Nat.lt_of_lt_of_le V_b6.lt p8_16)
  have sz_fi8 : h0.size ≤ fi8 := Nat.le_trans KP.1 p8_16
  have g_fi8 : n0 ≤ fi8 := Nat.le_trans C7.size p8_16
  have ne_o0_la8 : o0 ≠ la8 := Nat.ne_of_lt (Nat.lt_of_lt_of_le E_o0.lt p8_17)
  have ne_de_la8 : de ≠ la8 := Nat.ne_of_lt (Nat.lt_of_lt_of_le V_de.lt p8_17)
  have ne_lm_la8 : lm ≠ la8 := Nat.ne_of_lt (Nat.lt_of_lt_of_le L_lm.lt p8_17)
  have ne_b2_la8 : b2 ≠ la8 := Nat.ne_of_lt (Nat.lt_of_lt_of_le E_b2.lt p8_17)
  have ne_b6_la8 : b6 ≠ la8 := Nat.ne_of_lt (Nat.lt_of_lt_of_le V_b6.lt p8_17)
  have sz_la8 : h0.size ≤ la8 := Nat.le_trans KP.1 p8_17
  have g_la8 : n0 ≤ la8 := Nat.le_trans C7.size p8_17
  have ne_o0_nx8 : o0 ≠ nx8 := Nat.ne_of_lt (Nat.lt_of_lt_of_le E_o0.lt p8_18)
  have ne_de_nx8 : de ≠ nx8 := Nat.ne_of_lt (Nat.lt_of_lt_of_le V_de.lt p8_18)
  have ne_lm_nx8 : lm ≠ nx8 := Nat.ne_of_lt (Nat.lt_of_lt_of_le L_lm.lt p8_18)
  have ne_b2_nx8 : b2 ≠ nx8 := Nat.ne_of_lt (Nat.lt_of_lt_of_le E_b2.lt p8_18)
  have ne_b6_nx8 : b6 ≠ nx8 := Nat.ne_of_lt (Nat.lt_of_lt_of_le V_b6.lt p8_18)
  have sz_nx8 : h0.size ≤ nx8 := Nat.le_trans KP.1 p8_18
  have g_nx8 : n0 ≤ nx8 := Nat.le_trans C7.size p8_18
  have ne_o0_co8 : o0 ≠ co8 := Nat.ne_of_lt (Nat.lt_of_lt_of_le E_o0.lt p8_19)
  have ne_de_co8 : de ≠ co8 := Nat.ne_of_lt (Nat.lt_of_lt_of_le V_de.lt p8_19)
  have ne_lm_co8 : lm ≠ co8 := Nat.ne_of_lt (Nat.lt_of_lt_of_le L_lm.lt p8_19)
  have ne_b2_co8 : b2 ≠ co8 := Nat.ne_of_lt (Nat.lt_of_lt_of_le E_b2.lt p8_19)
  have ne_b6_co8 : b6 ≠ co8 := Nat.ne_of_lt (Nat.lt_of_lt_of_le V_b6.lt p8_19)
  have sz_co8 : h0.size ≤ co8 := Nat.le_trans KP.1 p8_19
  have g_co8 : n0 ≤ co8 := Nat.le_trans C7.size p8_19
  have ne_o0_sc8 : o0 ≠ sc8 := Nat.ne_of_lt (Nat.lt_of_lt_of_le E_o0.lt p8_20)
  have ne_de_sc8 : de ≠ sc8 := Nat.ne_of_lt (Nat.lt_of_lt_of_le V_de.lt p8_20)
  have ne_lm_sc8 : lm ≠ sc8 := Nat.ne_of_lt (Nat.lt_of_lt_of_le L_lm.lt p8_20)
  have ne_b2_sc8 : b2 ≠ sc8 := Nat.ne_of_lt (Nat.lt_of_lt_of_le E_b2.lt p8_20)
  have ne_b6_sc8 : b6 ≠ sc8 := Nat.ne_of_lt (Nat.lt_of_lt_of_le V_b6.lt p8_20)
  have sz_sc8 : h0.size ≤ sc8 := Nat.le_trans KP.1 p8_20
  have g_sc8 : n0 ≤ sc8 := Nat.le_trans C7.size p8_20
  have ne_o0_ix8 : o0 ≠ ix8 := Nat.ne_of_lt (Nat.lt_of_lt_of_le E_o0.lt p8_36)
  have ne_de_ix8 : de ≠ ix8 := Nat.ne_of_lt (Nat.lt_of_lt_of_le V_de.lt p8_36)
  have ne_lm_ix8 : lm ≠ ix8 := Nat.ne_of_lt (Nat.lt_of_lt_of_le L_lm.lt p8_36)
  have ne_b2_ix8 : b2 ≠ ix8 := Nat.ne_of_lt (Nat.lt_of_lt_of_le E_b2.lt p8_36)
  have ne_b6_ix8 : b6 ≠ ix8 := Nat.ne_of_lt (Nat.lt_of_lt_of_le V_b6.lt p8_36)
  have sz_ix8 : h0.size ≤ ix8 := Nat.le_trans KP.1 p8_36
  have g_ix8 : n0 ≤ ix8 := Nat.le_trans C7.size p8_36
  have K8 := ext_keep K8
  have E_o0 := E_o0.ext K8
  have F_o0_indexes := F_o0_indexes.ext K8
  have F_o0_arity := F_o0_arity.ext K8
  have F_o0_cells := F_o0_cells.ext K8
  have F_o0_unique := F_o0_unique.ext K8
  have F_o0_size := F_o0_size.ext K8
  have F_o0_source := F_o0_source.ext K8
  have F_o0_deltaStart := F_o0_deltaStart.ext K8
  have F_o0_deltaEnd := F_o0_deltaEnd.ext K8
  have S_DEFAULTCAPACITY_EMPTY_ELEMENTDATA := S_DEFAULTCAPACITY_EMPTY_ELEMENTDATA.ext K8
  have V_de := V_de.ext K8
  have L_lm := L_lm.ext K8
  have E_b2 := E_b2.ext K8
  have F_b2_modCount := F_b2_modCount.ext K8
  have F_b2_elementData := F_b2_elementData.ext K8
  have F_b2_size := F_b2_size.ext K8
  have V_b6 := V_b6.ext K8
  have KP := KP.ext K8
  have E_ix8 := p8_0
  have F_ix8_slots := p8_1
  have F_ix8_firsts := p8_2
  have F_ix8_lasts := p8_3
  have F_ix8_nexts := p8_4
  have F_ix8_relation := p8_5
  have F_ix8_columns := p8_6
  have F_ix8_scratch := p8_7
  have F_ix8_groups := p8_8
  have V_sl8 := p8_9
  have V_fi8 := p8_10
  have V_la8 := p8_11
  have V_nx8 := p8_12
  have V_co8 := p8_13
  have V_sc8 := p8_14
  have ne_sl8_fi8 := p8_21
  have ne_sl8_la8 := p8_22
  have ne_sl8_nx8 := p8_23
  have ne_sl8_co8 := p8_24
  have ne_sl8_sc8 := p8_25
  have ne_fi8_la8 := p8_26
  have ne_fi8_nx8 := p8_27
  have ne_fi8_co8 := p8_28
  have ne_fi8_sc8 := p8_29
  have ne_la8_nx8 := p8_30
  have ne_la8_co8 := p8_31
  have ne_la8_sc8 := p8_32
  have ne_nx8_co8 := p8_33
  have ne_nx8_sc8 := p8_34
  have ne_co8_sc8 := p8_35
  show Go p e below F n0 (fun v h' => ∃ al : Addr, ∃ ce : Addr, ∃ ix : Addr, ∃ ed : Addr, ∃ sl : Addr, ∃ fi : Addr, ∃ la : Addr, ∃ nx : Addr, ∃ co : Addr, ∃ sc : Addr, ∃ kce : ClassId, ∃ ked : ClassId, ∃ ksl : ClassId, ∃ kfi : ClassId, ∃ kla : ClassId, ∃ knx : ClassId, ∃ kco : ClassId, ∃ ksc : ClassId, v = none ∧ Keep h0 h' [o0] ∧ Exa Z h' o0 "com/example/nestor/nestor/engine/Relation" ∧ Fld Z h' o0 "com/example/nestor/nestor/engine/Relation" "indexes" "Ljava/util/List;" (.ref al) ∧ Fld Z h' o0 "com/example/nestor/nestor/engine/Relation" "arity" "I" (.int (1 : Int32)) ∧ Fld Z h' o0 "com/example/nestor/nestor/engine/Relation" "cells" "[I" (.ref ce) ∧ Fld Z h' o0 "com/example/nestor/nestor/engine/Relation" "unique" "Lcom/example/nestor/nestor/engine/Index;" (.ref ix) ∧ Fld Z h' o0 "com/example/nestor/nestor/engine/Relation" "size" "I" (.int (0 : Int32)) ∧ Fld Z h' o0 "com/example/nestor/nestor/engine/Relation" "source" "Lcom/example/nestor/nestor/engine/Relation;" .null ∧ Fld Z h' o0 "com/example/nestor/nestor/engine/Relation" "deltaStart" "I" (.int (0 : Int32)) ∧ Fld Z h' o0 "com/example/nestor/nestor/engine/Relation" "deltaEnd" "I" (.int (0 : Int32)) ∧ Exa Z h' ix "com/example/nestor/nestor/engine/Index" ∧ Fld Z h' ix "com/example/nestor/nestor/engine/Index" "slots" "[I" (.ref sl) ∧ Fld Z h' ix "com/example/nestor/nestor/engine/Index" "firsts" "[I" (.ref fi) ∧ Fld Z h' ix "com/example/nestor/nestor/engine/Index" "lasts" "[I" (.ref la) ∧ Fld Z h' ix "com/example/nestor/nestor/engine/Index" "nexts" "[I" (.ref nx) ∧ Fld Z h' ix "com/example/nestor/nestor/engine/Index" "relation" "Lcom/example/nestor/nestor/engine/Relation;" (.ref o0) ∧ Fld Z h' ix "com/example/nestor/nestor/engine/Index" "columns" "[I" (.ref co) ∧ Fld Z h' ix "com/example/nestor/nestor/engine/Index" "scratch" "[I" (.ref sc) ∧ Fld Z h' ix "com/example/nestor/nestor/engine/Index" "groups" "I" (.int (0 : Int32)) ∧ Exa Z h' al "java/util/ArrayList" ∧ Fld Z h' al "java/util/AbstractList" "modCount" "I" (.int (1 : Int32)) ∧ Fld Z h' al "java/util/ArrayList" "elementData" "[Ljava/lang/Object;" (.ref ed) ∧ Fld Z h' al "java/util/ArrayList" "size" "I" (.int (1 : Int32)) ∧ Arv Z h' sl ksl .int (16 : Int32) (own_z16.map Value.int) (.int (0 : Int32)) ∧ Arv Z h' fi kfi .int (8 : Int32) (own_z8.map Value.int) (.int (0 : Int32)) ∧ Arv Z h' la kla .int (8 : Int32) (own_z8.map Value.int) (.int (0 : Int32)) ∧ Arv Z h' nx knx .int (16 : Int32) (own_z16.map Value.int) (.int (0 : Int32)) ∧ Arv Z h' co kco .int (1 : Int32) [(.int (0 : Int32))] (.int (0 : Int32)) ∧ Arv Z h' sc ksc .int (1 : Int32) [(.int (0 : Int32))] (.int (0 : Int32)) ∧ Arv Z h' ce kce .int (16 : Int32) (own_z16.map Value.int) (.int (0 : Int32)) ∧ Exa Z h' ed "[Ljava/lang/Object;" ∧ Arv Z h' ed ked (.object "java/lang/Object") (10 : Int32) [(.ref ix), .null, .null, .null, .null, .null, .null, .null, .null, .null] .null ∧ Ovr Z ked "java/lang/Object" ∧ h0.size ≤ sl ∧ h0.size ≤ fi ∧ h0.size ≤ la ∧ h0.size ≤ nx ∧ h0.size ≤ co ∧ h0.size ≤ sc ∧ h0.size ≤ ce ∧ h0.size ≤ ed ∧ h0.size ≤ ix ∧ h0.size ≤ al ∧ sl ≠ fi ∧ sl ≠ la ∧ sl ≠ nx ∧ sl ≠ co ∧ sl ≠ sc ∧ sl ≠ ce ∧ sl ≠ ed ∧ fi ≠ la ∧ fi ≠ nx ∧ fi ≠ co ∧ fi ≠ sc ∧ fi ≠ ce ∧ fi ≠ ed ∧ la ≠ nx ∧ la ≠ co ∧ la ≠ sc ∧ la ≠ ce ∧ la ≠ ed ∧ nx ≠ co ∧ nx ≠ sc ∧ nx ≠ ce ∧ nx ≠ ed ∧ co ≠ sc ∧ co ≠ ce ∧ co ≠ ed ∧ sc ≠ ce ∧ sc ≠ ed ∧ ce ≠ ed ∧ own_Inv (0 : Int32) (0 : Int32) own_z16 own_z8 own_z8 own_z16 ∧ own_z16.length = 16) T8 (mkF m 35 #[.val (.ref o0), .val (.int (1 : Int32))] [(.ref ix8), (.ref o0)])
  refine C8.putF (host := "") (Or.inl (hw _ (List.mem_of_getElem? (i := 97) rfl))) Via.refl F_o0_unique E_o0 (Or.inl (hw _ (List.mem_of_getElem? (i := 98) rfl))) (hw _ (List.mem_of_getElem? (i := 1) rfl)) (ty := (.object "com/example/nestor/nestor/engine/Index")) (by decide) rfl rfl g_o0 d1_35 rfl (fun T9 h9 C9 W9 => ?_)
  have E_o0 := E_o0.wr W9
  have F_o0_indexes := F_o0_indexes.other W9 (Or.inr (slot_ne (Or.inr (hw _ (List.mem_of_getElem? (i := 34) rfl))) (Or.inl (hw _ (List.mem_of_getElem? (i := 98) rfl))) (by decide) (t := (.object "java/util/List")) (t' := (.object "com/example/nestor/nestor/engine/Index")) (by decide) (by decide)))
  have F_o0_arity := F_o0_arity.other W9 (Or.inr (slot_ne (Or.inr (hw _ (List.mem_of_getElem? (i := 36) rfl))) (Or.inl (hw _ (List.mem_of_getElem? (i := 98) rfl))) (by decide) (t := .int) (t' := (.object "com/example/nestor/nestor/engine/Index")) (by decide) (by decide)))
  have F_o0_cells := F_o0_cells.other W9 (Or.inr (slot_ne (Or.inl (hw _ (List.mem_of_getElem? (i := 39) rfl))) (Or.inl (hw _ (List.mem_of_getElem? (i := 98) rfl))) (by decide) (t := (.array .int)) (t' := (.object "com/example/nestor/nestor/engine/Index")) (by decide) (by decide)))
  have F_o0_size := F_o0_size.other W9 (Or.inr (slot_ne (Or.inl (hw _ (List.mem_of_getElem? (i := 96) rfl))) (Or.inl (hw _ (List.mem_of_getElem? (i := 98) rfl))) (by decide) (t := .int) (t' := (.object "com/example/nestor/nestor/engine/Index")) (by decide) (by decide)))
  have F_o0_source := F_o0_source.other W9 (Or.inr (slot_ne (Or.inl (hw _ (List.mem_of_getElem? (i := 163) rfl))) (Or.inl (hw _ (List.mem_of_getElem? (i := 98) rfl))) (by decide) (t := (.object "com/example/nestor/nestor/engine/Relation")) (t' := (.object "com/example/nestor/nestor/engine/Index")) (by decide) (by decide)))
  have F_o0_deltaStart := F_o0_deltaStart.other W9 (Or.inr (slot_ne (Or.inl (hw _ (List.mem_of_getElem? (i := 243) rfl))) (Or.inl (hw _ (List.mem_of_getElem? (i := 98) rfl))) (by decide) (t := .int) (t' := (.object "com/example/nestor/nestor/engine/Index")) (by decide) (by decide)))
  have F_o0_deltaEnd := F_o0_deltaEnd.other W9 (Or.inr (slot_ne (Or.inl (hw _ (List.mem_of_getElem? (i := 241) rfl))) (Or.inl (hw _ (List.mem_of_getElem? (i := 98) rfl))) (by decide) (t := .int) (t' := (.object "com/example/nestor/nestor/engine/Index")) (by decide) (by decide)))
  have S_DEFAULTCAPACITY_EMPTY_ELEMENTDATA := S_DEFAULTCAPACITY_EMPTY_ELEMENTDATA.wr W9
  have V_de := V_de.other W9 ne_de_o0
  have L_lm := L_lm.other W9 ne_lm_o0
  have E_b2 := E_b2.wr W9
  have F_b2_modCount := F_b2_modCount.other W9 (Or.inl (Ne.symm ne_o0_b2))
  have F_b2_elementData := F_b2_elementData.other W9 (Or.inl (Ne.symm ne_o0_b2))
  have F_b2_size := F_b2_size.other W9 (Or.inl (Ne.symm ne_o0_b2))
  have V_b6 := V_b6.other W9 (Ne.symm ne_o0_b6)
  have E_ix8 := E_ix8.wr W9
  have F_ix8_slots := F_ix8_slots.other W9 (Or.inl (Ne.symm ne_o0_ix8))
  have F_ix8_firsts := F_ix8_firsts.other W9 (Or.inl (Ne.symm ne_o0_ix8))
  have F_ix8_lasts := F_ix8_lasts.other W9 (Or.inl (Ne.symm ne_o0_ix8))
  have F_ix8_nexts := F_ix8_nexts.other W9 (Or.inl (Ne.symm ne_o0_ix8))
  have F_ix8_relation := F_ix8_relation.other W9 (Or.inl (Ne.symm ne_o0_ix8))
  have F_ix8_columns := F_ix8_columns.other W9 (Or.inl (Ne.symm ne_o0_ix8))
  have F_ix8_scratch := F_ix8_scratch.other W9 (Or.inl (Ne.symm ne_o0_ix8))
  have F_ix8_groups := F_ix8_groups.other W9 (Or.inl (Ne.symm ne_o0_ix8))
  have V_sl8 := V_sl8.other W9 (Ne.symm ne_o0_sl8)
  have V_fi8 := V_fi8.other W9 (Ne.symm ne_o0_fi8)
  have V_la8 := V_la8.other W9 (Ne.symm ne_o0_la8)
  have V_nx8 := V_nx8.other W9 (Ne.symm ne_o0_nx8)
  have V_co8 := V_co8.other W9 (Ne.symm ne_o0_co8)
  have V_sc8 := V_sc8.other W9 (Ne.symm ne_o0_sc8)
  have KP := KP.wr W9 (Or.inl (by simp))
  have F_o0_unique := F_o0_unique.same W9
  refine C9.aloadN d1_38 rfl rfl rfl ?_
  refine C9.getF (host := "") (Or.inl (hw _ (List.mem_of_getElem? (i := 33) rfl))) Via.refl F_o0_indexes d1_39 rfl (fun T10 C10 => ?_)
  refine C10.aloadN d1_42 rfl rfl rfl ?_
  refine C10.getF (host := "") (Or.inl (hw _ (List.mem_of_getElem? (i := 97) rfl))) Via.refl F_o0_unique d1_43 rfl (fun T11 C11 => ?_)
  refine C11.callF (hw _ (List.mem_of_getElem? (i := 99) rfl)) (hw _ (List.mem_of_getElem? (i := 100) rfl)) (hw _ (List.mem_of_getElem? (i := 101) rfl)) (hw _ (List.mem_of_getElem? (i := 102) rfl)) (hw _ (List.mem_of_getElem? (i := 103) rfl)) (hw _ (List.mem_of_getElem? (i := 104) rfl)) (hw _ (List.mem_of_getElem? (i := 105) rfl)) (hw _ (List.mem_of_getElem? (i := 106) rfl)) (hw _ (List.mem_of_getElem? (i := 11) rfl)) (hw _ (List.mem_of_getElem? (i := 107) rfl)) E_b2 (by decide) (a := b2) (rm12 l Z a0 hw b2 ix8 de kde h9 n0 C11.size E_b2 F_b2_modCount F_b2_elementData F_b2_size g_b2 E_ix8 S_DEFAULTCAPACITY_EMPTY_ELEMENTDATA V_de hde) (argsL := [(.ref ix8)]) pd12 rfl 0 (by decide) (by decide) (by decide) (by decide) (rest := []) rfl rfl (Nat.le_of_eq rfl) d1_46 rfl (fun v12 T12 h12 C12 qq12 => ?_)
  obtain ⟨ed12, ked12, rfl, K12, p12_0, p12_1, p12_2, p12_3, p12_4, p12_5, p12_6, p12_7⟩ := qq12
  have ne_o0_ed12 : o0 ≠ ed12 := Nat.ne_of_lt (Nat.lt_of_lt_of_le E_o0.lt p12_7)
  have ne_de_ed12 : de ≠ ed12 := Nat.ne_of_lt (Nat.lt_of_lt_of_le V_de.lt p12_7)
  have ne_lm_ed12 : lm ≠ ed12 := Nat.ne_of_lt (Nat.lt_of_lt_of_le L_lm.lt p12_7)
  have ne_b2_ed12 : b2 ≠ ed12 := Nat.ne_of_lt (Nat.lt_of_lt_of_le E_b2.lt p12_7)
  have ne_b6_ed12 : b6 ≠ ed12 := Nat.ne_of_lt (Nat.lt_of_lt_of_le V_b6.lt p12_7)
  have ne_ix8_ed12 : ix8 ≠ ed12 := Nat.ne_of_lt (Nat.lt_of_lt_of_le E_ix8.lt p12_7)
  have ne_sl8_ed12 : sl8 ≠ ed12 := Nat.ne_of_lt (Nat.lt_of_lt_of_le V_sl8.lt p12_7)
  have ne_fi8_ed12 : fi8 ≠ ed12 := Nat.ne_of_lt (Nat.lt_of_lt_of_le V_fi8.lt p12_7)
  have ne_la8_ed12 : la8 ≠ ed12 := Nat.ne_of_lt (Nat.lt_of_lt_of_le V_la8.lt p12_7)
  have ne_nx8_ed12 : nx8 ≠ ed12 := Nat.ne_of_lt (Nat.lt_of_lt_of_le V_nx8.lt p12_7)
  have ne_co8_ed12 : co8 ≠ ed12 := Nat.ne_of_lt (Nat.lt_of_lt_of_le V_co8.lt p12_7)
  have ne_sc8_ed12 : sc8 ≠ ed12 := Nat.ne_of_lt (Nat.lt_of_lt_of_le V_sc8.lt p12_7)
  have sz_ed12 : h0.size ≤ ed12 := Nat.le_trans KP.1 p12_7
  have g_ed12 : n0 ≤ ed12 := Nat.le_trans C11.size p12_7
  have S_DEFAULTCAPACITY_EMPTY_ELEMENTDATA := own_stak S_DEFAULTCAPACITY_EMPTY_ELEMENTDATA K12 (allS (own_plainE E_b2) (all0))
  have E_o0 := E_o0.keep K12
  have F_o0_indexes := F_o0_indexes.keep K12 (ninS ne_o0_b2 nin0)
  have F_o0_arity := F_o0_arity.keep K12 (ninS ne_o0_b2 nin0)
  have F_o0_cells := F_o0_cells.keep K12 (ninS ne_o0_b2 nin0)
  have F_o0_unique := F_o0_unique.keep K12 (ninS ne_o0_b2 nin0)
  have F_o0_size := F_o0_size.keep K12 (ninS ne_o0_b2 nin0)
  have F_o0_source := F_o0_source.keep K12 (ninS ne_o0_b2 nin0)
  have F_o0_deltaStart := F_o0_deltaStart.keep K12 (ninS ne_o0_b2 nin0)
  have F_o0_deltaEnd := F_o0_deltaEnd.keep K12 (ninS ne_o0_b2 nin0)
  have V_de := V_de.keep K12 (ninS ne_de_b2 nin0)
  have L_lm := L_lm.keep K12 (ninS ne_lm_b2 nin0)
  have E_b2 := E_b2.keep K12
  have V_b6 := V_b6.keep K12 (ninS (Ne.symm ne_b2_b6) nin0)
  have E_ix8 := E_ix8.keep K12
  have F_ix8_slots := F_ix8_slots.keep K12 (ninS (Ne.symm ne_b2_ix8) nin0)
  have F_ix8_firsts := F_ix8_firsts.keep K12 (ninS (Ne.symm ne_b2_ix8) nin0)
  have F_ix8_lasts := F_ix8_lasts.keep K12 (ninS (Ne.symm ne_b2_ix8) nin0)
  have F_ix8_nexts := F_ix8_nexts.keep K12 (ninS (Ne.symm ne_b2_ix8) nin0)
  have F_ix8_relation := F_ix8_relation.keep K12 (ninS (Ne.symm ne_b2_ix8) nin0)
  have F_ix8_columns := F_ix8_columns.keep K12 (ninS (Ne.symm ne_b2_ix8) nin0)
  have F_ix8_scratch := F_ix8_scratch.keep K12 (ninS (Ne.symm ne_b2_ix8) nin0)
  have F_ix8_groups := F_ix8_groups.keep K12 (ninS (Ne.symm ne_b2_ix8) nin0)
  have V_sl8 := V_sl8.keep K12 (ninS (Ne.symm ne_b2_sl8) nin0)
  have V_fi8 := V_fi8.keep K12 (ninS (Ne.symm ne_b2_fi8) nin0)
  have V_la8 := V_la8.keep K12 (ninS (Ne.symm ne_b2_la8) nin0)
  have V_nx8 := V_nx8.keep K12 (ninS (Ne.symm ne_b2_nx8) nin0)
  have V_co8 := V_co8.keep K12 (ninS (Ne.symm ne_b2_co8) nin0)
  have V_sc8 := V_sc8.keep K12 (ninS (Ne.symm ne_b2_sc8) nin0)
  have KP := KP.trans K12 (allS (Or.inr sz_b2) (all0))
  have E_b2 := p12_0
  have F_b2_modCount := p12_1
  have F_b2_elementData := p12_2
  have F_b2_size := p12_3
  have E_ed12 := p12_4
  have V_ed12 := p12_5
  have O_ked12 := p12_6
  show Go p e below F n0 (fun v h' => ∃ al : Addr, ∃ ce : Addr, ∃ ix : Addr, ∃ ed : Addr, ∃ sl : Addr, ∃ fi : Addr, ∃ la : Addr, ∃ nx : Addr, ∃ co : Addr, ∃ sc : Addr, ∃ kce : ClassId, ∃ ked : ClassId, ∃ ksl : ClassId, ∃ kfi : ClassId, ∃ kla : ClassId, ∃ knx : ClassId, ∃ kco : ClassId, ∃ ksc : ClassId, v = none ∧ Keep h0 h' [o0] ∧ Exa Z h' o0 "com/example/nestor/nestor/engine/Relation" ∧ Fld Z h' o0 "com/example/nestor/nestor/engine/Relation" "indexes" "Ljava/util/List;" (.ref al) ∧ Fld Z h' o0 "com/example/nestor/nestor/engine/Relation" "arity" "I" (.int (1 : Int32)) ∧ Fld Z h' o0 "com/example/nestor/nestor/engine/Relation" "cells" "[I" (.ref ce) ∧ Fld Z h' o0 "com/example/nestor/nestor/engine/Relation" "unique" "Lcom/example/nestor/nestor/engine/Index;" (.ref ix) ∧ Fld Z h' o0 "com/example/nestor/nestor/engine/Relation" "size" "I" (.int (0 : Int32)) ∧ Fld Z h' o0 "com/example/nestor/nestor/engine/Relation" "source" "Lcom/example/nestor/nestor/engine/Relation;" .null ∧ Fld Z h' o0 "com/example/nestor/nestor/engine/Relation" "deltaStart" "I" (.int (0 : Int32)) ∧ Fld Z h' o0 "com/example/nestor/nestor/engine/Relation" "deltaEnd" "I" (.int (0 : Int32)) ∧ Exa Z h' ix "com/example/nestor/nestor/engine/Index" ∧ Fld Z h' ix "com/example/nestor/nestor/engine/Index" "slots" "[I" (.ref sl) ∧ Fld Z h' ix "com/example/nestor/nestor/engine/Index" "firsts" "[I" (.ref fi) ∧ Fld Z h' ix "com/example/nestor/nestor/engine/Index" "lasts" "[I" (.ref la) ∧ Fld Z h' ix "com/example/nestor/nestor/engine/Index" "nexts" "[I" (.ref nx) ∧ Fld Z h' ix "com/example/nestor/nestor/engine/Index" "relation" "Lcom/example/nestor/nestor/engine/Relation;" (.ref o0) ∧ Fld Z h' ix "com/example/nestor/nestor/engine/Index" "columns" "[I" (.ref co) ∧ Fld Z h' ix "com/example/nestor/nestor/engine/Index" "scratch" "[I" (.ref sc) ∧ Fld Z h' ix "com/example/nestor/nestor/engine/Index" "groups" "I" (.int (0 : Int32)) ∧ Exa Z h' al "java/util/ArrayList" ∧ Fld Z h' al "java/util/AbstractList" "modCount" "I" (.int (1 : Int32)) ∧ Fld Z h' al "java/util/ArrayList" "elementData" "[Ljava/lang/Object;" (.ref ed) ∧ Fld Z h' al "java/util/ArrayList" "size" "I" (.int (1 : Int32)) ∧ Arv Z h' sl ksl .int (16 : Int32) (own_z16.map Value.int) (.int (0 : Int32)) ∧ Arv Z h' fi kfi .int (8 : Int32) (own_z8.map Value.int) (.int (0 : Int32)) ∧ Arv Z h' la kla .int (8 : Int32) (own_z8.map Value.int) (.int (0 : Int32)) ∧ Arv Z h' nx knx .int (16 : Int32) (own_z16.map Value.int) (.int (0 : Int32)) ∧ Arv Z h' co kco .int (1 : Int32) [(.int (0 : Int32))] (.int (0 : Int32)) ∧ Arv Z h' sc ksc .int (1 : Int32) [(.int (0 : Int32))] (.int (0 : Int32)) ∧ Arv Z h' ce kce .int (16 : Int32) (own_z16.map Value.int) (.int (0 : Int32)) ∧ Exa Z h' ed "[Ljava/lang/Object;" ∧ Arv Z h' ed ked (.object "java/lang/Object") (10 : Int32) [(.ref ix), .null, .null, .null, .null, .null, .null, .null, .null, .null] .null ∧ Ovr Z ked "java/lang/Object" ∧ h0.size ≤ sl ∧ h0.size ≤ fi ∧ h0.size ≤ la ∧ h0.size ≤ nx ∧ h0.size ≤ co ∧ h0.size ≤ sc ∧ h0.size ≤ ce ∧ h0.size ≤ ed ∧ h0.size ≤ ix ∧ h0.size ≤ al ∧ sl ≠ fi ∧ sl ≠ la ∧ sl ≠ nx ∧ sl ≠ co ∧ sl ≠ sc ∧ sl ≠ ce ∧ sl ≠ ed ∧ fi ≠ la ∧ fi ≠ nx ∧ fi ≠ co ∧ fi ≠ sc ∧ fi ≠ ce ∧ fi ≠ ed ∧ la ≠ nx ∧ la ≠ co ∧ la ≠ sc ∧ la ≠ ce ∧ la ≠ ed ∧ nx ≠ co ∧ nx ≠ sc ∧ nx ≠ ce ∧ nx ≠ ed ∧ co ≠ sc ∧ co ≠ ce ∧ co ≠ ed ∧ sc ≠ ce ∧ sc ≠ ed ∧ ce ≠ ed ∧ own_Inv (0 : Int32) (0 : Int32) own_z16 own_z8 own_z8 own_z16 ∧ own_z16.length = 16) T12 (mkF m 51 #[.val (.ref o0), .val (.int (1 : Int32))] [(.int (1 : Int32))])
  refine C12.pop d1_51 rfl rfl ?_
  exact C12.retV d1_52 rfl (by decide) (by decide) ⟨b2, b6, ix8, ed12, sl8, fi8, la8, nx8, co8, sc8, k6, ked12, ksl8, kfi8, kla8, knx8, kco8, ksc8, rfl, KP, E_o0, F_o0_indexes, F_o0_arity, F_o0_cells, F_o0_unique, F_o0_size, F_o0_source, F_o0_deltaStart, F_o0_deltaEnd, E_ix8, F_ix8_slots, F_ix8_firsts, F_ix8_lasts, F_ix8_nexts, F_ix8_relation, F_ix8_columns, F_ix8_scratch, F_ix8_groups, E_b2, F_b2_modCount, F_b2_elementData, F_b2_size, V_sl8, V_fi8, V_la8, V_nx8, V_co8, V_sc8, V_b6, E_ed12, V_ed12, O_ked12, sz_sl8, sz_fi8, sz_la8, sz_nx8, sz_co8, sz_sc8, sz_b6, sz_ed12, sz_ix8, sz_b2, ne_sl8_fi8, ne_sl8_la8, ne_sl8_nx8, ne_sl8_co8, ne_sl8_sc8, (Ne.symm ne_b6_sl8), ne_sl8_ed12, ne_fi8_la8, ne_fi8_nx8, ne_fi8_co8, ne_fi8_sc8, (Ne.symm ne_b6_fi8), ne_fi8_ed12, ne_la8_nx8, ne_la8_co8, ne_la8_sc8, (Ne.symm ne_b6_la8), ne_la8_ed12, ne_nx8_co8, ne_nx8_sc8, (Ne.symm ne_b6_nx8), ne_nx8_ed12, ne_co8_sc8, (Ne.symm ne_b6_co8), ne_co8_ed12, (Ne.symm ne_b6_sc8), ne_sc8_ed12, ne_b6_ed12, own_inv0, rfl⟩
theorem pn30 : plainName "com/example/nestor/nestor/engine/Relation" = true := by first | (simp [plainName, overriddenIn]; done) | decide +kernel
theorem pd30 : parseMethodDescriptor "(II)I" = some ⟨[.int, .int], some .int⟩ := by decide +kernel
theorem ef30 (m : MethodId) (o0 : Addr) (i1 : Int32) (i2 : Int32) : entryFrame m #[(.ref o0), (.int i1), (.int i2)] 3 = mkF m 0 #[.val (.ref o0), .val (.int i1), .val (.int i2)] [] := by first | (simp [entryFrame, mkF, argsToLocals, Value.category]; done) | rfl
theorem d30_0 : decode prog_26_method_5_code 0 = .ok (.aload_n 0, 1) := by decide +kernel
theorem d30_1 : decode prog_26_method_5_code 1 = .ok (.getfield 20, 3) := by decide +kernel
theorem d30_4 : decode prog_26_method_5_code 4 = .ok (.iload_n 1, 1) := by decide +kernel
theorem d30_5 : decode prog_26_method_5_code 5 = .ok (.aload_n 0, 1) := by decide +kernel
theorem d30_6 : decode prog_26_method_5_code 6 = .ok (.getfield 16, 3) := by decide +kernel
theorem d30_9 : decode prog_26_method_5_code 9 = .ok (.imul, 1) := by decide +kernel
theorem d30_10 : decode prog_26_method_5_code 10 = .ok (.iload_n 2, 1) := by decide +kernel
theorem d30_11 : decode prog_26_method_5_code 11 = .ok (.iadd, 1) := by decide +kernel
theorem d30_12 : decode prog_26_method_5_code 12 = .ok (.iaload, 1) := by decide +kernel
theorem d30_13 : decode prog_26_method_5_code 13 = .ok (.ireturn, 1) := by decide +kernel
set_option maxRecDepth 65536 in
set_option maxHeartbeats 40000000 in
theorem rm30 (l : Launch) (Z : State) (a0 : Array Value) (hw : ∀ d ∈ tables_1, d.before a0 Z = true) (o0 : Addr) (i1 : Int32) (i2 : Int32) (ce : Addr) (kce : ClassId) (lC : List Int32) (h0 : Heap) (n0 : Nat) (Z0 : n0 ≤ h0.size) (E_o0 : Exa Z h0 o0 "com/example/nestor/nestor/engine/Relation") (F_o0_cells : Fld Z h0 o0 "com/example/nestor/nestor/engine/Relation" "cells" "[I" (.ref ce)) (F_o0_arity : Fld Z h0 o0 "com/example/nestor/nestor/engine/Relation" "arity" "I" (.int (1 : Int32))) (V_ce : Arv Z h0 ce kce .int (16 : Int32) (lC.map Value.int) (.int (0 : Int32))) (hb : ¬ ((i1 * (1 : Int32)) + i2) < (0 : Int32) ∧ ((i1 * (1 : Int32)) + i2) < (16 : Int32)) :
    Ctr l Z (⟨"com/example/nestor/nestor/engine/Relation", "value", "(II)I"⟩ : MethodName) prog_26_method_5_code 3 (some .int) ({ frames := 0, cells := 0, slots := 0, locals := 0 } : Room) #[(.ref o0), (.int i1), (.int i2)] h0 n0 (fun v h' => ∃ rr : Int32, v = some (.int rr) ∧ h' = h0) := by
  refine Ctr.body (L := #[.val (.ref o0), .val (.int i1), .val (.int i2)]) (plainFor_of_name pn30) Z0 (fun m => ef30 m o0 i1 i2) ?_
  intro p e F m below meth c T0 C0
  refine C0.aloadN d30_0 rfl rfl rfl ?_
  refine C0.getF (host := "") (Or.inl (hw _ (List.mem_of_getElem? (i := 38) rfl))) Via.refl F_o0_cells d30_1 rfl (fun T1 C1 => ?_)
  refine C1.iloadN d30_4 rfl rfl ?_
  refine C1.aloadN d30_5 rfl rfl rfl ?_
  refine C1.getF (host := "") (Or.inl (hw _ (List.mem_of_getElem? (i := 35) rfl))) Via.refl F_o0_arity d30_6 rfl (fun T2 C2 => ?_)
  refine C2.imul d30_9 rfl ?_
  refine C2.iloadN d30_10 rfl rfl ?_
  refine C2.iadd d30_11 rfl ?_
  refine C2.iaload (v := (lC.getD (((i1 * (1 : Int32)) + i2)).toNatClampNeg 0)) V_ce hb (own_getI lC _) d30_12 rfl ?_
  exact C2.retI d30_13 rfl (by decide) (by decide) ⟨(lC.getD (((i1 * (1 : Int32)) + i2)).toNatClampNeg 0), rfl, rfl⟩
set_option maxRecDepth 65536 in
set_option maxHeartbeats 40000000 in
theorem own_pre34_0 (o0 : Addr) (i1 : Int32) (o2 : Addr) (co : Addr) (rl : Addr) (ce : Addr) (kco : ClassId) (kce : ClassId) (lC : List Int32) (kv : Int32) (ko2 : ClassId) (hr : ¬ i1 < (0 : Int32) ∧ i1 < (16 : Int32)) : ¬ ((i1 * (1 : Int32)) + (0 : Int32)) < (0 : Int32) ∧ ((i1 * (1 : Int32)) + (0 : Int32)) < (16 : Int32) := by
  have ca_0 := c_iadd (i1 * (1 : Int32)) (0 : Int32)
  have ca_1 := c_imul i1 (1 : Int32)
  have ca_2 := c_iadd (i1 * (1 : Int32)) (0 : Int32)
  have ca_3 := c_imul i1 (1 : Int32)
  have bl_0 := (i1).le_toInt; have bu_0 := (i1).toInt_lt
  have bl_1 := ((i1 * (1 : Int32)) + (0 : Int32)).le_toInt; have bu_1 := ((i1 * (1 : Int32)) + (0 : Int32)).toInt_lt
  have bl_2 := (i1 * (1 : Int32)).le_toInt; have bu_2 := (i1 * (1 : Int32)).toInt_lt
  have bl_3 := (((i1 * (1 : Int32)) + (0 : Int32))).le_toInt; have bu_3 := (((i1 * (1 : Int32)) + (0 : Int32))).toInt_lt
  have bl_4 := ((i1 * (1 : Int32))).le_toInt; have bu_4 := ((i1 * (1 : Int32))).toInt_lt
  try simp only [List.length_map, List.length_set, List.length_append, List.length_take, List.length_drop, List.length_cons, List.length_nil, Int32.toNatClampNeg, own_eqite, own_iteeq] at *
  try simp only [ne_eq, and_true, true_and, or_true, true_or, and_false, false_and, or_false, false_or, not_true_eq_false, not_false_eq_true, Int32.lt_iff_toInt_lt, Int64.lt_iff_toInt_lt, ← Int32.toInt_inj, ← Int64.toInt_inj, Int32.reduceToInt, Int64.reduceToInt] at *
  omega
theorem pn34 : plainName "com/example/nestor/nestor/engine/Index" = true := by first | (simp [plainName, overriddenIn]; done) | decide +kernel
theorem pd34 : parseMethodDescriptor "(I[I)Z" = some ⟨[.int, (.array .int)], some .boolean⟩ := by decide +kernel
theorem ef34 (m : MethodId) (o0 : Addr) (i1 : Int32) (o2 : Addr) : entryFrame m #[(.ref o0), (.int i1), (.ref o2)] 4 = mkF m 0 #[.val (.ref o0), .val (.int i1), .val (.ref o2), .unset] [] := by first | (simp [entryFrame, mkF, argsToLocals, Value.category]; done) | rfl
theorem d34_0 : decode prog_21_method_10_code 0 = .ok (.iconst 0, 1) := by decide +kernel
theorem d34_1 : decode prog_21_method_10_code 1 = .ok (.istore_n 3, 1) := by decide +kernel
theorem d34_2 : decode prog_21_method_10_code 2 = .ok (.iload_n 3, 1) := by decide +kernel
theorem d34_3 : decode prog_21_method_10_code 3 = .ok (.aload_n 0, 1) := by decide +kernel
theorem d34_4 : decode prog_21_method_10_code 4 = .ok (.getfield 31, 3) := by decide +kernel
theorem d34_7 : decode prog_21_method_10_code 7 = .ok (.arraylength, 1) := by decide +kernel
theorem d34_8 : decode prog_21_method_10_code 8 = .ok (.if_icmp .ge 31, 3) := by decide +kernel
theorem d34_11 : decode prog_21_method_10_code 11 = .ok (.aload_n 0, 1) := by decide +kernel
theorem d34_12 : decode prog_21_method_10_code 12 = .ok (.getfield 22, 3) := by decide +kernel
theorem d34_15 : decode prog_21_method_10_code 15 = .ok (.iload_n 1, 1) := by decide +kernel
theorem d34_16 : decode prog_21_method_10_code 16 = .ok (.aload_n 0, 1) := by decide +kernel
theorem d34_17 : decode prog_21_method_10_code 17 = .ok (.getfield 31, 3) := by decide +kernel
theorem d34_20 : decode prog_21_method_10_code 20 = .ok (.iload_n 3, 1) := by decide +kernel
theorem d34_21 : decode prog_21_method_10_code 21 = .ok (.iaload, 1) := by decide +kernel
theorem d34_22 : decode prog_21_method_10_code 22 = .ok (.invokevirtual 85, 3) := by decide +kernel
theorem d34_25 : decode prog_21_method_10_code 25 = .ok (.aload_n 2, 1) := by decide +kernel
theorem d34_26 : decode prog_21_method_10_code 26 = .ok (.iload_n 3, 1) := by decide +kernel
theorem d34_27 : decode prog_21_method_10_code 27 = .ok (.iaload, 1) := by decide +kernel
theorem d34_28 : decode prog_21_method_10_code 28 = .ok (.if_icmp .eq 5, 3) := by decide +kernel
theorem d34_31 : decode prog_21_method_10_code 31 = .ok (.iconst 0, 1) := by decide +kernel
theorem d34_32 : decode prog_21_method_10_code 32 = .ok (.ireturn, 1) := by decide +kernel
theorem d34_33 : decode prog_21_method_10_code 33 = .ok (.iinc 3 1, 3) := by decide +kernel
theorem d34_36 : decode prog_21_method_10_code 36 = .ok (.goto (-34), 3) := by decide +kernel
theorem d34_39 : decode prog_21_method_10_code 39 = .ok (.iconst 1, 1) := by decide +kernel
theorem d34_40 : decode prog_21_method_10_code 40 = .ok (.ireturn, 1) := by decide +kernel
set_option maxRecDepth 65536 in
set_option maxHeartbeats 40000000 in
theorem rm34 (l : Launch) (Z : State) (a0 : Array Value) (hw : ∀ d ∈ tables_1, d.before a0 Z = true) (o0 : Addr) (i1 : Int32) (o2 : Addr) (co : Addr) (rl : Addr) (ce : Addr) (kco : ClassId) (kce : ClassId) (lC : List Int32) (kv : Int32) (ko2 : ClassId) (h0 : Heap) (n0 : Nat) (Z0 : n0 ≤ h0.size) (F_o0_columns : Fld Z h0 o0 "com/example/nestor/nestor/engine/Index" "columns" "[I" (.ref co)) (F_o0_relation : Fld Z h0 o0 "com/example/nestor/nestor/engine/Index" "relation" "Lcom/example/nestor/nestor/engine/Relation;" (.ref rl)) (E_rl : Exa Z h0 rl "com/example/nestor/nestor/engine/Relation") (F_rl_cells : Fld Z h0 rl "com/example/nestor/nestor/engine/Relation" "cells" "[I" (.ref ce)) (F_rl_arity : Fld Z h0 rl "com/example/nestor/nestor/engine/Relation" "arity" "I" (.int (1 : Int32))) (V_ce : Arv Z h0 ce kce .int (16 : Int32) (lC.map Value.int) (.int (0 : Int32))) (V_co : Arv Z h0 co kco .int (1 : Int32) [(.int (0 : Int32))] (.int (0 : Int32))) (V_o2 : Arv Z h0 o2 ko2 .int (1 : Int32) [(.int kv)] (.int (0 : Int32))) (hr : ¬ i1 < (0 : Int32) ∧ i1 < (16 : Int32)) :
    Ctr l Z (⟨"com/example/nestor/nestor/engine/Index", "holds", "(I[I)Z"⟩ : MethodName) prog_21_method_10_code 4 (some .boolean) ({ frames := 1, cells := 0, slots := 0, locals := 14 } : Room) #[(.ref o0), (.int i1), (.ref o2)] h0 n0 (fun v h' => ∃ rr : Int32, v = some (.int rr) ∧ h' = h0) := by
  refine Ctr.body (L := #[.val (.ref o0), .val (.int i1), .val (.ref o2), .unset]) (plainFor_of_name pn34) Z0 (fun m => ef34 m o0 i1 o2) ?_
  intro p e F m below meth c T0 C0
  refine C0.iconst (0 : Int32) d34_0 rfl rfl ?_
  refine C0.istoreN d34_1 rfl (L' := #[.val (.ref o0), .val (.int i1), .val (.ref o2), .val (.int (0 : Int32))]) rfl ?_
  refine C0.iloadN d34_2 rfl rfl ?_
  refine C0.aloadN d34_3 rfl rfl rfl ?_
  refine C0.getF (host := "") (Or.inl (hw _ (List.mem_of_getElem? (i := 86) rfl))) Via.refl F_o0_columns d34_4 rfl (fun T1 C1 => ?_)
  refine C1.arrlen V_co d34_7 rfl ?_
  refine C1.icmp_ge d34_8 (by decide) (by decide : _ = 39) rfl (fun q => absurd (by decide) q) (fun _ => ?_)
  refine C1.aloadN d34_11 rfl rfl rfl ?_
  refine C1.getF (host := "") (Or.inl (hw _ (List.mem_of_getElem? (i := 75) rfl))) Via.refl F_o0_relation d34_12 rfl (fun T2 C2 => ?_)
  refine C2.iloadN d34_15 rfl rfl ?_
  refine C2.aloadN d34_16 rfl rfl rfl ?_
  refine C2.getF (host := "") (Or.inl (hw _ (List.mem_of_getElem? (i := 86) rfl))) Via.refl F_o0_columns d34_17 rfl (fun T3 C3 => ?_)
  refine C3.iloadN d34_20 rfl rfl ?_
  refine C3.iaload (v := (0 : Int32)) V_co ⟨by decide, by decide⟩ rfl d34_21 rfl ?_
  refine C3.callV (hw _ (List.mem_of_getElem? (i := 227) rfl)) (hw _ (List.mem_of_getElem? (i := 228) rfl)) (hw _ (List.mem_of_getElem? (i := 230) rfl)) (hw _ (List.mem_of_getElem? (i := 229) rfl)) (hw _ (List.mem_of_getElem? (i := 2) rfl)) (hw _ (List.mem_of_getElem? (i := 231) rfl)) E_rl (by decide) (a := rl) (rm30 l Z a0 hw rl i1 (0 : Int32) ce kce lC h0 n0 C3.size E_rl F_rl_cells F_rl_arity V_ce (own_pre34_0 o0 i1 o2 co rl ce kco kce lC kv ko2 hr)) (argsL := [(.int i1), (.int (0 : Int32))]) pd30 rfl 0 (by decide) (by decide) (by decide) (by decide) (rest := []) rfl rfl (Nat.le_of_eq rfl) d34_22 rfl (fun v4 T4 h4 C4 qq4 => ?_)
  obtain ⟨rr4, rfl, hh4⟩ := qq4
  have hh4 := hh4.symm; subst hh4
  show Go p e below F n0 (fun v h' => ∃ rr : Int32, v = some (.int rr) ∧ h' = h0) T4 (mkF m 25 #[.val (.ref o0), .val (.int i1), .val (.ref o2), .val (.int (0 : Int32))] [(.int rr4)])
  refine C4.aloadN d34_25 rfl rfl rfl ?_
  refine C4.iloadN d34_26 rfl rfl ?_
  refine C4.iaload (v := kv) V_o2 ⟨by decide, by decide⟩ rfl d34_27 rfl ?_
  refine C4.icmp_eq d34_28 (by decide) (by decide : _ = 33) rfl (fun c28 => ?_) (fun c28 => ?_)
  · refine C4.iinc (1 : Int32) d34_33 rfl rfl rfl (L' := #[.val (.ref o0), .val (.int i1), .val (.ref o2), .val (.int ((0 : Int32) + (1 : Int32)))]) rfl ?_
    refine C4.goto d34_36 (by decide) (by decide : _ = 2) ?_
    refine C4.iloadN d34_2 rfl rfl ?_
    refine C4.aloadN d34_3 rfl rfl rfl ?_
    refine C4.getF (host := "") (Or.inl (hw _ (List.mem_of_getElem? (i := 86) rfl))) Via.refl F_o0_columns d34_4 rfl (fun T5 C5 => ?_)
    refine C5.arrlen V_co d34_7 rfl ?_
    refine C5.icmp_ge d34_8 (by decide) (by decide : _ = 39) rfl (fun _ => ?_) (fun q => absurd q (by decide))
    refine C5.iconst (1 : Int32) d34_39 rfl rfl ?_
    exact C5.retN (t := .boolean) d34_40 rfl (by simp) (by decide) (by decide) (w := (1 : Int32)) rfl ⟨(1 : Int32), rfl, rfl⟩
  · refine C4.iconst (0 : Int32) d34_31 rfl rfl ?_
    exact C4.retN (t := .boolean) d34_32 rfl (by simp) (by decide) (by decide) (w := (0 : Int32)) rfl ⟨(0 : Int32), rfl, rfl⟩
theorem pn22 : plainName "com/example/nestor/nestor/engine/Index" = true := by first | (simp [plainName, overriddenIn]; done) | decide +kernel
theorem pd22 : parseMethodDescriptor "([I)I" = some ⟨[(.array .int)], some .int⟩ := by decide +kernel
theorem ef22 (m : MethodId) (o0 : Addr) : entryFrame m #[(.ref o0)] 6 = mkF m 0 #[.val (.ref o0), .unset, .unset, .unset, .unset, .unset] [] := by first | (simp [entryFrame, mkF, argsToLocals, Value.category]; done) | rfl
theorem d22_0 : decode prog_21_method_12_code 0 = .ok (.iconst 0, 1) := by decide +kernel
theorem d22_1 : decode prog_21_method_12_code 1 = .ok (.istore_n 1, 1) := by decide +kernel
theorem d22_2 : decode prog_21_method_12_code 2 = .ok (.aload_n 0, 1) := by decide +kernel
theorem d22_3 : decode prog_21_method_12_code 3 = .ok (.astore_n 2, 1) := by decide +kernel
theorem d22_4 : decode prog_21_method_12_code 4 = .ok (.aload_n 2, 1) := by decide +kernel
theorem d22_5 : decode prog_21_method_12_code 5 = .ok (.arraylength, 1) := by decide +kernel
theorem d22_6 : decode prog_21_method_12_code 6 = .ok (.istore_n 3, 1) := by decide +kernel
theorem d22_7 : decode prog_21_method_12_code 7 = .ok (.iconst 0, 1) := by decide +kernel
theorem d22_8 : decode prog_21_method_12_code 8 = .ok (.istore 4, 2) := by decide +kernel
theorem d22_10 : decode prog_21_method_12_code 10 = .ok (.iload 4, 2) := by decide +kernel
theorem d22_12 : decode prog_21_method_12_code 12 = .ok (.iload_n 3, 1) := by decide +kernel
theorem d22_13 : decode prog_21_method_12_code 13 = .ok (.if_icmp .ge 23, 3) := by decide +kernel
theorem d22_16 : decode prog_21_method_12_code 16 = .ok (.aload_n 2, 1) := by decide +kernel
theorem d22_17 : decode prog_21_method_12_code 17 = .ok (.iload 4, 2) := by decide +kernel
theorem d22_19 : decode prog_21_method_12_code 19 = .ok (.iaload, 1) := by decide +kernel
theorem d22_20 : decode prog_21_method_12_code 20 = .ok (.istore 5, 2) := by decide +kernel
theorem d22_22 : decode prog_21_method_12_code 22 = .ok (.iload_n 1, 1) := by decide +kernel
theorem d22_23 : decode prog_21_method_12_code 23 = .ok (.iload 5, 2) := by decide +kernel
theorem d22_25 : decode prog_21_method_12_code 25 = .ok (.iadd, 1) := by decide +kernel
theorem d22_26 : decode prog_21_method_12_code 26 = .ok (.ldc 88, 2) := by decide +kernel
theorem d22_28 : decode prog_21_method_12_code 28 = .ok (.imul, 1) := by decide +kernel
theorem d22_29 : decode prog_21_method_12_code 29 = .ok (.istore_n 1, 1) := by decide +kernel
theorem d22_30 : decode prog_21_method_12_code 30 = .ok (.iinc 4 1, 3) := by decide +kernel
theorem d22_33 : decode prog_21_method_12_code 33 = .ok (.goto (-23), 3) := by decide +kernel
theorem d22_36 : decode prog_21_method_12_code 36 = .ok (.iload_n 1, 1) := by decide +kernel
theorem d22_37 : decode prog_21_method_12_code 37 = .ok (.iload_n 1, 1) := by decide +kernel
theorem d22_38 : decode prog_21_method_12_code 38 = .ok (.bipush 16, 2) := by decide +kernel
theorem d22_40 : decode prog_21_method_12_code 40 = .ok (.iushr, 1) := by decide +kernel
theorem d22_41 : decode prog_21_method_12_code 41 = .ok (.ixor, 1) := by decide +kernel
theorem d22_42 : decode prog_21_method_12_code 42 = .ok (.ireturn, 1) := by decide +kernel
set_option maxRecDepth 65536 in
set_option maxHeartbeats 40000000 in
theorem rm22 (l : Launch) (Z : State) (a0 : Array Value) (hw : ∀ d ∈ tables_1, d.before a0 Z = true) (o0 : Addr) (ko0 : ClassId) (kv : Int32) (h0 : Heap) (n0 : Nat) (Z0 : n0 ≤ h0.size) (V_o0 : Arv Z h0 o0 ko0 .int (1 : Int32) [(.int kv)] (.int (0 : Int32))) :
    Ctr l Z (⟨"com/example/nestor/nestor/engine/Index", "hash", "([I)I"⟩ : MethodName) prog_21_method_12_code 6 (some .int) ({ frames := 0, cells := 0, slots := 0, locals := 0 } : Room) #[(.ref o0)] h0 n0 (fun v h' => ∃ rr : Int32, v = some (.int rr) ∧ h' = h0) := by
  refine Ctr.body (L := #[.val (.ref o0), .unset, .unset, .unset, .unset, .unset]) (plainFor_of_name pn22) Z0 (fun m => ef22 m o0) ?_
  intro p e F m below meth c T0 C0
  refine C0.iconst (0 : Int32) d22_0 rfl rfl ?_
  refine C0.istoreN d22_1 rfl (L' := #[.val (.ref o0), .val (.int (0 : Int32)), .unset, .unset, .unset, .unset]) rfl ?_
  refine C0.aloadN d22_2 rfl rfl rfl ?_
  refine C0.astoreN d22_3 rfl rfl (L' := #[.val (.ref o0), .val (.int (0 : Int32)), .val (.ref o0), .unset, .unset, .unset]) rfl ?_
  refine C0.aloadN d22_4 rfl rfl rfl ?_
  refine C0.arrlen V_o0 d22_5 rfl ?_
  refine C0.istoreN d22_6 rfl (L' := #[.val (.ref o0), .val (.int (0 : Int32)), .val (.ref o0), .val (.int (1 : Int32)), .unset, .unset]) rfl ?_
  refine C0.iconst (0 : Int32) d22_7 rfl rfl ?_
  refine C0.istore d22_8 rfl (L' := #[.val (.ref o0), .val (.int (0 : Int32)), .val (.ref o0), .val (.int (1 : Int32)), .val (.int (0 : Int32)), .unset]) rfl ?_
  refine C0.iload d22_10 rfl rfl ?_
  refine C0.iloadN d22_12 rfl rfl ?_
  refine C0.icmp_ge d22_13 (by decide) (by decide : _ = 36) rfl (fun q => absurd (by decide) q) (fun _ => ?_)
  refine C0.aloadN d22_16 rfl rfl rfl ?_
  refine C0.iload d22_17 rfl rfl ?_
  refine C0.iaload (v := kv) V_o0 ⟨by decide, by decide⟩ rfl d22_19 rfl ?_
  refine C0.istore d22_20 rfl (L' := #[.val (.ref o0), .val (.int (0 : Int32)), .val (.ref o0), .val (.int (1 : Int32)), .val (.int (0 : Int32)), .val (.int kv)]) rfl ?_
  refine C0.iloadN d22_22 rfl rfl ?_
  refine C0.iload d22_23 rfl rfl ?_
  refine C0.iadd d22_25 rfl ?_
  refine C0.ldc (hw _ (List.mem_of_getElem? (i := 161) rfl)) d22_26 rfl ?_
  refine C0.imul d22_28 rfl ?_
  refine C0.istoreN d22_29 rfl (L' := #[.val (.ref o0), .val (.int (((0 : Int32) + kv) * (-1640531527 : Int32))), .val (.ref o0), .val (.int (1 : Int32)), .val (.int (0 : Int32)), .val (.int kv)]) rfl ?_
  refine C0.iinc (1 : Int32) d22_30 rfl rfl rfl (L' := #[.val (.ref o0), .val (.int (((0 : Int32) + kv) * (-1640531527 : Int32))), .val (.ref o0), .val (.int (1 : Int32)), .val (.int ((0 : Int32) + (1 : Int32))), .val (.int kv)]) rfl ?_
  refine C0.goto d22_33 (by decide) (by decide : _ = 10) ?_
  refine C0.iload d22_10 rfl rfl ?_
  refine C0.iloadN d22_12 rfl rfl ?_
  refine C0.icmp_ge d22_13 (by decide) (by decide : _ = 36) rfl (fun _ => ?_) (fun q => absurd q (by decide))
  refine C0.iloadN d22_36 rfl rfl ?_
  refine C0.iloadN d22_37 rfl rfl ?_
  refine C0.bipush (16 : Int32) d22_38 rfl rfl ?_
  refine C0.iushr d22_40 rfl ?_
  refine C0.ixor d22_41 rfl ?_
  exact C0.retI d22_42 rfl (by decide) (by decide) ⟨((((0 : Int32) + kv) * (-1640531527 : Int32)) ^^^ (((((0 : Int32) + kv) * (-1640531527 : Int32)).toUInt32 >>> ((16 : Int32) &&& 31).toUInt32).toInt32)), rfl, rfl⟩
set_option maxRecDepth 65536 in
set_option maxHeartbeats 40000000 in
theorem own_pre21_0 (o0 : Addr) (o1 : Addr) (sl : Addr) (fi : Addr) (co : Addr) (rl : Addr) (ce : Addr) (kco : ClassId) (kce : ClassId) (lC : List Int32) (kv : Int32) (ksl : ClassId) (kfi : ClassId) (lS : List Int32) (lF : List Int32) (lL : List Int32) (lN : List Int32) (gg : Int32) (y0 : Int32) (ko1 : ClassId) (rr2 : Int32) (hinv : own_Inv y0 gg lS lF lL lN) (hy : y0.toInt ≤ 2) : ¬ (rr2 &&& (15 : Int32)) < (0 : Int32) ∧ (rr2 &&& (15 : Int32)) < (16 : Int32) := by
  obtain ⟨q1, q2, q3, q4, q5, q6, q7, q8, q9, q10, q11⟩ := hinv
  clear q11
  clear q8 q9 q10
  have ca_0 := c_mask rr2 (15 : Int32) 4 (by decide) (by decide)
  have bl_0 := (y0).le_toInt; have bu_0 := (y0).toInt_lt
  have bl_1 := (rr2).le_toInt; have bu_1 := (rr2).toInt_lt
  try simp only [List.length_map, List.length_set, List.length_append, List.length_take, List.length_drop, List.length_cons, List.length_nil, Int32.toNatClampNeg, own_eqite, own_iteeq] at *
  try simp only [ne_eq, and_true, true_and, or_true, true_or, and_false, false_and, or_false, false_or, not_true_eq_false, not_false_eq_true, Int32.lt_iff_toInt_lt, Int64.lt_iff_toInt_lt, ← Int32.toInt_inj, ← Int64.toInt_inj, Int32.reduceToInt, Int64.reduceToInt] at *
  omega
set_option maxRecDepth 65536 in
set_option maxHeartbeats 40000000 in
theorem own_pre21_1 (o0 : Addr) (o1 : Addr) (sl : Addr) (fi : Addr) (co : Addr) (rl : Addr) (ce : Addr) (kco : ClassId) (kce : ClassId) (lC : List Int32) (kv : Int32) (ksl : ClassId) (kfi : ClassId) (lS : List Int32) (lF : List Int32) (lL : List Int32) (lN : List Int32) (gg : Int32) (y0 : Int32) (ko1 : ClassId) (rr2 : Int32) (sv : Int32) (hinv : own_Inv y0 gg lS lF lL lN) (hy : y0.toInt ≤ 2) (hs : ¬ sv < (0 : Int32) ∧ sv < (16 : Int32)) (c21 : ¬ (lS.getD (sv).toNatClampNeg 0) = (0 : Int32)) : ¬ ((lS.getD (sv).toNatClampNeg 0) - (1 : Int32)) < (0 : Int32) ∧ ((lS.getD (sv).toNatClampNeg 0) - (1 : Int32)) < (8 : Int32) := by
  obtain ⟨q1, q2, q3, q4, q5, q6, q7, q8, q9, q10, q11⟩ := hinv
  clear q11
  have qq0 := q8 (sv).toNatClampNeg
  clear q8 q9 q10
  have ca_0 := c_isub (lS.getD (sv).toNatClampNeg 0) (1 : Int32)
  have ca_1 := c_isub (lS.getD (sv).toNatClampNeg 0) (1 : Int32)
  have bl_0 := (y0).le_toInt; have bu_0 := (y0).toInt_lt
  have bl_1 := (sv).le_toInt; have bu_1 := (sv).toInt_lt
  have bl_2 := ((lS.getD (sv).toNatClampNeg 0) - (1 : Int32)).le_toInt; have bu_2 := ((lS.getD (sv).toNatClampNeg 0) - (1 : Int32)).toInt_lt
  have bl_3 := (((lS.getD (sv).toNatClampNeg 0) - (1 : Int32))).le_toInt; have bu_3 := (((lS.getD (sv).toNatClampNeg 0) - (1 : Int32))).toInt_lt
  try simp only [List.length_map, List.length_set, List.length_append, List.length_take, List.length_drop, List.length_cons, List.length_nil, Int32.toNatClampNeg, own_eqite, own_iteeq] at *
  try simp only [ne_eq, and_true, true_and, or_true, true_or, and_false, false_and, or_false, false_or, not_true_eq_false, not_false_eq_true, Int32.lt_iff_toInt_lt, Int64.lt_iff_toInt_lt, ← Int32.toInt_inj, ← Int64.toInt_inj, Int32.reduceToInt, Int64.reduceToInt] at *
  omega
set_option maxRecDepth 65536 in
set_option maxHeartbeats 40000000 in
theorem own_pre21_2 (o0 : Addr) (o1 : Addr) (sl : Addr) (fi : Addr) (co : Addr) (rl : Addr) (ce : Addr) (kco : ClassId) (kce : ClassId) (lC : List Int32) (kv : Int32) (ksl : ClassId) (kfi : ClassId) (lS : List Int32) (lF : List Int32) (lL : List Int32) (lN : List Int32) (gg : Int32) (y0 : Int32) (ko1 : ClassId) (rr2 : Int32) (sv : Int32) (hinv : own_Inv y0 gg lS lF lL lN) (hy : y0.toInt ≤ 2) (hs : ¬ sv < (0 : Int32) ∧ sv < (16 : Int32)) (c21 : ¬ (lS.getD (sv).toNatClampNeg 0) = (0 : Int32)) : ¬ (lF.getD (((lS.getD (sv).toNatClampNeg 0) - (1 : Int32))).toNatClampNeg 0) < (0 : Int32) ∧ (lF.getD (((lS.getD (sv).toNatClampNeg 0) - (1 : Int32))).toNatClampNeg 0) < (16 : Int32) := by
  obtain ⟨q1, q2, q3, q4, q5, q6, q7, q8, q9, q10, q11⟩ := hinv
  clear q11
  have qq0 := q8 (sv).toNatClampNeg
  have qq1 := q9 (((lS.getD (sv).toNatClampNeg 0) - (1 : Int32))).toNatClampNeg
  clear q8 q9 q10
  have ca_0 := c_isub (lS.getD (sv).toNatClampNeg 0) (1 : Int32)
  have bl_0 := (y0).le_toInt; have bu_0 := (y0).toInt_lt
  have bl_1 := (sv).le_toInt; have bu_1 := (sv).toInt_lt
  have bl_2 := (((lS.getD (sv).toNatClampNeg 0) - (1 : Int32))).le_toInt; have bu_2 := (((lS.getD (sv).toNatClampNeg 0) - (1 : Int32))).toInt_lt
  try simp only [List.length_map, List.length_set, List.length_append, List.length_take, List.length_drop, List.length_cons, List.length_nil, Int32.toNatClampNeg, own_eqite, own_iteeq] at *
  try simp only [ne_eq, and_true, true_and, or_true, true_or, and_false, false_and, or_false, false_or, not_true_eq_false, not_false_eq_true, Int32.lt_iff_toInt_lt, Int64.lt_iff_toInt_lt, ← Int32.toInt_inj, ← Int64.toInt_inj, Int32.reduceToInt, Int64.reduceToInt] at *
  omega
set_option maxRecDepth 65536 in
set_option maxHeartbeats 40000000 in
theorem own_pre21_3 (o0 : Addr) (o1 : Addr) (sl : Addr) (fi : Addr) (co : Addr) (rl : Addr) (ce : Addr) (kco : ClassId) (kce : ClassId) (lC : List Int32) (kv : Int32) (ksl : ClassId) (kfi : ClassId) (lS : List Int32) (lF : List Int32) (lL : List Int32) (lN : List Int32) (gg : Int32) (y0 : Int32) (ko1 : ClassId) (rr2 : Int32) (sv : Int32) (rr9 : Int32) (hinv : own_Inv y0 gg lS lF lL lN) (hy : y0.toInt ≤ 2) (hs : ¬ sv < (0 : Int32) ∧ sv < (16 : Int32)) (c21 : ¬ (lS.getD (sv).toNatClampNeg 0) = (0 : Int32)) (c42 : rr9 = (0 : Int32)) : ¬ ((sv + (1 : Int32)) &&& (15 : Int32)) < (0 : Int32) ∧ ((sv + (1 : Int32)) &&& (15 : Int32)) < (16 : Int32) := by
  obtain ⟨q1, q2, q3, q4, q5, q6, q7, q8, q9, q10, q11⟩ := hinv
  clear q11
  have qq0 := q8 (sv).toNatClampNeg
  clear q8 q9 q10
  have ca_0 := c_iadd sv (1 : Int32)
  have ca_1 := c_mask (sv + (1 : Int32)) (15 : Int32) 4 (by decide) (by decide)
  have ca_2 := c_iadd sv (1 : Int32)
  have bl_0 := (y0).le_toInt; have bu_0 := (y0).toInt_lt
  have bl_1 := (sv).le_toInt; have bu_1 := (sv).toInt_lt
  have bl_2 := (rr9).le_toInt; have bu_2 := (rr9).toInt_lt
  have bl_3 := (sv + (1 : Int32)).le_toInt; have bu_3 := (sv + (1 : Int32)).toInt_lt
  have bl_4 := ((sv + (1 : Int32))).le_toInt; have bu_4 := ((sv + (1 : Int32))).toInt_lt
  try simp only [List.length_map, List.length_set, List.length_append, List.length_take, List.length_drop, List.length_cons, List.length_nil, Int32.toNatClampNeg, own_eqite, own_iteeq] at *
  try simp only [ne_eq, and_true, true_and, or_true, true_or, and_false, false_and, or_false, false_or, not_true_eq_false, not_false_eq_true, Int32.lt_iff_toInt_lt, Int64.lt_iff_toInt_lt, ← Int32.toInt_inj, ← Int64.toInt_inj, Int32.reduceToInt, Int64.reduceToInt] at *
  omega
theorem pn21 : plainName "com/example/nestor/nestor/engine/Index" = true := by first | (simp [plainName, overriddenIn]; done) | decide +kernel
theorem pd21 : parseMethodDescriptor "([I)I" = some ⟨[(.array .int)], some .int⟩ := by decide +kernel
theorem ef21 (m : MethodId) (o0 : Addr) (o1 : Addr) : entryFrame m #[(.ref o0), (.ref o1)] 4 = mkF m 0 #[.val (.ref o0), .val (.ref o1), .unset, .unset] [] := by first | (simp [entryFrame, mkF, argsToLocals, Value.category]; done) | rfl
theorem d21_0 : decode prog_21_method_8_code 0 = .ok (.aload_n 0, 1) := by decide +kernel
theorem d21_1 : decode prog_21_method_8_code 1 = .ok (.getfield 7, 3) := by decide +kernel
theorem d21_4 : decode prog_21_method_8_code 4 = .ok (.arraylength, 1) := by decide +kernel
theorem d21_5 : decode prog_21_method_8_code 5 = .ok (.iconst 1, 1) := by decide +kernel
theorem d21_6 : decode prog_21_method_8_code 6 = .ok (.isub, 1) := by decide +kernel
theorem d21_7 : decode prog_21_method_8_code 7 = .ok (.istore_n 2, 1) := by decide +kernel
theorem d21_8 : decode prog_21_method_8_code 8 = .ok (.aload_n 1, 1) := by decide +kernel
theorem d21_9 : decode prog_21_method_8_code 9 = .ok (.invokestatic 78, 3) := by decide +kernel
theorem d21_12 : decode prog_21_method_8_code 12 = .ok (.iload_n 2, 1) := by decide +kernel
theorem d21_13 : decode prog_21_method_8_code 13 = .ok (.iand, 1) := by decide +kernel
theorem d21_14 : decode prog_21_method_8_code 14 = .ok (.istore_n 3, 1) := by decide +kernel
theorem d21_15 : decode prog_21_method_8_code 15 = .ok (.aload_n 0, 1) := by decide +kernel
theorem d21_16 : decode prog_21_method_8_code 16 = .ok (.getfield 7, 3) := by decide +kernel
theorem d21_19 : decode prog_21_method_8_code 19 = .ok (.iload_n 3, 1) := by decide +kernel
theorem d21_20 : decode prog_21_method_8_code 20 = .ok (.iaload, 1) := by decide +kernel
theorem d21_21 : decode prog_21_method_8_code 21 = .ok (.ifCond .eq 33, 3) := by decide +kernel
theorem d21_24 : decode prog_21_method_8_code 24 = .ok (.aload_n 0, 1) := by decide +kernel
theorem d21_25 : decode prog_21_method_8_code 25 = .ok (.aload_n 0, 1) := by decide +kernel
theorem d21_26 : decode prog_21_method_8_code 26 = .ok (.getfield 13, 3) := by decide +kernel
theorem d21_29 : decode prog_21_method_8_code 29 = .ok (.aload_n 0, 1) := by decide +kernel
theorem d21_30 : decode prog_21_method_8_code 30 = .ok (.getfield 7, 3) := by decide +kernel
theorem d21_33 : decode prog_21_method_8_code 33 = .ok (.iload_n 3, 1) := by decide +kernel
theorem d21_34 : decode prog_21_method_8_code 34 = .ok (.iaload, 1) := by decide +kernel
theorem d21_35 : decode prog_21_method_8_code 35 = .ok (.iconst 1, 1) := by decide +kernel
theorem d21_36 : decode prog_21_method_8_code 36 = .ok (.isub, 1) := by decide +kernel
theorem d21_37 : decode prog_21_method_8_code 37 = .ok (.iaload, 1) := by decide +kernel
theorem d21_38 : decode prog_21_method_8_code 38 = .ok (.aload_n 1, 1) := by decide +kernel
theorem d21_39 : decode prog_21_method_8_code 39 = .ok (.invokevirtual 81, 3) := by decide +kernel
theorem d21_42 : decode prog_21_method_8_code 42 = .ok (.ifCond .ne 12, 3) := by decide +kernel
theorem d21_45 : decode prog_21_method_8_code 45 = .ok (.iload_n 3, 1) := by decide +kernel
theorem d21_46 : decode prog_21_method_8_code 46 = .ok (.iconst 1, 1) := by decide +kernel
theorem d21_47 : decode prog_21_method_8_code 47 = .ok (.iadd, 1) := by decide +kernel
theorem d21_48 : decode prog_21_method_8_code 48 = .ok (.iload_n 2, 1) := by decide +kernel
theorem d21_49 : decode prog_21_method_8_code 49 = .ok (.iand, 1) := by decide +kernel
theorem d21_50 : decode prog_21_method_8_code 50 = .ok (.istore_n 3, 1) := by decide +kernel
theorem d21_51 : decode prog_21_method_8_code 51 = .ok (.goto (-36), 3) := by decide +kernel
theorem d21_54 : decode prog_21_method_8_code 54 = .ok (.iload_n 3, 1) := by decide +kernel
theorem d21_55 : decode prog_21_method_8_code 55 = .ok (.ireturn, 1) := by decide +kernel
set_option maxRecDepth 65536 in
set_option maxHeartbeats 40000000 in
theorem rm21 (l : Launch) (Z : State) (a0 : Array Value) (hw : ∀ d ∈ tables_1, d.before a0 Z = true) (o0 : Addr) (o1 : Addr) (sl : Addr) (fi : Addr) (co : Addr) (rl : Addr) (ce : Addr) (kco : ClassId) (kce : ClassId) (lC : List Int32) (kv : Int32) (ksl : ClassId) (kfi : ClassId) (lS : List Int32) (lF : List Int32) (lL : List Int32) (lN : List Int32) (gg : Int32) (y0 : Int32) (ko1 : ClassId) (h0 : Heap) (n0 : Nat) (Z0 : n0 ≤ h0.size) (E_o0 : Exa Z h0 o0 "com/example/nestor/nestor/engine/Index") (F_o0_slots : Fld Z h0 o0 "com/example/nestor/nestor/engine/Index" "slots" "[I" (.ref sl)) (F_o0_firsts : Fld Z h0 o0 "com/example/nestor/nestor/engine/Index" "firsts" "[I" (.ref fi)) (V_sl : Arv Z h0 sl ksl .int (16 : Int32) (lS.map Value.int) (.int (0 : Int32))) (V_fi : Arv Z h0 fi kfi .int (8 : Int32) (lF.map Value.int) (.int (0 : Int32))) (F_o0_columns : Fld Z h0 o0 "com/example/nestor/nestor/engine/Index" "columns" "[I" (.ref co)) (F_o0_relation : Fld Z h0 o0 "com/example/nestor/nestor/engine/Index" "relation" "Lcom/example/nestor/nestor/engine/Relation;" (.ref rl)) (E_rl : Exa Z h0 rl "com/example/nestor/nestor/engine/Relation") (F_rl_cells : Fld Z h0 rl "com/example/nestor/nestor/engine/Relation" "cells" "[I" (.ref ce)) (F_rl_arity : Fld Z h0 rl "com/example/nestor/nestor/engine/Relation" "arity" "I" (.int (1 : Int32))) (V_ce : Arv Z h0 ce kce .int (16 : Int32) (lC.map Value.int) (.int (0 : Int32))) (V_co : Arv Z h0 co kco .int (1 : Int32) [(.int (0 : Int32))] (.int (0 : Int32))) (hinv : own_Inv y0 gg lS lF lL lN) (hy : y0.toInt ≤ 2) (V_o1 : Arv Z h0 o1 ko1 .int (1 : Int32) [(.int kv)] (.int (0 : Int32))) :
    Ctr l Z (⟨"com/example/nestor/nestor/engine/Index", "probe", "([I)I"⟩ : MethodName) prog_21_method_8_code 4 (some .int) ({ frames := 2, cells := 0, slots := 0, locals := 29 } : Room) #[(.ref o0), (.ref o1)] h0 n0 (fun v h' => ∃ rr : Int32, v = some (.int rr) ∧ h' = h0 ∧ ¬ rr < (0 : Int32) ∧ rr < (16 : Int32)) := by
  refine Ctr.body (L := #[.val (.ref o0), .val (.ref o1), .unset, .unset]) (plainFor_of_name pn21) Z0 (fun m => ef21 m o0 o1) ?_
  intro p e F m below meth c T0 C0
  refine C0.aloadN d21_0 rfl rfl rfl ?_
  refine C0.getF (host := "") (Or.inl (hw _ (List.mem_of_getElem? (i := 67) rfl))) Via.refl F_o0_slots d21_1 rfl (fun T1 C1 => ?_)
  refine C1.arrlen V_sl d21_4 rfl ?_
  refine C1.iconst (1 : Int32) d21_5 rfl rfl ?_
  refine C1.isub d21_6 rfl ?_
  rw [show ((16 : Int32) - (1 : Int32)) = (15 : Int32) from by decide]
  refine C1.istoreN d21_7 rfl (L' := #[.val (.ref o0), .val (.ref o1), .val (.int (15 : Int32)), .unset]) rfl ?_
  refine C1.aloadN d21_8 rfl rfl rfl ?_
  refine C1.callS (hw _ (List.mem_of_getElem? (i := 158) rfl)) (hw _ (List.mem_of_getElem? (i := 159) rfl)) (hw _ (List.mem_of_getElem? (i := 62) rfl)) (hw _ (List.mem_of_getElem? (i := 160) rfl)) (by decide) (rm22 l Z a0 hw o1 ko1 kv h0 n0 C1.size V_o1) (argsL := [(.ref o1)]) pd22 rfl 0 (by decide) (by decide) (by decide) (by decide) (rest := []) rfl rfl (Nat.le_of_eq rfl) d21_9 rfl (fun v2 T2 h2 C2 qq2 => ?_)
  obtain ⟨rr2, rfl, hh2⟩ := qq2
  have hh2 := hh2.symm; subst hh2
  show Go p e below F n0 (fun v h' => ∃ rr : Int32, v = some (.int rr) ∧ h' = h0 ∧ ¬ rr < (0 : Int32) ∧ rr < (16 : Int32)) T2 (mkF m 12 #[.val (.ref o0), .val (.ref o1), .val (.int (15 : Int32)), .unset] [(.int rr2)])
  refine C2.iloadN d21_12 rfl rfl ?_
  refine C2.iand d21_13 rfl ?_
  refine C2.istoreN d21_14 rfl (L' := #[.val (.ref o0), .val (.ref o1), .val (.int (15 : Int32)), .val (.int (rr2 &&& (15 : Int32)))]) rfl ?_
  obtain ⟨kk, hkk⟩ := own_free hinv hy (rr2 &&& (15 : Int32)) (own_pre21_0 o0 o1 sl fi co rl ce kco kce lC kv ksl kfi lS lF lL lN gg y0 ko1 rr2 hinv hy)
  have LP : ∀ (k : Nat) (T : State) (sv : Int32), Cx p l e ({ frames := 2, cells := 0, slots := 0, locals := 29 } : Room) m #[(.ref o0), (.ref o1)] below meth c Z (⟨"com/example/nestor/nestor/engine/Index", "probe", "([I)I"⟩ : MethodName) prog_21_method_8_code 4 (some .int) n0 false F T h0 0 0 → ¬ sv < (0 : Int32) ∧ sv < (16 : Int32) → (lS.getD (own_it k sv).toNatClampNeg 0) = (0 : Int32) → Go p e below F n0 (fun v h' => ∃ rr : Int32, v = some (.int rr) ∧ h' = h0 ∧ ¬ rr < (0 : Int32) ∧ rr < (16 : Int32)) T (mkF m 15 #[.val (.ref o0), .val (.ref o1), .val (.int (15 : Int32)), .val (.int sv)] []) := by
    intro k
    induction k with
    | zero =>
      intro T3 sv C3 hs hk
      refine C3.aloadN d21_15 rfl rfl rfl ?_
      refine C3.getF (host := "") (Or.inl (hw _ (List.mem_of_getElem? (i := 67) rfl))) Via.refl F_o0_slots d21_16 rfl (fun T4 C4 => ?_)
      refine C4.iloadN d21_19 rfl rfl ?_
      refine C4.iaload (v := (lS.getD (sv).toNatClampNeg 0)) V_sl hs (own_getI lS _) d21_20 rfl ?_
      refine C4.if_eq d21_21 (by decide) (by decide : _ = 54) rfl (fun _ => ?_) (fun q => absurd hk q)
      refine C4.iloadN d21_54 rfl rfl ?_
      exact C4.retI d21_55 rfl (by decide) (by decide) ⟨sv, rfl, rfl, hs⟩
    | succ k ih =>
      intro T5 sv C5 hs hk
      refine C5.aloadN d21_15 rfl rfl rfl ?_
      refine C5.getF (host := "") (Or.inl (hw _ (List.mem_of_getElem? (i := 67) rfl))) Via.refl F_o0_slots d21_16 rfl (fun T6 C6 => ?_)
      refine C6.iloadN d21_19 rfl rfl ?_
      refine C6.iaload (v := (lS.getD (sv).toNatClampNeg 0)) V_sl hs (own_getI lS _) d21_20 rfl ?_
      refine C6.if_eq d21_21 (by decide) (by decide : _ = 54) rfl (fun c21 => ?_) (fun c21 => ?_)
      · refine C6.iloadN d21_54 rfl rfl ?_
        exact C6.retI d21_55 rfl (by decide) (by decide) ⟨sv, rfl, rfl, hs⟩
      · refine C6.aloadN d21_24 rfl rfl rfl ?_
        refine C6.aloadN d21_25 rfl rfl rfl ?_
        refine C6.getF (host := "") (Or.inl (hw _ (List.mem_of_getElem? (i := 69) rfl))) Via.refl F_o0_firsts d21_26 rfl (fun T7 C7 => ?_)
        refine C7.aloadN d21_29 rfl rfl rfl ?_
        refine C7.getF (host := "") (Or.inl (hw _ (List.mem_of_getElem? (i := 67) rfl))) Via.refl F_o0_slots d21_30 rfl (fun T8 C8 => ?_)
        refine C8.iloadN d21_33 rfl rfl ?_
        refine C8.iaload (v := (lS.getD (sv).toNatClampNeg 0)) V_sl hs (own_getI lS _) d21_34 rfl ?_
        refine C8.iconst (1 : Int32) d21_35 rfl rfl ?_
        refine C8.isub d21_36 rfl ?_
        refine C8.iaload (v := (lF.getD (((lS.getD (sv).toNatClampNeg 0) - (1 : Int32))).toNatClampNeg 0)) V_fi (own_pre21_1 o0 o1 sl fi co rl ce kco kce lC kv ksl kfi lS lF lL lN gg y0 ko1 rr2 sv hinv hy hs c21) (own_getI lF _) d21_37 rfl ?_
        refine C8.aloadN d21_38 rfl rfl rfl ?_
        refine C8.callP (hw _ (List.mem_of_getElem? (i := 254) rfl)) (hw _ (List.mem_of_getElem? (i := 255) rfl)) (own_selP (y2 := ({ cls := "com/example/nestor/nestor/engine/Index", name := "first", desc := "([I)I" } : Jvm.MethodName)) rfl (hw _ (List.mem_of_getElem? (i := 152) rfl)) (hw _ (List.mem_of_getElem? (i := 256) rfl)) (hw _ (List.mem_of_getElem? (i := 255) rfl)) (by decide)) (hw _ (List.mem_of_getElem? (i := 256) rfl)) (hw _ (List.mem_of_getElem? (i := 62) rfl)) (hw _ (List.mem_of_getElem? (i := 257) rfl)) E_o0 (by decide) (a := o0) (rm34 l Z a0 hw o0 (lF.getD (((lS.getD (sv).toNatClampNeg 0) - (1 : Int32))).toNatClampNeg 0) o1 co rl ce kco kce lC kv ko1 h0 n0 C8.size F_o0_columns F_o0_relation E_rl F_rl_cells F_rl_arity V_ce V_co V_o1 (own_pre21_2 o0 o1 sl fi co rl ce kco kce lC kv ksl kfi lS lF lL lN gg y0 ko1 rr2 sv hinv hy hs c21)) (argsL := [(.int (lF.getD (((lS.getD (sv).toNatClampNeg 0) - (1 : Int32))).toNatClampNeg 0)), (.ref o1)]) pd34 rfl 0 (by decide) (by decide) (by decide) (by decide) (rest := []) rfl rfl (Nat.le_of_eq rfl) d21_39 rfl (fun v9 T9 h9 C9 qq9 => ?_)
        obtain ⟨rr9, rfl, hh9⟩ := qq9
        have hh9 := hh9.symm; subst hh9
        show Go p e below F n0 (fun v h' => ∃ rr : Int32, v = some (.int rr) ∧ h' = h0 ∧ ¬ rr < (0 : Int32) ∧ rr < (16 : Int32)) T9 (mkF m 42 #[.val (.ref o0), .val (.ref o1), .val (.int (15 : Int32)), .val (.int sv)] [(.int rr9)])
        refine C9.if_ne d21_42 (by decide) (by decide : _ = 54) rfl (fun c42 => ?_) (fun c42 => ?_)
        · refine C9.iloadN d21_54 rfl rfl ?_
          exact C9.retI d21_55 rfl (by decide) (by decide) ⟨sv, rfl, rfl, hs⟩
        · refine C9.iloadN d21_45 rfl rfl ?_
          refine C9.iconst (1 : Int32) d21_46 rfl rfl ?_
          refine C9.iadd d21_47 rfl ?_
          refine C9.iloadN d21_48 rfl rfl ?_
          refine C9.iand d21_49 rfl ?_
          refine C9.istoreN d21_50 rfl (L' := #[.val (.ref o0), .val (.ref o1), .val (.int (15 : Int32)), .val (.int ((sv + (1 : Int32)) &&& (15 : Int32)))]) rfl ?_
          refine C9.goto d21_51 (by decide) (by decide : _ = 15) ?_
          exact ih _ _ C9 (own_pre21_3 o0 o1 sl fi co rl ce kco kce lC kv ksl kfi lS lF lL lN gg y0 ko1 rr2 sv rr9 hinv hy hs c21 c42) hk
  exact LP kk _ _ C2 (own_pre21_0 o0 o1 sl fi co rl ce kco kce lC kv ksl kfi lS lF lL lN gg y0 ko1 rr2 hinv hy) hkk
set_option maxRecDepth 65536 in
set_option maxHeartbeats 40000000 in
theorem own_pre20_0 (o0 : Addr) (o1 : Addr) (sl : Addr) (fi : Addr) (co : Addr) (rl : Addr) (ce : Addr) (kco : ClassId) (kce : ClassId) (lC : List Int32) (kv : Int32) (ksl : ClassId) (kfi : ClassId) (lS : List Int32) (lF : List Int32) (lL : List Int32) (lN : List Int32) (gg : Int32) (y0 : Int32) (ko1 : ClassId) (rr2 : Int32) (hinv : own_Inv y0 gg lS lF lL lN) (hy : y0.toInt ≤ 2) (hrr_2 : ¬ rr2 < (0 : Int32) ∧ rr2 < (16 : Int32)) (c14 : ¬ ((lS.getD (rr2).toNatClampNeg 0) - (1 : Int32)) < (0 : Int32)) : ¬ ((lS.getD (rr2).toNatClampNeg 0) - (1 : Int32)) < (0 : Int32) ∧ ((lS.getD (rr2).toNatClampNeg 0) - (1 : Int32)) < (8 : Int32) := by
  obtain ⟨q1, q2, q3, q4, q5, q6, q7, q8, q9, q10, q11⟩ := hinv
  clear q11
  have qq0 := q8 (rr2).toNatClampNeg
  clear q8 q9 q10
  have ca_0 := c_isub (lS.getD (rr2).toNatClampNeg 0) (1 : Int32)
  have ca_1 := c_isub (lS.getD (rr2).toNatClampNeg 0) (1 : Int32)
  have bl_0 := (y0).le_toInt; have bu_0 := (y0).toInt_lt
  have bl_1 := (rr2).le_toInt; have bu_1 := (rr2).toInt_lt
  have bl_2 := ((lS.getD (rr2).toNatClampNeg 0) - (1 : Int32)).le_toInt; have bu_2 := ((lS.getD (rr2).toNatClampNeg 0) - (1 : Int32)).toInt_lt
  have bl_3 := (((lS.getD (rr2).toNatClampNeg 0) - (1 : Int32))).le_toInt; have bu_3 := (((lS.getD (rr2).toNatClampNeg 0) - (1 : Int32))).toInt_lt
  try simp only [List.length_map, List.length_set, List.length_append, List.length_take, List.length_drop, List.length_cons, List.length_nil, Int32.toNatClampNeg, own_eqite, own_iteeq] at *
  try simp only [ne_eq, and_true, true_and, or_true, true_or, and_false, false_and, or_false, false_or, not_true_eq_false, not_false_eq_true, Int32.lt_iff_toInt_lt, Int64.lt_iff_toInt_lt, ← Int32.toInt_inj, ← Int64.toInt_inj, Int32.reduceToInt, Int64.reduceToInt] at *
  omega
theorem pn20 : plainName "com/example/nestor/nestor/engine/Index" = true := by first | (simp [plainName, overriddenIn]; done) | decide +kernel
theorem pd20 : parseMethodDescriptor "([I)I" = some ⟨[(.array .int)], some .int⟩ := by decide +kernel
theorem ef20 (m : MethodId) (o0 : Addr) (o1 : Addr) : entryFrame m #[(.ref o0), (.ref o1)] 3 = mkF m 0 #[.val (.ref o0), .val (.ref o1), .unset] [] := by first | (simp [entryFrame, mkF, argsToLocals, Value.category]; done) | rfl
theorem d20_0 : decode prog_21_method_5_code 0 = .ok (.aload_n 0, 1) := by decide +kernel
theorem d20_1 : decode prog_21_method_5_code 1 = .ok (.getfield 7, 3) := by decide +kernel
theorem d20_4 : decode prog_21_method_5_code 4 = .ok (.aload_n 0, 1) := by decide +kernel
theorem d20_5 : decode prog_21_method_5_code 5 = .ok (.aload_n 1, 1) := by decide +kernel
theorem d20_6 : decode prog_21_method_5_code 6 = .ok (.invokevirtual 57, 3) := by decide +kernel
theorem d20_9 : decode prog_21_method_5_code 9 = .ok (.iaload, 1) := by decide +kernel
theorem d20_10 : decode prog_21_method_5_code 10 = .ok (.iconst 1, 1) := by decide +kernel
theorem d20_11 : decode prog_21_method_5_code 11 = .ok (.isub, 1) := by decide +kernel
theorem d20_12 : decode prog_21_method_5_code 12 = .ok (.istore_n 2, 1) := by decide +kernel
theorem d20_13 : decode prog_21_method_5_code 13 = .ok (.iload_n 2, 1) := by decide +kernel
theorem d20_14 : decode prog_21_method_5_code 14 = .ok (.ifCond .ge 7, 3) := by decide +kernel
theorem d20_17 : decode prog_21_method_5_code 17 = .ok (.iconst (-1), 1) := by decide +kernel
theorem d20_18 : decode prog_21_method_5_code 18 = .ok (.goto 9, 3) := by decide +kernel
theorem d20_21 : decode prog_21_method_5_code 21 = .ok (.aload_n 0, 1) := by decide +kernel
theorem d20_22 : decode prog_21_method_5_code 22 = .ok (.getfield 13, 3) := by decide +kernel
theorem d20_25 : decode prog_21_method_5_code 25 = .ok (.iload_n 2, 1) := by decide +kernel
theorem d20_26 : decode prog_21_method_5_code 26 = .ok (.iaload, 1) := by decide +kernel
theorem d20_27 : decode prog_21_method_5_code 27 = .ok (.ireturn, 1) := by decide +kernel
set_option maxRecDepth 65536 in
set_option maxHeartbeats 40000000 in
theorem rm20 (l : Launch) (Z : State) (a0 : Array Value) (hw : ∀ d ∈ tables_1, d.before a0 Z = true) (o0 : Addr) (o1 : Addr) (sl : Addr) (fi : Addr) (co : Addr) (rl : Addr) (ce : Addr) (kco : ClassId) (kce : ClassId) (lC : List Int32) (kv : Int32) (ksl : ClassId) (kfi : ClassId) (lS : List Int32) (lF : List Int32) (lL : List Int32) (lN : List Int32) (gg : Int32) (y0 : Int32) (ko1 : ClassId) (h0 : Heap) (n0 : Nat) (Z0 : n0 ≤ h0.size) (E_o0 : Exa Z h0 o0 "com/example/nestor/nestor/engine/Index") (F_o0_slots : Fld Z h0 o0 "com/example/nestor/nestor/engine/Index" "slots" "[I" (.ref sl)) (F_o0_firsts : Fld Z h0 o0 "com/example/nestor/nestor/engine/Index" "firsts" "[I" (.ref fi)) (V_sl : Arv Z h0 sl ksl .int (16 : Int32) (lS.map Value.int) (.int (0 : Int32))) (V_fi : Arv Z h0 fi kfi .int (8 : Int32) (lF.map Value.int) (.int (0 : Int32))) (F_o0_columns : Fld Z h0 o0 "com/example/nestor/nestor/engine/Index" "columns" "[I" (.ref co)) (F_o0_relation : Fld Z h0 o0 "com/example/nestor/nestor/engine/Index" "relation" "Lcom/example/nestor/nestor/engine/Relation;" (.ref rl)) (E_rl : Exa Z h0 rl "com/example/nestor/nestor/engine/Relation") (F_rl_cells : Fld Z h0 rl "com/example/nestor/nestor/engine/Relation" "cells" "[I" (.ref ce)) (F_rl_arity : Fld Z h0 rl "com/example/nestor/nestor/engine/Relation" "arity" "I" (.int (1 : Int32))) (V_ce : Arv Z h0 ce kce .int (16 : Int32) (lC.map Value.int) (.int (0 : Int32))) (V_co : Arv Z h0 co kco .int (1 : Int32) [(.int (0 : Int32))] (.int (0 : Int32))) (hinv : own_Inv y0 gg lS lF lL lN) (hy : y0.toInt ≤ 2) (V_o1 : Arv Z h0 o1 ko1 .int (1 : Int32) [(.int kv)] (.int (0 : Int32))) :
    Ctr l Z (⟨"com/example/nestor/nestor/engine/Index", "first", "([I)I"⟩ : MethodName) prog_21_method_5_code 3 (some .int) ({ frames := 3, cells := 0, slots := 0, locals := 45 } : Room) #[(.ref o0), (.ref o1)] h0 n0 (fun v h' => ∃ rr : Int32, v = some (.int rr) ∧ h' = h0) := by
  refine Ctr.body (L := #[.val (.ref o0), .val (.ref o1), .unset]) (plainFor_of_name pn20) Z0 (fun m => ef20 m o0 o1) ?_
  intro p e F m below meth c T0 C0
  refine C0.aloadN d20_0 rfl rfl rfl ?_
  refine C0.getF (host := "") (Or.inl (hw _ (List.mem_of_getElem? (i := 67) rfl))) Via.refl F_o0_slots d20_1 rfl (fun T1 C1 => ?_)
  refine C1.aloadN d20_4 rfl rfl rfl ?_
  refine C1.aloadN d20_5 rfl rfl rfl ?_
  refine C1.callP (hw _ (List.mem_of_getElem? (i := 154) rfl)) (hw _ (List.mem_of_getElem? (i := 155) rfl)) (own_selP (y2 := ({ cls := "com/example/nestor/nestor/engine/Index", name := "first", desc := "([I)I" } : Jvm.MethodName)) rfl (hw _ (List.mem_of_getElem? (i := 152) rfl)) (hw _ (List.mem_of_getElem? (i := 156) rfl)) (hw _ (List.mem_of_getElem? (i := 155) rfl)) (by decide)) (hw _ (List.mem_of_getElem? (i := 156) rfl)) (hw _ (List.mem_of_getElem? (i := 62) rfl)) (hw _ (List.mem_of_getElem? (i := 157) rfl)) E_o0 (by decide) (a := o0) (rm21 l Z a0 hw o0 o1 sl fi co rl ce kco kce lC kv ksl kfi lS lF lL lN gg y0 ko1 h0 n0 C1.size E_o0 F_o0_slots F_o0_firsts V_sl V_fi F_o0_columns F_o0_relation E_rl F_rl_cells F_rl_arity V_ce V_co hinv hy V_o1) (argsL := [(.ref o1)]) pd21 rfl 1 (by decide) (by decide) (by decide) (by decide) (rest := [(.ref sl)]) rfl rfl (Nat.le_of_eq rfl) d20_6 rfl (fun v2 T2 h2 C2 qq2 => ?_)
  obtain ⟨rr2, rfl, hh2, p2_0⟩ := qq2
  have hh2 := hh2.symm; subst hh2
  have hrr_2 := p2_0
  show Go p e below F n0 (fun v h' => ∃ rr : Int32, v = some (.int rr) ∧ h' = h0) T2 (mkF m 9 #[.val (.ref o0), .val (.ref o1), .unset] [(.int rr2), (.ref sl)])
  refine C2.iaload (v := (lS.getD (rr2).toNatClampNeg 0)) V_sl hrr_2 (own_getI lS _) d20_9 rfl ?_
  refine C2.iconst (1 : Int32) d20_10 rfl rfl ?_
  refine C2.isub d20_11 rfl ?_
  refine C2.istoreN d20_12 rfl (L' := #[.val (.ref o0), .val (.ref o1), .val (.int ((lS.getD (rr2).toNatClampNeg 0) - (1 : Int32)))]) rfl ?_
  refine C2.iloadN d20_13 rfl rfl ?_
  refine C2.if_ge d20_14 (by decide) (by decide : _ = 21) rfl (fun c14 => ?_) (fun c14 => ?_)
  · refine C2.aloadN d20_21 rfl rfl rfl ?_
    refine C2.getF (host := "") (Or.inl (hw _ (List.mem_of_getElem? (i := 69) rfl))) Via.refl F_o0_firsts d20_22 rfl (fun T3 C3 => ?_)
    refine C3.iloadN d20_25 rfl rfl ?_
    refine C3.iaload (v := (lF.getD (((lS.getD (rr2).toNatClampNeg 0) - (1 : Int32))).toNatClampNeg 0)) V_fi (own_pre20_0 o0 o1 sl fi co rl ce kco kce lC kv ksl kfi lS lF lL lN gg y0 ko1 rr2 hinv hy hrr_2 c14) (own_getI lF _) d20_26 rfl ?_
    exact C3.retI d20_27 rfl (by decide) (by decide) ⟨(lF.getD (((lS.getD (rr2).toNatClampNeg 0) - (1 : Int32))).toNatClampNeg 0), rfl, rfl⟩
  · refine C2.iconst (-1 : Int32) d20_17 rfl rfl ?_
    refine C2.goto d20_18 (by decide) (by decide : _ = 27) ?_
    exact C2.retI d20_27 rfl (by decide) (by decide) ⟨(-1 : Int32), rfl, rfl⟩
theorem pn19 : plainName "com/example/nestor/nestor/engine/Relation" = true := by first | (simp [plainName, overriddenIn]; done) | decide +kernel
theorem pd19 : parseMethodDescriptor "([I)I" = some ⟨[(.array .int)], some .int⟩ := by decide +kernel
theorem ef19 (m : MethodId) (o0 : Addr) (o1 : Addr) : entryFrame m #[(.ref o0), (.ref o1)] 2 = mkF m 0 #[.val (.ref o0), .val (.ref o1)] [] := by first | (simp [entryFrame, mkF, argsToLocals, Value.category]; done) | rfl
theorem d19_0 : decode prog_26_method_11_code 0 = .ok (.aload_n 0, 1) := by decide +kernel
theorem d19_1 : decode prog_26_method_11_code 1 = .ok (.getfield 28, 3) := by decide +kernel
theorem d19_4 : decode prog_26_method_11_code 4 = .ok (.aload_n 1, 1) := by decide +kernel
theorem d19_5 : decode prog_26_method_11_code 5 = .ok (.invokevirtual 129, 3) := by decide +kernel
theorem d19_8 : decode prog_26_method_11_code 8 = .ok (.ireturn, 1) := by decide +kernel
set_option maxRecDepth 65536 in
set_option maxHeartbeats 40000000 in
theorem rm19 (l : Launch) (Z : State) (a0 : Array Value) (hw : ∀ d ∈ tables_1, d.before a0 Z = true) (o0 : Addr) (o1 : Addr) (sl : Addr) (fi : Addr) (co : Addr) (ce : Addr) (kco : ClassId) (kce : ClassId) (lC : List Int32) (kv : Int32) (ksl : ClassId) (kfi : ClassId) (lS : List Int32) (lF : List Int32) (lL : List Int32) (lN : List Int32) (gg : Int32) (y0 : Int32) (ix : Addr) (ko1 : ClassId) (h0 : Heap) (n0 : Nat) (Z0 : n0 ≤ h0.size) (E_o0 : Exa Z h0 o0 "com/example/nestor/nestor/engine/Relation") (F_o0_unique : Fld Z h0 o0 "com/example/nestor/nestor/engine/Relation" "unique" "Lcom/example/nestor/nestor/engine/Index;" (.ref ix)) (E_ix : Exa Z h0 ix "com/example/nestor/nestor/engine/Index") (F_ix_slots : Fld Z h0 ix "com/example/nestor/nestor/engine/Index" "slots" "[I" (.ref sl)) (F_ix_firsts : Fld Z h0 ix "com/example/nestor/nestor/engine/Index" "firsts" "[I" (.ref fi)) (V_sl : Arv Z h0 sl ksl .int (16 : Int32) (lS.map Value.int) (.int (0 : Int32))) (V_fi : Arv Z h0 fi kfi .int (8 : Int32) (lF.map Value.int) (.int (0 : Int32))) (F_ix_columns : Fld Z h0 ix "com/example/nestor/nestor/engine/Index" "columns" "[I" (.ref co)) (F_ix_relation : Fld Z h0 ix "com/example/nestor/nestor/engine/Index" "relation" "Lcom/example/nestor/nestor/engine/Relation;" (.ref o0)) (E_o0 : Exa Z h0 o0 "com/example/nestor/nestor/engine/Relation") (F_o0_cells : Fld Z h0 o0 "com/example/nestor/nestor/engine/Relation" "cells" "[I" (.ref ce)) (F_o0_arity : Fld Z h0 o0 "com/example/nestor/nestor/engine/Relation" "arity" "I" (.int (1 : Int32))) (V_ce : Arv Z h0 ce kce .int (16 : Int32) (lC.map Value.int) (.int (0 : Int32))) (V_co : Arv Z h0 co kco .int (1 : Int32) [(.int (0 : Int32))] (.int (0 : Int32))) (hinv : own_Inv y0 gg lS lF lL lN) (hy : y0.toInt ≤ 2) (V_o1 : Arv Z h0 o1 ko1 .int (1 : Int32) [(.int kv)] (.int (0 : Int32))) :
    Ctr l Z (⟨"com/example/nestor/nestor/engine/Relation", "find", "([I)I"⟩ : MethodName) prog_26_method_11_code 2 (some .int) ({ frames := 4, cells := 0, slots := 0, locals := 59 } : Room) #[(.ref o0), (.ref o1)] h0 n0 (fun v h' => ∃ rr : Int32, v = some (.int rr) ∧ h' = h0) := by
  refine Ctr.body (L := #[.val (.ref o0), .val (.ref o1)]) (plainFor_of_name pn19) Z0 (fun m => ef19 m o0 o1) ?_
  intro p e F m below meth c T0 C0
  refine C0.aloadN d19_0 rfl rfl rfl ?_
  refine C0.getF (host := "") (Or.inl (hw _ (List.mem_of_getElem? (i := 97) rfl))) Via.refl F_o0_unique d19_1 rfl (fun T1 C1 => ?_)
  refine C1.aloadN d19_4 rfl rfl rfl ?_
  refine C1.callV (hw _ (List.mem_of_getElem? (i := 149) rfl)) (hw _ (List.mem_of_getElem? (i := 150) rfl)) (hw _ (List.mem_of_getElem? (i := 152) rfl)) (hw _ (List.mem_of_getElem? (i := 151) rfl)) (hw _ (List.mem_of_getElem? (i := 62) rfl)) (hw _ (List.mem_of_getElem? (i := 153) rfl)) E_ix (by decide) (a := ix) (rm20 l Z a0 hw ix o1 sl fi co o0 ce kco kce lC kv ksl kfi lS lF lL lN gg y0 ko1 h0 n0 C1.size E_ix F_ix_slots F_ix_firsts V_sl V_fi F_ix_columns F_ix_relation E_o0 F_o0_cells F_o0_arity V_ce V_co hinv hy V_o1) (argsL := [(.ref o1)]) pd20 rfl 0 (by decide) (by decide) (by decide) (by decide) (rest := []) rfl rfl (Nat.le_of_eq rfl) d19_5 rfl (fun v2 T2 h2 C2 qq2 => ?_)
  obtain ⟨rr2, rfl, hh2⟩ := qq2
  have hh2 := hh2.symm; subst hh2
  show Go p e below F n0 (fun v h' => ∃ rr : Int32, v = some (.int rr) ∧ h' = h0) T2 (mkF m 8 #[.val (.ref o0), .val (.ref o1)] [(.int rr2)])
  exact C2.retI d19_8 rfl (by decide) (by decide) ⟨rr2, rfl, rfl⟩
theorem pn18 : plainName "com/example/nestor/nestor/engine/Relation" = true := by first | (simp [plainName, overriddenIn]; done) | decide +kernel
theorem pd18 : parseMethodDescriptor "([I)Z" = some ⟨[(.array .int)], some .boolean⟩ := by decide +kernel
theorem ef18 (m : MethodId) (o0 : Addr) (o1 : Addr) : entryFrame m #[(.ref o0), (.ref o1)] 2 = mkF m 0 #[.val (.ref o0), .val (.ref o1)] [] := by first | (simp [entryFrame, mkF, argsToLocals, Value.category]; done) | rfl
theorem d18_0 : decode prog_26_method_10_code 0 = .ok (.aload_n 0, 1) := by decide +kernel
theorem d18_1 : decode prog_26_method_10_code 1 = .ok (.aload_n 1, 1) := by decide +kernel
theorem d18_2 : decode prog_26_method_10_code 2 = .ok (.invokevirtual 125, 3) := by decide +kernel
theorem d18_5 : decode prog_26_method_10_code 5 = .ok (.iconst (-1), 1) := by decide +kernel
theorem d18_6 : decode prog_26_method_10_code 6 = .ok (.if_icmp .eq 7, 3) := by decide +kernel
theorem d18_9 : decode prog_26_method_10_code 9 = .ok (.iconst 1, 1) := by decide +kernel
theorem d18_10 : decode prog_26_method_10_code 10 = .ok (.goto 4, 3) := by decide +kernel
theorem d18_13 : decode prog_26_method_10_code 13 = .ok (.iconst 0, 1) := by decide +kernel
theorem d18_14 : decode prog_26_method_10_code 14 = .ok (.ireturn, 1) := by decide +kernel
set_option maxRecDepth 65536 in
set_option maxHeartbeats 40000000 in
theorem rm18 (l : Launch) (Z : State) (a0 : Array Value) (hw : ∀ d ∈ tables_1, d.before a0 Z = true) (o0 : Addr) (o1 : Addr) (sl : Addr) (fi : Addr) (co : Addr) (ce : Addr) (kco : ClassId) (kce : ClassId) (lC : List Int32) (kv : Int32) (ksl : ClassId) (kfi : ClassId) (lS : List Int32) (lF : List Int32) (lL : List Int32) (lN : List Int32) (gg : Int32) (y0 : Int32) (ix : Addr) (ko1 : ClassId) (h0 : Heap) (n0 : Nat) (Z0 : n0 ≤ h0.size) (E_o0 : Exa Z h0 o0 "com/example/nestor/nestor/engine/Relation") (F_o0_unique : Fld Z h0 o0 "com/example/nestor/nestor/engine/Relation" "unique" "Lcom/example/nestor/nestor/engine/Index;" (.ref ix)) (E_ix : Exa Z h0 ix "com/example/nestor/nestor/engine/Index") (F_ix_slots : Fld Z h0 ix "com/example/nestor/nestor/engine/Index" "slots" "[I" (.ref sl)) (F_ix_firsts : Fld Z h0 ix "com/example/nestor/nestor/engine/Index" "firsts" "[I" (.ref fi)) (V_sl : Arv Z h0 sl ksl .int (16 : Int32) (lS.map Value.int) (.int (0 : Int32))) (V_fi : Arv Z h0 fi kfi .int (8 : Int32) (lF.map Value.int) (.int (0 : Int32))) (F_ix_columns : Fld Z h0 ix "com/example/nestor/nestor/engine/Index" "columns" "[I" (.ref co)) (F_ix_relation : Fld Z h0 ix "com/example/nestor/nestor/engine/Index" "relation" "Lcom/example/nestor/nestor/engine/Relation;" (.ref o0)) (E_o0 : Exa Z h0 o0 "com/example/nestor/nestor/engine/Relation") (F_o0_cells : Fld Z h0 o0 "com/example/nestor/nestor/engine/Relation" "cells" "[I" (.ref ce)) (F_o0_arity : Fld Z h0 o0 "com/example/nestor/nestor/engine/Relation" "arity" "I" (.int (1 : Int32))) (V_ce : Arv Z h0 ce kce .int (16 : Int32) (lC.map Value.int) (.int (0 : Int32))) (V_co : Arv Z h0 co kco .int (1 : Int32) [(.int (0 : Int32))] (.int (0 : Int32))) (hinv : own_Inv y0 gg lS lF lL lN) (hy : y0.toInt ≤ 2) (V_o1 : Arv Z h0 o1 ko1 .int (1 : Int32) [(.int kv)] (.int (0 : Int32))) :
    Ctr l Z (⟨"com/example/nestor/nestor/engine/Relation", "contains", "([I)Z"⟩ : MethodName) prog_26_method_10_code 2 (some .boolean) ({ frames := 5, cells := 0, slots := 0, locals := 72 } : Room) #[(.ref o0), (.ref o1)] h0 n0 (fun v h' => ∃ rr : Int32, v = some (.int rr) ∧ h' = h0) := by
  refine Ctr.body (L := #[.val (.ref o0), .val (.ref o1)]) (plainFor_of_name pn18) Z0 (fun m => ef18 m o0 o1) ?_
  intro p e F m below meth c T0 C0
  refine C0.aloadN d18_0 rfl rfl rfl ?_
  refine C0.aloadN d18_1 rfl rfl rfl ?_
  refine C0.callV (hw _ (List.mem_of_getElem? (i := 144) rfl)) (hw _ (List.mem_of_getElem? (i := 145) rfl)) (hw _ (List.mem_of_getElem? (i := 147) rfl)) (hw _ (List.mem_of_getElem? (i := 146) rfl)) (hw _ (List.mem_of_getElem? (i := 2) rfl)) (hw _ (List.mem_of_getElem? (i := 148) rfl)) E_o0 (by decide) (a := o0) (rm19 l Z a0 hw o0 o1 sl fi co ce kco kce lC kv ksl kfi lS lF lL lN gg y0 ix ko1 h0 n0 C0.size E_o0 F_o0_unique E_ix F_ix_slots F_ix_firsts V_sl V_fi F_ix_columns F_ix_relation E_o0 F_o0_cells F_o0_arity V_ce V_co hinv hy V_o1) (argsL := [(.ref o1)]) pd19 rfl 0 (by decide) (by decide) (by decide) (by decide) (rest := []) rfl rfl (Nat.le_of_eq rfl) d18_2 rfl (fun v1 T1 h1 C1 qq1 => ?_)
  obtain ⟨rr1, rfl, hh1⟩ := qq1
  have hh1 := hh1.symm; subst hh1
  show Go p e below F n0 (fun v h' => ∃ rr : Int32, v = some (.int rr) ∧ h' = h0) T1 (mkF m 5 #[.val (.ref o0), .val (.ref o1)] [(.int rr1)])
  refine C1.iconst (-1 : Int32) d18_5 rfl rfl ?_
  refine C1.icmp_eq d18_6 (by decide) (by decide : _ = 13) rfl (fun c6 => ?_) (fun c6 => ?_)
  · refine C1.iconst (0 : Int32) d18_13 rfl rfl ?_
    exact C1.retN (t := .boolean) d18_14 rfl (by simp) (by decide) (by decide) (w := (0 : Int32)) rfl ⟨(0 : Int32), rfl, rfl⟩
  · refine C1.iconst (1 : Int32) d18_9 rfl rfl ?_
    refine C1.goto d18_10 (by decide) (by decide : _ = 14) ?_
    exact C1.retN (t := .boolean) d18_14 rfl (by simp) (by decide) (by decide) (w := (1 : Int32)) rfl ⟨(1 : Int32), rfl, rfl⟩
set_option maxRecDepth 65536 in
set_option maxHeartbeats 40000000 in
theorem own_pre29_0 (o0 : Addr) (i1 : Int32) (o2 : Addr) (co : Addr) (rl : Addr) (ce : Addr) (kco : ClassId) (kce : ClassId) (lC : List Int32) (kv : Int32) (ko2 : ClassId) (hr : ¬ i1 < (0 : Int32) ∧ i1 < (16 : Int32)) : ¬ ((i1 * (1 : Int32)) + (0 : Int32)) < (0 : Int32) ∧ ((i1 * (1 : Int32)) + (0 : Int32)) < (16 : Int32) := by
  have ca_0 := c_iadd (i1 * (1 : Int32)) (0 : Int32)
  have ca_1 := c_imul i1 (1 : Int32)
  have ca_2 := c_iadd (i1 * (1 : Int32)) (0 : Int32)
  have ca_3 := c_imul i1 (1 : Int32)
  have bl_0 := (i1).le_toInt; have bu_0 := (i1).toInt_lt
  have bl_1 := ((i1 * (1 : Int32)) + (0 : Int32)).le_toInt; have bu_1 := ((i1 * (1 : Int32)) + (0 : Int32)).toInt_lt
  have bl_2 := (i1 * (1 : Int32)).le_toInt; have bu_2 := (i1 * (1 : Int32)).toInt_lt
  have bl_3 := (((i1 * (1 : Int32)) + (0 : Int32))).le_toInt; have bu_3 := (((i1 * (1 : Int32)) + (0 : Int32))).toInt_lt
  have bl_4 := ((i1 * (1 : Int32))).le_toInt; have bu_4 := ((i1 * (1 : Int32))).toInt_lt
  try simp only [List.length_map, List.length_set, List.length_append, List.length_take, List.length_drop, List.length_cons, List.length_nil, Int32.toNatClampNeg, own_eqite, own_iteeq] at *
  try simp only [ne_eq, and_true, true_and, or_true, true_or, and_false, false_and, or_false, false_or, not_true_eq_false, not_false_eq_true, Int32.lt_iff_toInt_lt, Int64.lt_iff_toInt_lt, ← Int32.toInt_inj, ← Int64.toInt_inj, Int32.reduceToInt, Int64.reduceToInt] at *
  omega
theorem pn29 : plainName "com/example/nestor/nestor/engine/Index" = true := by first | (simp [plainName, overriddenIn]; done) | decide +kernel
theorem pd29 : parseMethodDescriptor "(I[I)V" = some ⟨[.int, (.array .int)], none⟩ := by decide +kernel
theorem ef29 (m : MethodId) (o0 : Addr) (i1 : Int32) (o2 : Addr) : entryFrame m #[(.ref o0), (.int i1), (.ref o2)] 4 = mkF m 0 #[.val (.ref o0), .val (.int i1), .val (.ref o2), .unset] [] := by first | (simp [entryFrame, mkF, argsToLocals, Value.category]; done) | rfl
theorem d29_0 : decode prog_21_method_9_code 0 = .ok (.iconst 0, 1) := by decide +kernel
theorem d29_1 : decode prog_21_method_9_code 1 = .ok (.istore_n 3, 1) := by decide +kernel
theorem d29_2 : decode prog_21_method_9_code 2 = .ok (.iload_n 3, 1) := by decide +kernel
theorem d29_3 : decode prog_21_method_9_code 3 = .ok (.aload_n 0, 1) := by decide +kernel
theorem d29_4 : decode prog_21_method_9_code 4 = .ok (.getfield 31, 3) := by decide +kernel
theorem d29_7 : decode prog_21_method_9_code 7 = .ok (.arraylength, 1) := by decide +kernel
theorem d29_8 : decode prog_21_method_9_code 8 = .ok (.if_icmp .ge 26, 3) := by decide +kernel
theorem d29_11 : decode prog_21_method_9_code 11 = .ok (.aload_n 2, 1) := by decide +kernel
theorem d29_12 : decode prog_21_method_9_code 12 = .ok (.iload_n 3, 1) := by decide +kernel
theorem d29_13 : decode prog_21_method_9_code 13 = .ok (.aload_n 0, 1) := by decide +kernel
theorem d29_14 : decode prog_21_method_9_code 14 = .ok (.getfield 22, 3) := by decide +kernel
theorem d29_17 : decode prog_21_method_9_code 17 = .ok (.iload_n 1, 1) := by decide +kernel
theorem d29_18 : decode prog_21_method_9_code 18 = .ok (.aload_n 0, 1) := by decide +kernel
theorem d29_19 : decode prog_21_method_9_code 19 = .ok (.getfield 31, 3) := by decide +kernel
theorem d29_22 : decode prog_21_method_9_code 22 = .ok (.iload_n 3, 1) := by decide +kernel
theorem d29_23 : decode prog_21_method_9_code 23 = .ok (.iaload, 1) := by decide +kernel
theorem d29_24 : decode prog_21_method_9_code 24 = .ok (.invokevirtual 85, 3) := by decide +kernel
theorem d29_27 : decode prog_21_method_9_code 27 = .ok (.iastore, 1) := by decide +kernel
theorem d29_28 : decode prog_21_method_9_code 28 = .ok (.iinc 3 1, 3) := by decide +kernel
theorem d29_31 : decode prog_21_method_9_code 31 = .ok (.goto (-29), 3) := by decide +kernel
theorem d29_34 : decode prog_21_method_9_code 34 = .ok (.return_, 1) := by decide +kernel
set_option maxRecDepth 65536 in
set_option maxHeartbeats 40000000 in
theorem rm29 (l : Launch) (Z : State) (a0 : Array Value) (hw : ∀ d ∈ tables_1, d.before a0 Z = true) (o0 : Addr) (i1 : Int32) (o2 : Addr) (co : Addr) (rl : Addr) (ce : Addr) (kco : ClassId) (kce : ClassId) (lC : List Int32) (kv : Int32) (ko2 : ClassId) (h0 : Heap) (n0 : Nat) (Z0 : n0 ≤ h0.size) (E_o0 : Exa Z h0 o0 "com/example/nestor/nestor/engine/Index") (F_o0_columns : Fld Z h0 o0 "com/example/nestor/nestor/engine/Index" "columns" "[I" (.ref co)) (F_o0_relation : Fld Z h0 o0 "com/example/nestor/nestor/engine/Index" "relation" "Lcom/example/nestor/nestor/engine/Relation;" (.ref rl)) (E_rl : Exa Z h0 rl "com/example/nestor/nestor/engine/Relation") (F_rl_cells : Fld Z h0 rl "com/example/nestor/nestor/engine/Relation" "cells" "[I" (.ref ce)) (F_rl_arity : Fld Z h0 rl "com/example/nestor/nestor/engine/Relation" "arity" "I" (.int (1 : Int32))) (V_ce : Arv Z h0 ce kce .int (16 : Int32) (lC.map Value.int) (.int (0 : Int32))) (V_co : Arv Z h0 co kco .int (1 : Int32) [(.int (0 : Int32))] (.int (0 : Int32))) (V_o2 : Arv Z h0 o2 ko2 .int (1 : Int32) [(.int kv)] (.int (0 : Int32))) (g_o2 : n0 ≤ o2) (hr : ¬ i1 < (0 : Int32) ∧ i1 < (16 : Int32)) (ne_co_o2 : co ≠ o2) (ne_ce_o2 : ce ≠ o2) :
    Ctr l Z (⟨"com/example/nestor/nestor/engine/Index", "keyOf", "(I[I)V"⟩ : MethodName) prog_21_method_9_code 4 none ({ frames := 1, cells := 0, slots := 0, locals := 16 } : Room) #[(.ref o0), (.int i1), (.ref o2)] h0 n0 (fun v h' => ∃ kw : Int32, v = none ∧ Keep h0 h' [o2] ∧ Arv Z h' o2 ko2 .int (1 : Int32) [(.int kw)] (.int (0 : Int32))) := by
  refine Ctr.body (L := #[.val (.ref o0), .val (.int i1), .val (.ref o2), .unset]) (plainFor_of_name pn29) Z0 (fun m => ef29 m o0 i1 o2) ?_
  intro p e F m below meth c T0 C0
  have KP : Keep h0 h0 [o2] := Keep.refl h0 _
  refine C0.iconst (0 : Int32) d29_0 rfl rfl ?_
  refine C0.istoreN d29_1 rfl (L' := #[.val (.ref o0), .val (.int i1), .val (.ref o2), .val (.int (0 : Int32))]) rfl ?_
  refine C0.iloadN d29_2 rfl rfl ?_
  refine C0.aloadN d29_3 rfl rfl rfl ?_
  refine C0.getF (host := "") (Or.inl (hw _ (List.mem_of_getElem? (i := 86) rfl))) Via.refl F_o0_columns d29_4 rfl (fun T1 C1 => ?_)
  refine C1.arrlen V_co d29_7 rfl ?_
  refine C1.icmp_ge d29_8 (by decide) (by decide : _ = 34) rfl (fun q => absurd (by decide) q) (fun _ => ?_)
  refine C1.aloadN d29_11 rfl rfl rfl ?_
  refine C1.iloadN d29_12 rfl rfl ?_
  refine C1.aloadN d29_13 rfl rfl rfl ?_
  refine C1.getF (host := "") (Or.inl (hw _ (List.mem_of_getElem? (i := 75) rfl))) Via.refl F_o0_relation d29_14 rfl (fun T2 C2 => ?_)
  refine C2.iloadN d29_17 rfl rfl ?_
  refine C2.aloadN d29_18 rfl rfl rfl ?_
  refine C2.getF (host := "") (Or.inl (hw _ (List.mem_of_getElem? (i := 86) rfl))) Via.refl F_o0_columns d29_19 rfl (fun T3 C3 => ?_)
  refine C3.iloadN d29_22 rfl rfl ?_
  refine C3.iaload (v := (0 : Int32)) V_co ⟨by decide, by decide⟩ rfl d29_23 rfl ?_
  refine C3.callV (hw _ (List.mem_of_getElem? (i := 227) rfl)) (hw _ (List.mem_of_getElem? (i := 228) rfl)) (hw _ (List.mem_of_getElem? (i := 230) rfl)) (hw _ (List.mem_of_getElem? (i := 229) rfl)) (hw _ (List.mem_of_getElem? (i := 2) rfl)) (hw _ (List.mem_of_getElem? (i := 231) rfl)) E_rl (by decide) (a := rl) (rm30 l Z a0 hw rl i1 (0 : Int32) ce kce lC h0 n0 C3.size E_rl F_rl_cells F_rl_arity V_ce (own_pre29_0 o0 i1 o2 co rl ce kco kce lC kv ko2 hr)) (argsL := [(.int i1), (.int (0 : Int32))]) pd30 rfl 2 (by decide) (by decide) (by decide) (by decide) (rest := [(.int (0 : Int32)), (.ref o2)]) rfl rfl (Nat.le_of_eq rfl) d29_24 rfl (fun v4 T4 h4 C4 qq4 => ?_)
  obtain ⟨rr4, rfl, hh4⟩ := qq4
  have hh4 := hh4.symm; subst hh4
  show Go p e below F n0 (fun v h' => ∃ kw : Int32, v = none ∧ Keep h0 h' [o2] ∧ Arv Z h' o2 ko2 .int (1 : Int32) [(.int kw)] (.int (0 : Int32))) T4 (mkF m 27 #[.val (.ref o0), .val (.int i1), .val (.ref o2), .val (.int (0 : Int32))] [(.int rr4), (.int (0 : Int32)), (.ref o2)])
  refine C4.iastore V_o2 ⟨by decide, by decide⟩ (Nat.le_of_ble_eq_true rfl) g_o2 d29_27 rfl (fun T5 h5 C5 W5 Vn5 => ?_)
  have ne_o0_o2 : o0 ≠ o2 := (own_nea E_o0 (hw _ (List.mem_of_getElem? (i := 61) rfl)) V_o2)
  have ne_rl_o2 : rl ≠ o2 := (own_nea E_rl (hw _ (List.mem_of_getElem? (i := 1) rfl)) V_o2)
  have E_o0 := E_o0.wr W5
  have F_o0_columns := F_o0_columns.other W5 (Or.inl ne_o0_o2)
  have F_o0_relation := F_o0_relation.other W5 (Or.inl ne_o0_o2)
  have E_rl := E_rl.wr W5
  have F_rl_cells := F_rl_cells.other W5 (Or.inl ne_rl_o2)
  have F_rl_arity := F_rl_arity.other W5 (Or.inl ne_rl_o2)
  have V_ce := V_ce.other W5 ne_ce_o2
  have V_co := V_co.other W5 ne_co_o2
  have KP := KP.wr W5 (Or.inl (by simp))
  have V_o2 : Arv Z h5 o2 ko2 .int (1 : Int32) [(.int rr4)] (.int (0 : Int32)) := Vn5
  refine C5.iinc (1 : Int32) d29_28 rfl rfl rfl (L' := #[.val (.ref o0), .val (.int i1), .val (.ref o2), .val (.int ((0 : Int32) + (1 : Int32)))]) rfl ?_
  refine C5.goto d29_31 (by decide) (by decide : _ = 2) ?_
  refine C5.iloadN d29_2 rfl rfl ?_
  refine C5.aloadN d29_3 rfl rfl rfl ?_
  refine C5.getF (host := "") (Or.inl (hw _ (List.mem_of_getElem? (i := 86) rfl))) Via.refl F_o0_columns d29_4 rfl (fun T6 C6 => ?_)
  refine C6.arrlen V_co d29_7 rfl ?_
  refine C6.icmp_ge d29_8 (by decide) (by decide : _ = 34) rfl (fun _ => ?_) (fun q => absurd q (by decide))
  exact C6.retV d29_34 rfl (by decide) (by decide) ⟨rr4, rfl, KP, V_o2⟩
set_option maxRecDepth 65536 in
set_option maxHeartbeats 40000000 in
theorem own_pre28_0 (o0 : Addr) (i1 : Int32) (sl : Addr) (fi : Addr) (la : Addr) (nx : Addr) (co : Addr) (sc : Addr) (rl : Addr) (ce : Addr) (ksl : ClassId) (kfi : ClassId) (kla : ClassId) (knx : ClassId) (kco : ClassId) (ksc : ClassId) (kce : ClassId) (lS : List Int32) (lF : List Int32) (lL : List Int32) (lN : List Int32) (lC : List Int32) (gg : Int32) (kv : Int32) (hinv : own_Inv i1 gg lS lF lL lN) (hy : i1.toInt ≤ 2) : ¬ i1 < (0 : Int32) ∧ i1 < (16 : Int32) := by
  obtain ⟨q1, q2, q3, q4, q5, q6, q7, q8, q9, q10, q11⟩ := hinv
  clear q11
  clear q8 q9 q10
  have bl_0 := (i1).le_toInt; have bu_0 := (i1).toInt_lt
  try simp only [List.length_map, List.length_set, List.length_append, List.length_take, List.length_drop, List.length_cons, List.length_nil, Int32.toNatClampNeg, own_eqite, own_iteeq] at *
  try simp only [ne_eq, and_true, true_and, or_true, true_or, and_false, false_and, or_false, false_or, not_true_eq_false, not_false_eq_true, Int32.lt_iff_toInt_lt, Int64.lt_iff_toInt_lt, ← Int32.toInt_inj, ← Int64.toInt_inj, Int32.reduceToInt, Int64.reduceToInt] at *
  omega
set_option maxRecDepth 65536 in
set_option maxHeartbeats 40000000 in
theorem own_pre28_1 (o0 : Addr) (i1 : Int32) (sl : Addr) (fi : Addr) (la : Addr) (nx : Addr) (co : Addr) (sc : Addr) (rl : Addr) (ce : Addr) (ksl : ClassId) (kfi : ClassId) (kla : ClassId) (knx : ClassId) (kco : ClassId) (ksc : ClassId) (kce : ClassId) (lS : List Int32) (lF : List Int32) (lL : List Int32) (lN : List Int32) (lC : List Int32) (gg : Int32) (kv : Int32) (kw2 : Int32) (hinv : own_Inv i1 gg lS lF lL lN) (hy : i1.toInt ≤ 2) : i1 < (16 : Int32) := by
  obtain ⟨q1, q2, q3, q4, q5, q6, q7, q8, q9, q10, q11⟩ := hinv
  clear q11
  clear q8 q9 q10
  have bl_0 := (i1).le_toInt; have bu_0 := (i1).toInt_lt
  try simp only [List.length_map, List.length_set, List.length_append, List.length_take, List.length_drop, List.length_cons, List.length_nil, Int32.toNatClampNeg, own_eqite, own_iteeq] at *
  try simp only [ne_eq, and_true, true_and, or_true, true_or, and_false, false_and, or_false, false_or, not_true_eq_false, not_false_eq_true, Int32.lt_iff_toInt_lt, Int64.lt_iff_toInt_lt, ← Int32.toInt_inj, ← Int64.toInt_inj, Int32.reduceToInt, Int64.reduceToInt] at *
  omega
set_option maxRecDepth 65536 in
set_option maxHeartbeats 40000000 in
theorem own_pre28_2 (o0 : Addr) (i1 : Int32) (sl : Addr) (fi : Addr) (la : Addr) (nx : Addr) (co : Addr) (sc : Addr) (rl : Addr) (ce : Addr) (ksl : ClassId) (kfi : ClassId) (kla : ClassId) (knx : ClassId) (kco : ClassId) (ksc : ClassId) (kce : ClassId) (lS : List Int32) (lF : List Int32) (lL : List Int32) (lN : List Int32) (lC : List Int32) (gg : Int32) (kv : Int32) (kw2 : Int32) (hinv : own_Inv i1 gg lS lF lL lN) (hy : i1.toInt ≤ 2) : ¬ i1 < (0 : Int32) ∧ i1 < (16 : Int32) := by
  obtain ⟨q1, q2, q3, q4, q5, q6, q7, q8, q9, q10, q11⟩ := hinv
  clear q11
  clear q8 q9 q10
  have bl_0 := (i1).le_toInt; have bu_0 := (i1).toInt_lt
  try simp only [List.length_map, List.length_set, List.length_append, List.length_take, List.length_drop, List.length_cons, List.length_nil, Int32.toNatClampNeg, own_eqite, own_iteeq] at *
  try simp only [ne_eq, and_true, true_and, or_true, true_or, and_false, false_and, or_false, false_or, not_true_eq_false, not_false_eq_true, Int32.lt_iff_toInt_lt, Int64.lt_iff_toInt_lt, ← Int32.toInt_inj, ← Int64.toInt_inj, Int32.reduceToInt, Int64.reduceToInt] at *
  omega
set_option maxRecDepth 65536 in
set_option maxHeartbeats 40000000 in
theorem own_pre28_3 (o0 : Addr) (i1 : Int32) (sl : Addr) (fi : Addr) (la : Addr) (nx : Addr) (co : Addr) (sc : Addr) (rl : Addr) (ce : Addr) (ksl : ClassId) (kfi : ClassId) (kla : ClassId) (knx : ClassId) (kco : ClassId) (ksc : ClassId) (kce : ClassId) (lS : List Int32) (lF : List Int32) (lL : List Int32) (lN : List Int32) (lC : List Int32) (gg : Int32) (kv : Int32) (kw2 : Int32) (hinv : own_Inv i1 gg lS lF lL lN) (hy : i1.toInt ≤ 2) : (i1).toNatClampNeg < (lN.map Value.int).length := by
  obtain ⟨q1, q2, q3, q4, q5, q6, q7, q8, q9, q10, q11⟩ := hinv
  clear q11
  clear q8 q9 q10
  have bl_0 := (i1).le_toInt; have bu_0 := (i1).toInt_lt
  try simp only [List.length_map, List.length_set, List.length_append, List.length_take, List.length_drop, List.length_cons, List.length_nil, Int32.toNatClampNeg, own_eqite, own_iteeq] at *
  try simp only [ne_eq, and_true, true_and, or_true, true_or, and_false, false_and, or_false, false_or, not_true_eq_false, not_false_eq_true, Int32.lt_iff_toInt_lt, Int64.lt_iff_toInt_lt, ← Int32.toInt_inj, ← Int64.toInt_inj, Int32.reduceToInt, Int64.reduceToInt] at *
  omega
set_option maxRecDepth 65536 in
set_option maxHeartbeats 40000000 in
theorem own_pre28_4 (o0 : Addr) (i1 : Int32) (sl : Addr) (fi : Addr) (la : Addr) (nx : Addr) (co : Addr) (sc : Addr) (rl : Addr) (ce : Addr) (ksl : ClassId) (kfi : ClassId) (kla : ClassId) (knx : ClassId) (kco : ClassId) (ksc : ClassId) (kce : ClassId) (lS : List Int32) (lF : List Int32) (lL : List Int32) (lN : List Int32) (lC : List Int32) (gg : Int32) (kv : Int32) (kw2 : Int32) (rr7 : Int32) (hinv : own_Inv i1 gg lS lF lL lN) (hy : i1.toInt ≤ 2) (hrr_7 : ¬ rr7 < (0 : Int32) ∧ rr7 < (16 : Int32)) (c64 : ¬ (lS.getD (rr7).toNatClampNeg 0) = (0 : Int32)) : ¬ ((lS.getD (rr7).toNatClampNeg 0) - (1 : Int32)) < (0 : Int32) ∧ ((lS.getD (rr7).toNatClampNeg 0) - (1 : Int32)) < (8 : Int32) := by
  obtain ⟨q1, q2, q3, q4, q5, q6, q7, q8, q9, q10, q11⟩ := hinv
  clear q11
  have qq0 := q8 (rr7).toNatClampNeg
  clear q8 q9 q10
  have ca_0 := c_isub (lS.getD (rr7).toNatClampNeg 0) (1 : Int32)
  have ca_1 := c_isub (lS.getD (rr7).toNatClampNeg 0) (1 : Int32)
  have bl_0 := (i1).le_toInt; have bu_0 := (i1).toInt_lt
  have bl_1 := (rr7).le_toInt; have bu_1 := (rr7).toInt_lt
  have bl_2 := ((lS.getD (rr7).toNatClampNeg 0) - (1 : Int32)).le_toInt; have bu_2 := ((lS.getD (rr7).toNatClampNeg 0) - (1 : Int32)).toInt_lt
  have bl_3 := (((lS.getD (rr7).toNatClampNeg 0) - (1 : Int32))).le_toInt; have bu_3 := (((lS.getD (rr7).toNatClampNeg 0) - (1 : Int32))).toInt_lt
  try simp only [List.length_map, List.length_set, List.length_append, List.length_take, List.length_drop, List.length_cons, List.length_nil, Int32.toNatClampNeg, own_eqite, own_iteeq] at *
  try simp only [ne_eq, and_true, true_and, or_true, true_or, and_false, false_and, or_false, false_or, not_true_eq_false, not_false_eq_true, Int32.lt_iff_toInt_lt, Int64.lt_iff_toInt_lt, ← Int32.toInt_inj, ← Int64.toInt_inj, Int32.reduceToInt, Int64.reduceToInt] at *
  omega
set_option maxRecDepth 65536 in
set_option maxHeartbeats 40000000 in
theorem own_pre28_5 (o0 : Addr) (i1 : Int32) (sl : Addr) (fi : Addr) (la : Addr) (nx : Addr) (co : Addr) (sc : Addr) (rl : Addr) (ce : Addr) (ksl : ClassId) (kfi : ClassId) (kla : ClassId) (knx : ClassId) (kco : ClassId) (ksc : ClassId) (kce : ClassId) (lS : List Int32) (lF : List Int32) (lL : List Int32) (lN : List Int32) (lC : List Int32) (gg : Int32) (kv : Int32) (kw2 : Int32) (rr7 : Int32) (hinv : own_Inv i1 gg lS lF lL lN) (hy : i1.toInt ≤ 2) (hrr_7 : ¬ rr7 < (0 : Int32) ∧ rr7 < (16 : Int32)) (c64 : ¬ (lS.getD (rr7).toNatClampNeg 0) = (0 : Int32)) : ¬ (lL.getD (((lS.getD (rr7).toNatClampNeg 0) - (1 : Int32))).toNatClampNeg 0) < (0 : Int32) ∧ (lL.getD (((lS.getD (rr7).toNatClampNeg 0) - (1 : Int32))).toNatClampNeg 0) < (16 : Int32) := by
  obtain ⟨q1, q2, q3, q4, q5, q6, q7, q8, q9, q10, q11⟩ := hinv
  clear q11
  have qq0 := q8 (rr7).toNatClampNeg
  have qq1 := q10 (((lS.getD (rr7).toNatClampNeg 0) - (1 : Int32))).toNatClampNeg
  clear q8 q9 q10
  have ca_0 := c_isub (lS.getD (rr7).toNatClampNeg 0) (1 : Int32)
  have bl_0 := (i1).le_toInt; have bu_0 := (i1).toInt_lt
  have bl_1 := (rr7).le_toInt; have bu_1 := (rr7).toInt_lt
  have bl_2 := (((lS.getD (rr7).toNatClampNeg 0) - (1 : Int32))).le_toInt; have bu_2 := (((lS.getD (rr7).toNatClampNeg 0) - (1 : Int32))).toInt_lt
  try simp only [List.length_map, List.length_set, List.length_append, List.length_take, List.length_drop, List.length_cons, List.length_nil, Int32.toNatClampNeg, own_eqite, own_iteeq] at *
  try simp only [ne_eq, and_true, true_and, or_true, true_or, and_false, false_and, or_false, false_or, not_true_eq_false, not_false_eq_true, Int32.lt_iff_toInt_lt, Int64.lt_iff_toInt_lt, ← Int32.toInt_inj, ← Int64.toInt_inj, Int32.reduceToInt, Int64.reduceToInt] at *
  omega
set_option maxRecDepth 65536 in
set_option maxHeartbeats 40000000 in
theorem own_pre28_6 (o0 : Addr) (i1 : Int32) (sl : Addr) (fi : Addr) (la : Addr) (nx : Addr) (co : Addr) (sc : Addr) (rl : Addr) (ce : Addr) (ksl : ClassId) (kfi : ClassId) (kla : ClassId) (knx : ClassId) (kco : ClassId) (ksc : ClassId) (kce : ClassId) (lS : List Int32) (lF : List Int32) (lL : List Int32) (lN : List Int32) (lC : List Int32) (gg : Int32) (kv : Int32) (kw2 : Int32) (rr7 : Int32) (hinv : own_Inv i1 gg lS lF lL lN) (hy : i1.toInt ≤ 2) (hrr_7 : ¬ rr7 < (0 : Int32) ∧ rr7 < (16 : Int32)) (c64 : ¬ (lS.getD (rr7).toNatClampNeg 0) = (0 : Int32)) : ((lL.getD (((lS.getD (rr7).toNatClampNeg 0) - (1 : Int32))).toNatClampNeg 0)).toNatClampNeg < ((lN.set (i1).toNatClampNeg (-1 : Int32)).map Value.int).length := by
  obtain ⟨q1, q2, q3, q4, q5, q6, q7, q8, q9, q10, q11⟩ := hinv
  clear q11
  have qq0 := q8 (rr7).toNatClampNeg
  have qq1 := q10 (((lS.getD (rr7).toNatClampNeg 0) - (1 : Int32))).toNatClampNeg
  clear q8 q9 q10
  have ca_0 := c_isub (lS.getD (rr7).toNatClampNeg 0) (1 : Int32)
  have bl_0 := (i1).le_toInt; have bu_0 := (i1).toInt_lt
  have bl_1 := (rr7).le_toInt; have bu_1 := (rr7).toInt_lt
  have bl_2 := (((lS.getD (rr7).toNatClampNeg 0) - (1 : Int32))).le_toInt; have bu_2 := (((lS.getD (rr7).toNatClampNeg 0) - (1 : Int32))).toInt_lt
  try simp only [List.length_map, List.length_set, List.length_append, List.length_take, List.length_drop, List.length_cons, List.length_nil, Int32.toNatClampNeg, own_eqite, own_iteeq] at *
  try simp only [ne_eq, and_true, true_and, or_true, true_or, and_false, false_and, or_false, false_or, not_true_eq_false, not_false_eq_true, Int32.lt_iff_toInt_lt, Int64.lt_iff_toInt_lt, ← Int32.toInt_inj, ← Int64.toInt_inj, Int32.reduceToInt, Int64.reduceToInt] at *
  omega
set_option maxRecDepth 65536 in
set_option maxHeartbeats 40000000 in
theorem own_pre28_7 (o0 : Addr) (i1 : Int32) (sl : Addr) (fi : Addr) (la : Addr) (nx : Addr) (co : Addr) (sc : Addr) (rl : Addr) (ce : Addr) (ksl : ClassId) (kfi : ClassId) (kla : ClassId) (knx : ClassId) (kco : ClassId) (ksc : ClassId) (kce : ClassId) (lS : List Int32) (lF : List Int32) (lL : List Int32) (lN : List Int32) (lC : List Int32) (gg : Int32) (kv : Int32) (kw2 : Int32) (rr7 : Int32) (hinv : own_Inv i1 gg lS lF lL lN) (hy : i1.toInt ≤ 2) (hrr_7 : ¬ rr7 < (0 : Int32) ∧ rr7 < (16 : Int32)) (c64 : ¬ (lS.getD (rr7).toNatClampNeg 0) = (0 : Int32)) : (((lS.getD (rr7).toNatClampNeg 0) - (1 : Int32))).toNatClampNeg < (lL.map Value.int).length := by
  obtain ⟨q1, q2, q3, q4, q5, q6, q7, q8, q9, q10, q11⟩ := hinv
  clear q11
  have qq0 := q8 (rr7).toNatClampNeg
  clear q8 q9 q10
  have ca_0 := c_isub (lS.getD (rr7).toNatClampNeg 0) (1 : Int32)
  have bl_0 := (i1).le_toInt; have bu_0 := (i1).toInt_lt
  have bl_1 := (rr7).le_toInt; have bu_1 := (rr7).toInt_lt
  have bl_2 := (((lS.getD (rr7).toNatClampNeg 0) - (1 : Int32))).le_toInt; have bu_2 := (((lS.getD (rr7).toNatClampNeg 0) - (1 : Int32))).toInt_lt
  try simp only [List.length_map, List.length_set, List.length_append, List.length_take, List.length_drop, List.length_cons, List.length_nil, Int32.toNatClampNeg, own_eqite, own_iteeq] at *
  try simp only [ne_eq, and_true, true_and, or_true, true_or, and_false, false_and, or_false, false_or, not_true_eq_false, not_false_eq_true, Int32.lt_iff_toInt_lt, Int64.lt_iff_toInt_lt, ← Int32.toInt_inj, ← Int64.toInt_inj, Int32.reduceToInt, Int64.reduceToInt] at *
  omega
set_option maxRecDepth 65536 in
set_option maxHeartbeats 40000000 in
theorem own_pre28_8 (o0 : Addr) (i1 : Int32) (sl : Addr) (fi : Addr) (la : Addr) (nx : Addr) (co : Addr) (sc : Addr) (rl : Addr) (ce : Addr) (ksl : ClassId) (kfi : ClassId) (kla : ClassId) (knx : ClassId) (kco : ClassId) (ksc : ClassId) (kce : ClassId) (lS : List Int32) (lF : List Int32) (lL : List Int32) (lN : List Int32) (lC : List Int32) (gg : Int32) (kv : Int32) (kw2 : Int32) (rr7 : Int32) (hinv : own_Inv i1 gg lS lF lL lN) (hy : i1.toInt ≤ 2) (hrr_7 : ¬ rr7 < (0 : Int32) ∧ rr7 < (16 : Int32)) (c64 : (lS.getD (rr7).toNatClampNeg 0) = (0 : Int32)) : ¬ gg = (8 : Int32) := by
  obtain ⟨q1, q2, q3, q4, q5, q6, q7, q8, q9, q10, q11⟩ := hinv
  clear q11
  have qq0 := q8 (rr7).toNatClampNeg
  clear q8 q9 q10
  have bl_0 := (i1).le_toInt; have bu_0 := (i1).toInt_lt
  have bl_1 := (gg).le_toInt; have bu_1 := (gg).toInt_lt
  have bl_2 := (rr7).le_toInt; have bu_2 := (rr7).toInt_lt
  try simp only [List.length_map, List.length_set, List.length_append, List.length_take, List.length_drop, List.length_cons, List.length_nil, Int32.toNatClampNeg, own_eqite, own_iteeq] at *
  try simp only [ne_eq, and_true, true_and, or_true, true_or, and_false, false_and, or_false, false_or, not_true_eq_false, not_false_eq_true, Int32.lt_iff_toInt_lt, Int64.lt_iff_toInt_lt, ← Int32.toInt_inj, ← Int64.toInt_inj, Int32.reduceToInt, Int64.reduceToInt] at *
  omega
set_option maxRecDepth 65536 in
set_option maxHeartbeats 40000000 in
theorem own_pre28_9 (o0 : Addr) (i1 : Int32) (sl : Addr) (fi : Addr) (la : Addr) (nx : Addr) (co : Addr) (sc : Addr) (rl : Addr) (ce : Addr) (ksl : ClassId) (kfi : ClassId) (kla : ClassId) (knx : ClassId) (kco : ClassId) (ksc : ClassId) (kce : ClassId) (lS : List Int32) (lF : List Int32) (lL : List Int32) (lN : List Int32) (lC : List Int32) (gg : Int32) (kv : Int32) (kw2 : Int32) (rr7 : Int32) (hinv : own_Inv i1 gg lS lF lL lN) (hy : i1.toInt ≤ 2) (hrr_7 : ¬ rr7 < (0 : Int32) ∧ rr7 < (16 : Int32)) (c64 : (lS.getD (rr7).toNatClampNeg 0) = (0 : Int32)) : ¬ gg < (0 : Int32) ∧ gg < (8 : Int32) := by
  obtain ⟨q1, q2, q3, q4, q5, q6, q7, q8, q9, q10, q11⟩ := hinv
  clear q11
  have qq0 := q8 (rr7).toNatClampNeg
  clear q8 q9 q10
  have bl_0 := (i1).le_toInt; have bu_0 := (i1).toInt_lt
  have bl_1 := (gg).le_toInt; have bu_1 := (gg).toInt_lt
  have bl_2 := (rr7).le_toInt; have bu_2 := (rr7).toInt_lt
  try simp only [List.length_map, List.length_set, List.length_append, List.length_take, List.length_drop, List.length_cons, List.length_nil, Int32.toNatClampNeg, own_eqite, own_iteeq] at *
  try simp only [ne_eq, and_true, true_and, or_true, true_or, and_false, false_and, or_false, false_or, not_true_eq_false, not_false_eq_true, Int32.lt_iff_toInt_lt, Int64.lt_iff_toInt_lt, ← Int32.toInt_inj, ← Int64.toInt_inj, Int32.reduceToInt, Int64.reduceToInt] at *
  omega
set_option maxRecDepth 65536 in
set_option maxHeartbeats 40000000 in
theorem own_pre28_10 (o0 : Addr) (i1 : Int32) (sl : Addr) (fi : Addr) (la : Addr) (nx : Addr) (co : Addr) (sc : Addr) (rl : Addr) (ce : Addr) (ksl : ClassId) (kfi : ClassId) (kla : ClassId) (knx : ClassId) (kco : ClassId) (ksc : ClassId) (kce : ClassId) (lS : List Int32) (lF : List Int32) (lL : List Int32) (lN : List Int32) (lC : List Int32) (gg : Int32) (kv : Int32) (kw2 : Int32) (rr7 : Int32) (hinv : own_Inv i1 gg lS lF lL lN) (hy : i1.toInt ≤ 2) (hrr_7 : ¬ rr7 < (0 : Int32) ∧ rr7 < (16 : Int32)) (c64 : (lS.getD (rr7).toNatClampNeg 0) = (0 : Int32)) : (gg).toNatClampNeg < (lF.map Value.int).length := by
  obtain ⟨q1, q2, q3, q4, q5, q6, q7, q8, q9, q10, q11⟩ := hinv
  clear q11
  have qq0 := q8 (rr7).toNatClampNeg
  clear q8 q9 q10
  have bl_0 := (i1).le_toInt; have bu_0 := (i1).toInt_lt
  have bl_1 := (gg).le_toInt; have bu_1 := (gg).toInt_lt
  have bl_2 := (rr7).le_toInt; have bu_2 := (rr7).toInt_lt
  try simp only [List.length_map, List.length_set, List.length_append, List.length_take, List.length_drop, List.length_cons, List.length_nil, Int32.toNatClampNeg, own_eqite, own_iteeq] at *
  try simp only [ne_eq, and_true, true_and, or_true, true_or, and_false, false_and, or_false, false_or, not_true_eq_false, not_false_eq_true, Int32.lt_iff_toInt_lt, Int64.lt_iff_toInt_lt, ← Int32.toInt_inj, ← Int64.toInt_inj, Int32.reduceToInt, Int64.reduceToInt] at *
  omega
set_option maxRecDepth 65536 in
set_option maxHeartbeats 40000000 in
theorem own_pre28_11 (o0 : Addr) (i1 : Int32) (sl : Addr) (fi : Addr) (la : Addr) (nx : Addr) (co : Addr) (sc : Addr) (rl : Addr) (ce : Addr) (ksl : ClassId) (kfi : ClassId) (kla : ClassId) (knx : ClassId) (kco : ClassId) (ksc : ClassId) (kce : ClassId) (lS : List Int32) (lF : List Int32) (lL : List Int32) (lN : List Int32) (lC : List Int32) (gg : Int32) (kv : Int32) (kw2 : Int32) (rr7 : Int32) (hinv : own_Inv i1 gg lS lF lL lN) (hy : i1.toInt ≤ 2) (hrr_7 : ¬ rr7 < (0 : Int32) ∧ rr7 < (16 : Int32)) (c64 : (lS.getD (rr7).toNatClampNeg 0) = (0 : Int32)) : (gg).toNatClampNeg < (lL.map Value.int).length := by
  obtain ⟨q1, q2, q3, q4, q5, q6, q7, q8, q9, q10, q11⟩ := hinv
  clear q11
  have qq0 := q8 (rr7).toNatClampNeg
  clear q8 q9 q10
  have bl_0 := (i1).le_toInt; have bu_0 := (i1).toInt_lt
  have bl_1 := (gg).le_toInt; have bu_1 := (gg).toInt_lt
  have bl_2 := (rr7).le_toInt; have bu_2 := (rr7).toInt_lt
  try simp only [List.length_map, List.length_set, List.length_append, List.length_take, List.length_drop, List.length_cons, List.length_nil, Int32.toNatClampNeg, own_eqite, own_iteeq] at *
  try simp only [ne_eq, and_true, true_and, or_true, true_or, and_false, false_and, or_false, false_or, not_true_eq_false, not_false_eq_true, Int32.lt_iff_toInt_lt, Int64.lt_iff_toInt_lt, ← Int32.toInt_inj, ← Int64.toInt_inj, Int32.reduceToInt, Int64.reduceToInt] at *
  omega
set_option maxRecDepth 65536 in
set_option maxHeartbeats 40000000 in
theorem own_pre28_12 (o0 : Addr) (i1 : Int32) (sl : Addr) (fi : Addr) (la : Addr) (nx : Addr) (co : Addr) (sc : Addr) (rl : Addr) (ce : Addr) (ksl : ClassId) (kfi : ClassId) (kla : ClassId) (knx : ClassId) (kco : ClassId) (ksc : ClassId) (kce : ClassId) (lS : List Int32) (lF : List Int32) (lL : List Int32) (lN : List Int32) (lC : List Int32) (gg : Int32) (kv : Int32) (kw2 : Int32) (rr7 : Int32) (hinv : own_Inv i1 gg lS lF lL lN) (hy : i1.toInt ≤ 2) (hrr_7 : ¬ rr7 < (0 : Int32) ∧ rr7 < (16 : Int32)) (c64 : (lS.getD (rr7).toNatClampNeg 0) = (0 : Int32)) : (rr7).toNatClampNeg < (lS.map Value.int).length := by
  obtain ⟨q1, q2, q3, q4, q5, q6, q7, q8, q9, q10, q11⟩ := hinv
  clear q11
  have qq0 := q8 (rr7).toNatClampNeg
  clear q8 q9 q10
  have bl_0 := (i1).le_toInt; have bu_0 := (i1).toInt_lt
  have bl_1 := (rr7).le_toInt; have bu_1 := (rr7).toInt_lt
  try simp only [List.length_map, List.length_set, List.length_append, List.length_take, List.length_drop, List.length_cons, List.length_nil, Int32.toNatClampNeg, own_eqite, own_iteeq] at *
  try simp only [ne_eq, and_true, true_and, or_true, true_or, and_false, false_and, or_false, false_or, not_true_eq_false, not_false_eq_true, Int32.lt_iff_toInt_lt, Int64.lt_iff_toInt_lt, ← Int32.toInt_inj, ← Int64.toInt_inj, Int32.reduceToInt, Int64.reduceToInt] at *
  omega
set_option maxRecDepth 65536 in
set_option maxHeartbeats 40000000 in
theorem own_pre28_13 (o0 : Addr) (i1 : Int32) (sl : Addr) (fi : Addr) (la : Addr) (nx : Addr) (co : Addr) (sc : Addr) (rl : Addr) (ce : Addr) (ksl : ClassId) (kfi : ClassId) (kla : ClassId) (knx : ClassId) (kco : ClassId) (ksc : ClassId) (kce : ClassId) (lS : List Int32) (lF : List Int32) (lL : List Int32) (lN : List Int32) (lC : List Int32) (gg : Int32) (kv : Int32) (kw2 : Int32) (rr7 : Int32) (hinv : own_Inv i1 gg lS lF lL lN) (hy : i1.toInt ≤ 2) (hrr_7 : ¬ rr7 < (0 : Int32) ∧ rr7 < (16 : Int32)) (c64 : (lS.getD (rr7).toNatClampNeg 0) = (0 : Int32)) : ¬ (16 : Int32) < ((gg + (1 : Int32)) * (2 : Int32)) := by
  obtain ⟨q1, q2, q3, q4, q5, q6, q7, q8, q9, q10, q11⟩ := hinv
  clear q11
  have qq0 := q8 (rr7).toNatClampNeg
  clear q8 q9 q10
  have ca_0 := c_imul (gg + (1 : Int32)) (2 : Int32)
  have ca_1 := c_iadd gg (1 : Int32)
  have ca_2 := c_imul (gg + (1 : Int32)) (2 : Int32)
  have ca_3 := c_iadd gg (1 : Int32)
  have bl_0 := (i1).le_toInt; have bu_0 := (i1).toInt_lt
  have bl_1 := (gg).le_toInt; have bu_1 := (gg).toInt_lt
  have bl_2 := (rr7).le_toInt; have bu_2 := (rr7).toInt_lt
  have bl_3 := ((gg + (1 : Int32)) * (2 : Int32)).le_toInt; have bu_3 := ((gg + (1 : Int32)) * (2 : Int32)).toInt_lt
  have bl_4 := (gg + (1 : Int32)).le_toInt; have bu_4 := (gg + (1 : Int32)).toInt_lt
  have bl_5 := (((gg + (1 : Int32)) * (2 : Int32))).le_toInt; have bu_5 := (((gg + (1 : Int32)) * (2 : Int32))).toInt_lt
  have bl_6 := ((gg + (1 : Int32))).le_toInt; have bu_6 := ((gg + (1 : Int32))).toInt_lt
  try simp only [List.length_map, List.length_set, List.length_append, List.length_take, List.length_drop, List.length_cons, List.length_nil, Int32.toNatClampNeg, own_eqite, own_iteeq] at *
  try simp only [ne_eq, and_true, true_and, or_true, true_or, and_false, false_and, or_false, false_or, not_true_eq_false, not_false_eq_true, Int32.lt_iff_toInt_lt, Int64.lt_iff_toInt_lt, ← Int32.toInt_inj, ← Int64.toInt_inj, Int32.reduceToInt, Int64.reduceToInt] at *
  omega
theorem pn28 : plainName "com/example/nestor/nestor/engine/Index" = true := by first | (simp [plainName, overriddenIn]; done) | decide +kernel
theorem pd28 : parseMethodDescriptor "(I)V" = some ⟨[.int], none⟩ := by decide +kernel
theorem ef28 (m : MethodId) (o0 : Addr) (i1 : Int32) : entryFrame m #[(.ref o0), (.int i1)] 4 = mkF m 0 #[.val (.ref o0), .val (.int i1), .unset, .unset] [] := by first | (simp [entryFrame, mkF, argsToLocals, Value.category]; done) | rfl
theorem d28_0 : decode prog_21_method_7_code 0 = .ok (.aload_n 0, 1) := by decide +kernel
theorem d28_1 : decode prog_21_method_7_code 1 = .ok (.iload_n 1, 1) := by decide +kernel
theorem d28_2 : decode prog_21_method_7_code 2 = .ok (.aload_n 0, 1) := by decide +kernel
theorem d28_3 : decode prog_21_method_7_code 3 = .ok (.getfield 34, 3) := by decide +kernel
theorem d28_6 : decode prog_21_method_7_code 6 = .ok (.invokevirtual 61, 3) := by decide +kernel
theorem d28_9 : decode prog_21_method_7_code 9 = .ok (.iload_n 1, 1) := by decide +kernel
theorem d28_10 : decode prog_21_method_7_code 10 = .ok (.aload_n 0, 1) := by decide +kernel
theorem d28_11 : decode prog_21_method_7_code 11 = .ok (.getfield 19, 3) := by decide +kernel
theorem d28_14 : decode prog_21_method_7_code 14 = .ok (.arraylength, 1) := by decide +kernel
theorem d28_15 : decode prog_21_method_7_code 15 = .ok (.if_icmp .lt 27, 3) := by decide +kernel
theorem d28_42 : decode prog_21_method_7_code 42 = .ok (.aload_n 0, 1) := by decide +kernel
theorem d28_43 : decode prog_21_method_7_code 43 = .ok (.getfield 19, 3) := by decide +kernel
theorem d28_46 : decode prog_21_method_7_code 46 = .ok (.iload_n 1, 1) := by decide +kernel
theorem d28_47 : decode prog_21_method_7_code 47 = .ok (.iconst (-1), 1) := by decide +kernel
theorem d28_48 : decode prog_21_method_7_code 48 = .ok (.iastore, 1) := by decide +kernel
theorem d28_49 : decode prog_21_method_7_code 49 = .ok (.aload_n 0, 1) := by decide +kernel
theorem d28_50 : decode prog_21_method_7_code 50 = .ok (.aload_n 0, 1) := by decide +kernel
theorem d28_51 : decode prog_21_method_7_code 51 = .ok (.getfield 34, 3) := by decide +kernel
theorem d28_54 : decode prog_21_method_7_code 54 = .ok (.invokevirtual 57, 3) := by decide +kernel
theorem d28_57 : decode prog_21_method_7_code 57 = .ok (.istore_n 2, 1) := by decide +kernel
theorem d28_58 : decode prog_21_method_7_code 58 = .ok (.aload_n 0, 1) := by decide +kernel
theorem d28_59 : decode prog_21_method_7_code 59 = .ok (.getfield 7, 3) := by decide +kernel
theorem d28_62 : decode prog_21_method_7_code 62 = .ok (.iload_n 2, 1) := by decide +kernel
theorem d28_63 : decode prog_21_method_7_code 63 = .ok (.iaload, 1) := by decide +kernel
theorem d28_64 : decode prog_21_method_7_code 64 = .ok (.ifCond .ne 110, 3) := by decide +kernel
theorem d28_67 : decode prog_21_method_7_code 67 = .ok (.aload_n 0, 1) := by decide +kernel
theorem d28_68 : decode prog_21_method_7_code 68 = .ok (.getfield 47, 3) := by decide +kernel
theorem d28_71 : decode prog_21_method_7_code 71 = .ok (.aload_n 0, 1) := by decide +kernel
theorem d28_72 : decode prog_21_method_7_code 72 = .ok (.getfield 13, 3) := by decide +kernel
theorem d28_75 : decode prog_21_method_7_code 75 = .ok (.arraylength, 1) := by decide +kernel
theorem d28_76 : decode prog_21_method_7_code 76 = .ok (.if_icmp .ne 37, 3) := by decide +kernel
theorem d28_113 : decode prog_21_method_7_code 113 = .ok (.aload_n 0, 1) := by decide +kernel
theorem d28_114 : decode prog_21_method_7_code 114 = .ok (.getfield 13, 3) := by decide +kernel
theorem d28_117 : decode prog_21_method_7_code 117 = .ok (.aload_n 0, 1) := by decide +kernel
theorem d28_118 : decode prog_21_method_7_code 118 = .ok (.getfield 47, 3) := by decide +kernel
theorem d28_121 : decode prog_21_method_7_code 121 = .ok (.iload_n 1, 1) := by decide +kernel
theorem d28_122 : decode prog_21_method_7_code 122 = .ok (.iastore, 1) := by decide +kernel
theorem d28_123 : decode prog_21_method_7_code 123 = .ok (.aload_n 0, 1) := by decide +kernel
theorem d28_124 : decode prog_21_method_7_code 124 = .ok (.getfield 16, 3) := by decide +kernel
theorem d28_127 : decode prog_21_method_7_code 127 = .ok (.aload_n 0, 1) := by decide +kernel
theorem d28_128 : decode prog_21_method_7_code 128 = .ok (.getfield 47, 3) := by decide +kernel
theorem d28_131 : decode prog_21_method_7_code 131 = .ok (.iload_n 1, 1) := by decide +kernel
theorem d28_132 : decode prog_21_method_7_code 132 = .ok (.iastore, 1) := by decide +kernel
theorem d28_133 : decode prog_21_method_7_code 133 = .ok (.aload_n 0, 1) := by decide +kernel
theorem d28_134 : decode prog_21_method_7_code 134 = .ok (.dup, 1) := by decide +kernel
theorem d28_135 : decode prog_21_method_7_code 135 = .ok (.getfield 47, 3) := by decide +kernel
theorem d28_138 : decode prog_21_method_7_code 138 = .ok (.iconst 1, 1) := by decide +kernel
theorem d28_139 : decode prog_21_method_7_code 139 = .ok (.iadd, 1) := by decide +kernel
theorem d28_140 : decode prog_21_method_7_code 140 = .ok (.putfield 47, 3) := by decide +kernel
theorem d28_143 : decode prog_21_method_7_code 143 = .ok (.aload_n 0, 1) := by decide +kernel
theorem d28_144 : decode prog_21_method_7_code 144 = .ok (.getfield 7, 3) := by decide +kernel
theorem d28_147 : decode prog_21_method_7_code 147 = .ok (.iload_n 2, 1) := by decide +kernel
theorem d28_148 : decode prog_21_method_7_code 148 = .ok (.aload_n 0, 1) := by decide +kernel
theorem d28_149 : decode prog_21_method_7_code 149 = .ok (.getfield 47, 3) := by decide +kernel
theorem d28_152 : decode prog_21_method_7_code 152 = .ok (.iastore, 1) := by decide +kernel
theorem d28_153 : decode prog_21_method_7_code 153 = .ok (.aload_n 0, 1) := by decide +kernel
theorem d28_154 : decode prog_21_method_7_code 154 = .ok (.getfield 47, 3) := by decide +kernel
theorem d28_157 : decode prog_21_method_7_code 157 = .ok (.iconst 2, 1) := by decide +kernel
theorem d28_158 : decode prog_21_method_7_code 158 = .ok (.imul, 1) := by decide +kernel
theorem d28_159 : decode prog_21_method_7_code 159 = .ok (.aload_n 0, 1) := by decide +kernel
theorem d28_160 : decode prog_21_method_7_code 160 = .ok (.getfield 7, 3) := by decide +kernel
theorem d28_163 : decode prog_21_method_7_code 163 = .ok (.arraylength, 1) := by decide +kernel
theorem d28_164 : decode prog_21_method_7_code 164 = .ok (.if_icmp .le 38, 3) := by decide +kernel
theorem d28_174 : decode prog_21_method_7_code 174 = .ok (.aload_n 0, 1) := by decide +kernel
theorem d28_175 : decode prog_21_method_7_code 175 = .ok (.getfield 7, 3) := by decide +kernel
theorem d28_178 : decode prog_21_method_7_code 178 = .ok (.iload_n 2, 1) := by decide +kernel
theorem d28_179 : decode prog_21_method_7_code 179 = .ok (.iaload, 1) := by decide +kernel
theorem d28_180 : decode prog_21_method_7_code 180 = .ok (.iconst 1, 1) := by decide +kernel
theorem d28_181 : decode prog_21_method_7_code 181 = .ok (.isub, 1) := by decide +kernel
theorem d28_182 : decode prog_21_method_7_code 182 = .ok (.istore_n 3, 1) := by decide +kernel
theorem d28_183 : decode prog_21_method_7_code 183 = .ok (.aload_n 0, 1) := by decide +kernel
theorem d28_184 : decode prog_21_method_7_code 184 = .ok (.getfield 19, 3) := by decide +kernel
theorem d28_187 : decode prog_21_method_7_code 187 = .ok (.aload_n 0, 1) := by decide +kernel
theorem d28_188 : decode prog_21_method_7_code 188 = .ok (.getfield 16, 3) := by decide +kernel
theorem d28_191 : decode prog_21_method_7_code 191 = .ok (.iload_n 3, 1) := by decide +kernel
theorem d28_192 : decode prog_21_method_7_code 192 = .ok (.iaload, 1) := by decide +kernel
theorem d28_193 : decode prog_21_method_7_code 193 = .ok (.iload_n 1, 1) := by decide +kernel
theorem d28_194 : decode prog_21_method_7_code 194 = .ok (.iastore, 1) := by decide +kernel
theorem d28_195 : decode prog_21_method_7_code 195 = .ok (.aload_n 0, 1) := by decide +kernel
theorem d28_196 : decode prog_21_method_7_code 196 = .ok (.getfield 16, 3) := by decide +kernel
theorem d28_199 : decode prog_21_method_7_code 199 = .ok (.iload_n 3, 1) := by decide +kernel
theorem d28_200 : decode prog_21_method_7_code 200 = .ok (.iload_n 1, 1) := by decide +kernel
theorem d28_201 : decode prog_21_method_7_code 201 = .ok (.iastore, 1) := by decide +kernel
theorem d28_202 : decode prog_21_method_7_code 202 = .ok (.return_, 1) := by decide +kernel
set_option maxRecDepth 65536 in
set_option maxHeartbeats 40000000 in
theorem rm28 (l : Launch) (Z : State) (a0 : Array Value) (hw : ∀ d ∈ tables_1, d.before a0 Z = true) (o0 : Addr) (i1 : Int32) (sl : Addr) (fi : Addr) (la : Addr) (nx : Addr) (co : Addr) (sc : Addr) (rl : Addr) (ce : Addr) (ksl : ClassId) (kfi : ClassId) (kla : ClassId) (knx : ClassId) (kco : ClassId) (ksc : ClassId) (kce : ClassId) (lS : List Int32) (lF : List Int32) (lL : List Int32) (lN : List Int32) (lC : List Int32) (gg : Int32) (kv : Int32) (h0 : Heap) (n0 : Nat) (Z0 : n0 ≤ h0.size) (E_o0 : Exa Z h0 o0 "com/example/nestor/nestor/engine/Index") (F_o0_slots : Fld Z h0 o0 "com/example/nestor/nestor/engine/Index" "slots" "[I" (.ref sl)) (F_o0_firsts : Fld Z h0 o0 "com/example/nestor/nestor/engine/Index" "firsts" "[I" (.ref fi)) (F_o0_lasts : Fld Z h0 o0 "com/example/nestor/nestor/engine/Index" "lasts" "[I" (.ref la)) (F_o0_nexts : Fld Z h0 o0 "com/example/nestor/nestor/engine/Index" "nexts" "[I" (.ref nx)) (F_o0_relation : Fld Z h0 o0 "com/example/nestor/nestor/engine/Index" "relation" "Lcom/example/nestor/nestor/engine/Relation;" (.ref rl)) (F_o0_columns : Fld Z h0 o0 "com/example/nestor/nestor/engine/Index" "columns" "[I" (.ref co)) (F_o0_scratch : Fld Z h0 o0 "com/example/nestor/nestor/engine/Index" "scratch" "[I" (.ref sc)) (F_o0_groups : Fld Z h0 o0 "com/example/nestor/nestor/engine/Index" "groups" "I" (.int gg)) (E_rl : Exa Z h0 rl "com/example/nestor/nestor/engine/Relation") (F_rl_cells : Fld Z h0 rl "com/example/nestor/nestor/engine/Relation" "cells" "[I" (.ref ce)) (F_rl_arity : Fld Z h0 rl "com/example/nestor/nestor/engine/Relation" "arity" "I" (.int (1 : Int32))) (V_ce : Arv Z h0 ce kce .int (16 : Int32) (lC.map Value.int) (.int (0 : Int32))) (V_sl : Arv Z h0 sl ksl .int (16 : Int32) (lS.map Value.int) (.int (0 : Int32))) (V_fi : Arv Z h0 fi kfi .int (8 : Int32) (lF.map Value.int) (.int (0 : Int32))) (V_la : Arv Z h0 la kla .int (8 : Int32) (lL.map Value.int) (.int (0 : Int32))) (V_nx : Arv Z h0 nx knx .int (16 : Int32) (lN.map Value.int) (.int (0 : Int32))) (V_co : Arv Z h0 co kco .int (1 : Int32) [(.int (0 : Int32))] (.int (0 : Int32))) (V_sc : Arv Z h0 sc ksc .int (1 : Int32) [(.int kv)] (.int (0 : Int32))) (g_o0 : n0 ≤ o0) (g_sc : n0 ≤ sc) (g_nx : n0 ≤ nx) (g_fi : n0 ≤ fi) (g_la : n0 ≤ la) (g_sl : n0 ≤ sl) (hinv : own_Inv i1 gg lS lF lL lN) (hy : i1.toInt ≤ 2) (ne_sl_fi : sl ≠ fi) (ne_sl_la : sl ≠ la) (ne_sl_nx : sl ≠ nx) (ne_sl_co : sl ≠ co) (ne_sl_sc : sl ≠ sc) (ne_sl_ce : sl ≠ ce) (ne_fi_la : fi ≠ la) (ne_fi_nx : fi ≠ nx) (ne_fi_co : fi ≠ co) (ne_fi_sc : fi ≠ sc) (ne_fi_ce : fi ≠ ce) (ne_la_nx : la ≠ nx) (ne_la_co : la ≠ co) (ne_la_sc : la ≠ sc) (ne_la_ce : la ≠ ce) (ne_nx_co : nx ≠ co) (ne_nx_sc : nx ≠ sc) (ne_nx_ce : nx ≠ ce) (ne_co_sc : co ≠ sc) (ne_co_ce : co ≠ ce) (ne_sc_ce : sc ≠ ce) :
    Ctr l Z (⟨"com/example/nestor/nestor/engine/Index", "add", "(I)V"⟩ : MethodName) prog_21_method_7_code 4 none ({ frames := 3, cells := 0, slots := 0, locals := 44 } : Room) #[(.ref o0), (.int i1)] h0 n0 (fun v h' => ∃ mS : List Int32, ∃ mF : List Int32, ∃ mL : List Int32, ∃ mN : List Int32, ∃ mg : Int32, ∃ mk : Int32, v = none ∧ Keep h0 h' [o0, sc, nx, fi, la, sl] ∧ Exa Z h' o0 "com/example/nestor/nestor/engine/Index" ∧ Fld Z h' o0 "com/example/nestor/nestor/engine/Index" "slots" "[I" (.ref sl) ∧ Fld Z h' o0 "com/example/nestor/nestor/engine/Index" "firsts" "[I" (.ref fi) ∧ Fld Z h' o0 "com/example/nestor/nestor/engine/Index" "lasts" "[I" (.ref la) ∧ Fld Z h' o0 "com/example/nestor/nestor/engine/Index" "nexts" "[I" (.ref nx) ∧ Fld Z h' o0 "com/example/nestor/nestor/engine/Index" "relation" "Lcom/example/nestor/nestor/engine/Relation;" (.ref rl) ∧ Fld Z h' o0 "com/example/nestor/nestor/engine/Index" "columns" "[I" (.ref co) ∧ Fld Z h' o0 "com/example/nestor/nestor/engine/Index" "scratch" "[I" (.ref sc) ∧ Fld Z h' o0 "com/example/nestor/nestor/engine/Index" "groups" "I" (.int mg) ∧ Arv Z h' sl ksl .int (16 : Int32) (mS.map Value.int) (.int (0 : Int32)) ∧ Arv Z h' fi kfi .int (8 : Int32) (mF.map Value.int) (.int (0 : Int32)) ∧ Arv Z h' la kla .int (8 : Int32) (mL.map Value.int) (.int (0 : Int32)) ∧ Arv Z h' nx knx .int (16 : Int32) (mN.map Value.int) (.int (0 : Int32)) ∧ Arv Z h' sc ksc .int (1 : Int32) [(.int mk)] (.int (0 : Int32)) ∧ own_Inv (i1 + (1 : Int32)) mg mS mF mL mN) := by
  refine Ctr.body (L := #[.val (.ref o0), .val (.int i1), .unset, .unset]) (plainFor_of_name pn28) Z0 (fun m => ef28 m o0 i1) ?_
  intro p e F m below meth c T0 C0
  have KP : Keep h0 h0 [o0, sc, nx, fi, la, sl] := Keep.refl h0 _
  refine C0.aloadN d28_0 rfl rfl rfl ?_
  refine C0.iloadN d28_1 rfl rfl ?_
  refine C0.aloadN d28_2 rfl rfl rfl ?_
  refine C0.getF (host := "") (Or.inl (hw _ (List.mem_of_getElem? (i := 88) rfl))) Via.refl F_o0_scratch d28_3 rfl (fun T1 C1 => ?_)
  refine C1.callP (hw _ (List.mem_of_getElem? (i := 223) rfl)) (hw _ (List.mem_of_getElem? (i := 224) rfl)) (own_selP (y2 := ({ cls := "com/example/nestor/nestor/engine/Index", name := "first", desc := "([I)I" } : Jvm.MethodName)) rfl (hw _ (List.mem_of_getElem? (i := 152) rfl)) (hw _ (List.mem_of_getElem? (i := 225) rfl)) (hw _ (List.mem_of_getElem? (i := 224) rfl)) (by decide)) (hw _ (List.mem_of_getElem? (i := 225) rfl)) (hw _ (List.mem_of_getElem? (i := 62) rfl)) (hw _ (List.mem_of_getElem? (i := 226) rfl)) E_o0 (by decide) (a := o0) (rm29 l Z a0 hw o0 i1 sc co rl ce kco kce lC kv ksc h0 n0 C1.size E_o0 F_o0_columns F_o0_relation E_rl F_rl_cells F_rl_arity V_ce V_co V_sc g_sc (own_pre28_0 o0 i1 sl fi la nx co sc rl ce ksl kfi kla knx kco ksc kce lS lF lL lN lC gg kv hinv hy) ne_co_sc (Ne.symm ne_sc_ce)) (argsL := [(.int i1), (.ref sc)]) pd29 rfl 0 (by decide) (by decide) (by decide) (by decide) (rest := []) rfl rfl (Nat.le_of_eq rfl) d28_6 rfl (fun v2 T2 h2 C2 qq2 => ?_)
  obtain ⟨kw2, rfl, K2, p2_0⟩ := qq2
  have ne_o0_sc : o0 ≠ sc := (own_nea E_o0 (hw _ (List.mem_of_getElem? (i := 61) rfl)) V_sc)
  have ne_rl_sc : rl ≠ sc := (own_nea E_rl (hw _ (List.mem_of_getElem? (i := 1) rfl)) V_sc)
  have E_o0 := E_o0.keep K2
  have F_o0_slots := F_o0_slots.keep K2 (ninS ne_o0_sc nin0)
  have F_o0_firsts := F_o0_firsts.keep K2 (ninS ne_o0_sc nin0)
  have F_o0_lasts := F_o0_lasts.keep K2 (ninS ne_o0_sc nin0)
  have F_o0_nexts := F_o0_nexts.keep K2 (ninS ne_o0_sc nin0)
  have F_o0_relation := F_o0_relation.keep K2 (ninS ne_o0_sc nin0)
  have F_o0_columns := F_o0_columns.keep K2 (ninS ne_o0_sc nin0)
  have F_o0_scratch := F_o0_scratch.keep K2 (ninS ne_o0_sc nin0)
  have F_o0_groups := F_o0_groups.keep K2 (ninS ne_o0_sc nin0)
  have E_rl := E_rl.keep K2
  have F_rl_cells := F_rl_cells.keep K2 (ninS ne_rl_sc nin0)
  have F_rl_arity := F_rl_arity.keep K2 (ninS ne_rl_sc nin0)
  have V_ce := V_ce.keep K2 (ninS (Ne.symm ne_sc_ce) nin0)
  have V_sl := V_sl.keep K2 (ninS ne_sl_sc nin0)
  have V_fi := V_fi.keep K2 (ninS ne_fi_sc nin0)
  have V_la := V_la.keep K2 (ninS ne_la_sc nin0)
  have V_nx := V_nx.keep K2 (ninS ne_nx_sc nin0)
  have V_co := V_co.keep K2 (ninS ne_co_sc nin0)
  have KP := KP.trans K2 (allS (Or.inl (by simp)) (all0))
  have V_sc := p2_0
  show Go p e below F n0 (fun v h' => ∃ mS : List Int32, ∃ mF : List Int32, ∃ mL : List Int32, ∃ mN : List Int32, ∃ mg : Int32, ∃ mk : Int32, v = none ∧ Keep h0 h' [o0, sc, nx, fi, la, sl] ∧ Exa Z h' o0 "com/example/nestor/nestor/engine/Index" ∧ Fld Z h' o0 "com/example/nestor/nestor/engine/Index" "slots" "[I" (.ref sl) ∧ Fld Z h' o0 "com/example/nestor/nestor/engine/Index" "firsts" "[I" (.ref fi) ∧ Fld Z h' o0 "com/example/nestor/nestor/engine/Index" "lasts" "[I" (.ref la) ∧ Fld Z h' o0 "com/example/nestor/nestor/engine/Index" "nexts" "[I" (.ref nx) ∧ Fld Z h' o0 "com/example/nestor/nestor/engine/Index" "relation" "Lcom/example/nestor/nestor/engine/Relation;" (.ref rl) ∧ Fld Z h' o0 "com/example/nestor/nestor/engine/Index" "columns" "[I" (.ref co) ∧ Fld Z h' o0 "com/example/nestor/nestor/engine/Index" "scratch" "[I" (.ref sc) ∧ Fld Z h' o0 "com/example/nestor/nestor/engine/Index" "groups" "I" (.int mg) ∧ Arv Z h' sl ksl .int (16 : Int32) (mS.map Value.int) (.int (0 : Int32)) ∧ Arv Z h' fi kfi .int (8 : Int32) (mF.map Value.int) (.int (0 : Int32)) ∧ Arv Z h' la kla .int (8 : Int32) (mL.map Value.int) (.int (0 : Int32)) ∧ Arv Z h' nx knx .int (16 : Int32) (mN.map Value.int) (.int (0 : Int32)) ∧ Arv Z h' sc ksc .int (1 : Int32) [(.int mk)] (.int (0 : Int32)) ∧ own_Inv (i1 + (1 : Int32)) mg mS mF mL mN) T2 (mkF m 9 #[.val (.ref o0), .val (.int i1), .unset, .unset] [])
  refine C2.iloadN d28_9 rfl rfl ?_
  refine C2.aloadN d28_10 rfl rfl rfl ?_
  refine C2.getF (host := "") (Or.inl (hw _ (List.mem_of_getElem? (i := 73) rfl))) Via.refl F_o0_nexts d28_11 rfl (fun T3 C3 => ?_)
  refine C3.arrlen V_nx d28_14 rfl ?_
  refine C3.icmp_lt d28_15 (by decide) (by decide : _ = 42) rfl (fun _ => ?_) (fun q => absurd (own_pre28_1 o0 i1 sl fi la nx co sc rl ce ksl kfi kla knx kco ksc kce lS lF lL lN lC gg kv kw2 hinv hy) q)
  refine C3.aloadN d28_42 rfl rfl rfl ?_
  refine C3.getF (host := "") (Or.inl (hw _ (List.mem_of_getElem? (i := 73) rfl))) Via.refl F_o0_nexts d28_43 rfl (fun T4 C4 => ?_)
  refine C4.iloadN d28_46 rfl rfl ?_
  refine C4.iconst (-1 : Int32) d28_47 rfl rfl ?_
  refine C4.iastore V_nx (own_pre28_2 o0 i1 sl fi la nx co sc rl ce ksl kfi kla knx kco ksc kce lS lF lL lN lC gg kv kw2 hinv hy) (own_pre28_3 o0 i1 sl fi la nx co sc rl ce ksl kfi kla knx kco ksc kce lS lF lL lN lC gg kv kw2 hinv hy) g_nx d28_48 rfl (fun T5 h5 C5 W5 Vn5 => ?_)
  have ne_o0_nx : o0 ≠ nx := (own_nea E_o0 (hw _ (List.mem_of_getElem? (i := 61) rfl)) V_nx)
  have ne_rl_nx : rl ≠ nx := (own_nea E_rl (hw _ (List.mem_of_getElem? (i := 1) rfl)) V_nx)
  have E_o0 := E_o0.wr W5
  have F_o0_slots := F_o0_slots.other W5 (Or.inl ne_o0_nx)
  have F_o0_firsts := F_o0_firsts.other W5 (Or.inl ne_o0_nx)
  have F_o0_lasts := F_o0_lasts.other W5 (Or.inl ne_o0_nx)
  have F_o0_nexts := F_o0_nexts.other W5 (Or.inl ne_o0_nx)
  have F_o0_relation := F_o0_relation.other W5 (Or.inl ne_o0_nx)
  have F_o0_columns := F_o0_columns.other W5 (Or.inl ne_o0_nx)
  have F_o0_scratch := F_o0_scratch.other W5 (Or.inl ne_o0_nx)
  have F_o0_groups := F_o0_groups.other W5 (Or.inl ne_o0_nx)
  have E_rl := E_rl.wr W5
  have F_rl_cells := F_rl_cells.other W5 (Or.inl ne_rl_nx)
  have F_rl_arity := F_rl_arity.other W5 (Or.inl ne_rl_nx)
  have V_ce := V_ce.other W5 (Ne.symm ne_nx_ce)
  have V_sl := V_sl.other W5 ne_sl_nx
  have V_fi := V_fi.other W5 ne_fi_nx
  have V_la := V_la.other W5 ne_la_nx
  have V_co := V_co.other W5 (Ne.symm ne_nx_co)
  have V_sc := V_sc.other W5 (Ne.symm ne_nx_sc)
  have KP := KP.wr W5 (Or.inl (by simp))
  have V_nx : Arv Z h5 nx knx .int (16 : Int32) ((lN.set (i1).toNatClampNeg (-1 : Int32)).map Value.int) (.int (0 : Int32)) := by rw [List.map_set]; exact Vn5
  refine C5.aloadN d28_49 rfl rfl rfl ?_
  refine C5.aloadN d28_50 rfl rfl rfl ?_
  refine C5.getF (host := "") (Or.inl (hw _ (List.mem_of_getElem? (i := 88) rfl))) Via.refl F_o0_scratch d28_51 rfl (fun T6 C6 => ?_)
  refine C6.callP (hw _ (List.mem_of_getElem? (i := 154) rfl)) (hw _ (List.mem_of_getElem? (i := 155) rfl)) (own_selP (y2 := ({ cls := "com/example/nestor/nestor/engine/Index", name := "first", desc := "([I)I" } : Jvm.MethodName)) rfl (hw _ (List.mem_of_getElem? (i := 152) rfl)) (hw _ (List.mem_of_getElem? (i := 156) rfl)) (hw _ (List.mem_of_getElem? (i := 155) rfl)) (by decide)) (hw _ (List.mem_of_getElem? (i := 156) rfl)) (hw _ (List.mem_of_getElem? (i := 62) rfl)) (hw _ (List.mem_of_getElem? (i := 157) rfl)) E_o0 (by decide) (a := o0) (rm21 l Z a0 hw o0 sc sl fi co rl ce kco kce lC kw2 ksl kfi lS lF lL lN gg i1 ksc h5 n0 C6.size E_o0 F_o0_slots F_o0_firsts V_sl V_fi F_o0_columns F_o0_relation E_rl F_rl_cells F_rl_arity V_ce V_co hinv hy V_sc) (argsL := [(.ref sc)]) pd21 rfl 0 (by decide) (by decide) (by decide) (by decide) (rest := []) rfl rfl (Nat.le_of_eq rfl) d28_54 rfl (fun v7 T7 h7 C7 qq7 => ?_)
  obtain ⟨rr7, rfl, hh7, p7_0⟩ := qq7
  have hh7 := hh7.symm; subst hh7
  have hrr_7 := p7_0
  show Go p e below F n0 (fun v h' => ∃ mS : List Int32, ∃ mF : List Int32, ∃ mL : List Int32, ∃ mN : List Int32, ∃ mg : Int32, ∃ mk : Int32, v = none ∧ Keep h0 h' [o0, sc, nx, fi, la, sl] ∧ Exa Z h' o0 "com/example/nestor/nestor/engine/Index" ∧ Fld Z h' o0 "com/example/nestor/nestor/engine/Index" "slots" "[I" (.ref sl) ∧ Fld Z h' o0 "com/example/nestor/nestor/engine/Index" "firsts" "[I" (.ref fi) ∧ Fld Z h' o0 "com/example/nestor/nestor/engine/Index" "lasts" "[I" (.ref la) ∧ Fld Z h' o0 "com/example/nestor/nestor/engine/Index" "nexts" "[I" (.ref nx) ∧ Fld Z h' o0 "com/example/nestor/nestor/engine/Index" "relation" "Lcom/example/nestor/nestor/engine/Relation;" (.ref rl) ∧ Fld Z h' o0 "com/example/nestor/nestor/engine/Index" "columns" "[I" (.ref co) ∧ Fld Z h' o0 "com/example/nestor/nestor/engine/Index" "scratch" "[I" (.ref sc) ∧ Fld Z h' o0 "com/example/nestor/nestor/engine/Index" "groups" "I" (.int mg) ∧ Arv Z h' sl ksl .int (16 : Int32) (mS.map Value.int) (.int (0 : Int32)) ∧ Arv Z h' fi kfi .int (8 : Int32) (mF.map Value.int) (.int (0 : Int32)) ∧ Arv Z h' la kla .int (8 : Int32) (mL.map Value.int) (.int (0 : Int32)) ∧ Arv Z h' nx knx .int (16 : Int32) (mN.map Value.int) (.int (0 : Int32)) ∧ Arv Z h' sc ksc .int (1 : Int32) [(.int mk)] (.int (0 : Int32)) ∧ own_Inv (i1 + (1 : Int32)) mg mS mF mL mN) T7 (mkF m 57 #[.val (.ref o0), .val (.int i1), .unset, .unset] [(.int rr7)])
  refine C7.istoreN d28_57 rfl (L' := #[.val (.ref o0), .val (.int i1), .val (.int rr7), .unset]) rfl ?_
  refine C7.aloadN d28_58 rfl rfl rfl ?_
  refine C7.getF (host := "") (Or.inl (hw _ (List.mem_of_getElem? (i := 67) rfl))) Via.refl F_o0_slots d28_59 rfl (fun T8 C8 => ?_)
  refine C8.iloadN d28_62 rfl rfl ?_
  refine C8.iaload (v := (lS.getD (rr7).toNatClampNeg 0)) V_sl hrr_7 (own_getI lS _) d28_63 rfl ?_
  refine C8.if_ne d28_64 (by decide) (by decide : _ = 174) rfl (fun c64 => ?_) (fun c64 => ?_)
  · refine C8.aloadN d28_174 rfl rfl rfl ?_
    refine C8.getF (host := "") (Or.inl (hw _ (List.mem_of_getElem? (i := 67) rfl))) Via.refl F_o0_slots d28_175 rfl (fun T9 C9 => ?_)
    refine C9.iloadN d28_178 rfl rfl ?_
    refine C9.iaload (v := (lS.getD (rr7).toNatClampNeg 0)) V_sl hrr_7 (own_getI lS _) d28_179 rfl ?_
    refine C9.iconst (1 : Int32) d28_180 rfl rfl ?_
    refine C9.isub d28_181 rfl ?_
    refine C9.istoreN d28_182 rfl (L' := #[.val (.ref o0), .val (.int i1), .val (.int rr7), .val (.int ((lS.getD (rr7).toNatClampNeg 0) - (1 : Int32)))]) rfl ?_
    refine C9.aloadN d28_183 rfl rfl rfl ?_
    refine C9.getF (host := "") (Or.inl (hw _ (List.mem_of_getElem? (i := 73) rfl))) Via.refl F_o0_nexts d28_184 rfl (fun T10 C10 => ?_)
    refine C10.aloadN d28_187 rfl rfl rfl ?_
    refine C10.getF (host := "") (Or.inl (hw _ (List.mem_of_getElem? (i := 71) rfl))) Via.refl F_o0_lasts d28_188 rfl (fun T11 C11 => ?_)
    refine C11.iloadN d28_191 rfl rfl ?_
    refine C11.iaload (v := (lL.getD (((lS.getD (rr7).toNatClampNeg 0) - (1 : Int32))).toNatClampNeg 0)) V_la (own_pre28_4 o0 i1 sl fi la nx co sc rl ce ksl kfi kla knx kco ksc kce lS lF lL lN lC gg kv kw2 rr7 hinv hy hrr_7 c64) (own_getI lL _) d28_192 rfl ?_
    refine C11.iloadN d28_193 rfl rfl ?_
    refine C11.iastore V_nx (own_pre28_5 o0 i1 sl fi la nx co sc rl ce ksl kfi kla knx kco ksc kce lS lF lL lN lC gg kv kw2 rr7 hinv hy hrr_7 c64) (own_pre28_6 o0 i1 sl fi la nx co sc rl ce ksl kfi kla knx kco ksc kce lS lF lL lN lC gg kv kw2 rr7 hinv hy hrr_7 c64) g_nx d28_194 rfl (fun T12 h12 C12 W12 Vn12 => ?_)
    have E_o0 := E_o0.wr W12
    have F_o0_slots := F_o0_slots.other W12 (Or.inl ne_o0_nx)
    have F_o0_firsts := F_o0_firsts.other W12 (Or.inl ne_o0_nx)
    have F_o0_lasts := F_o0_lasts.other W12 (Or.inl ne_o0_nx)
    have F_o0_nexts := F_o0_nexts.other W12 (Or.inl ne_o0_nx)
    have F_o0_relation := F_o0_relation.other W12 (Or.inl ne_o0_nx)
    have F_o0_columns := F_o0_columns.other W12 (Or.inl ne_o0_nx)
    have F_o0_scratch := F_o0_scratch.other W12 (Or.inl ne_o0_nx)
    have F_o0_groups := F_o0_groups.other W12 (Or.inl ne_o0_nx)
    have E_rl := E_rl.wr W12
    have F_rl_cells := F_rl_cells.other W12 (Or.inl ne_rl_nx)
    have F_rl_arity := F_rl_arity.other W12 (Or.inl ne_rl_nx)
    have V_ce := V_ce.other W12 (Ne.symm ne_nx_ce)
    have V_sl := V_sl.other W12 ne_sl_nx
    have V_fi := V_fi.other W12 ne_fi_nx
    have V_la := V_la.other W12 ne_la_nx
    have V_co := V_co.other W12 (Ne.symm ne_nx_co)
    have V_sc := V_sc.other W12 (Ne.symm ne_nx_sc)
    have KP := KP.wr W12 (Or.inl (by simp))
    have V_nx : Arv Z h12 nx knx .int (16 : Int32) (((lN.set (i1).toNatClampNeg (-1 : Int32)).set ((lL.getD (((lS.getD (rr7).toNatClampNeg 0) - (1 : Int32))).toNatClampNeg 0)).toNatClampNeg i1).map Value.int) (.int (0 : Int32)) := by rw [List.map_set]; exact Vn12
    refine C12.aloadN d28_195 rfl rfl rfl ?_
    refine C12.getF (host := "") (Or.inl (hw _ (List.mem_of_getElem? (i := 71) rfl))) Via.refl F_o0_lasts d28_196 rfl (fun T13 C13 => ?_)
    refine C13.iloadN d28_199 rfl rfl ?_
    refine C13.iloadN d28_200 rfl rfl ?_
    refine C13.iastore V_la (own_pre28_4 o0 i1 sl fi la nx co sc rl ce ksl kfi kla knx kco ksc kce lS lF lL lN lC gg kv kw2 rr7 hinv hy hrr_7 c64) (own_pre28_7 o0 i1 sl fi la nx co sc rl ce ksl kfi kla knx kco ksc kce lS lF lL lN lC gg kv kw2 rr7 hinv hy hrr_7 c64) g_la d28_201 rfl (fun T14 h14 C14 W14 Vn14 => ?_)
    have ne_o0_la : o0 ≠ la := (own_nea E_o0 (hw _ (List.mem_of_getElem? (i := 61) rfl)) V_la)
    have ne_rl_la : rl ≠ la := (own_nea E_rl (hw _ (List.mem_of_getElem? (i := 1) rfl)) V_la)
    have E_o0 := E_o0.wr W14
    have F_o0_slots := F_o0_slots.other W14 (Or.inl ne_o0_la)
    have F_o0_firsts := F_o0_firsts.other W14 (Or.inl ne_o0_la)
    have F_o0_lasts := F_o0_lasts.other W14 (Or.inl ne_o0_la)
    have F_o0_nexts := F_o0_nexts.other W14 (Or.inl ne_o0_la)
    have F_o0_relation := F_o0_relation.other W14 (Or.inl ne_o0_la)
    have F_o0_columns := F_o0_columns.other W14 (Or.inl ne_o0_la)
    have F_o0_scratch := F_o0_scratch.other W14 (Or.inl ne_o0_la)
    have F_o0_groups := F_o0_groups.other W14 (Or.inl ne_o0_la)
    have E_rl := E_rl.wr W14
    have F_rl_cells := F_rl_cells.other W14 (Or.inl ne_rl_la)
    have F_rl_arity := F_rl_arity.other W14 (Or.inl ne_rl_la)
    have V_ce := V_ce.other W14 (Ne.symm ne_la_ce)
    have V_sl := V_sl.other W14 ne_sl_la
    have V_fi := V_fi.other W14 ne_fi_la
    have V_nx := V_nx.other W14 (Ne.symm ne_la_nx)
    have V_co := V_co.other W14 (Ne.symm ne_la_co)
    have V_sc := V_sc.other W14 (Ne.symm ne_la_sc)
    have KP := KP.wr W14 (Or.inl (by simp))
    have V_la : Arv Z h14 la kla .int (8 : Int32) ((lL.set (((lS.getD (rr7).toNatClampNeg 0) - (1 : Int32))).toNatClampNeg i1).map Value.int) (.int (0 : Int32)) := by rw [List.map_set]; exact Vn14
    exact C14.retV d28_202 rfl (by decide) (by decide) ⟨lS, lF, (lL.set (((lS.getD (rr7).toNatClampNeg 0) - (1 : Int32))).toNatClampNeg i1), ((lN.set (i1).toNatClampNeg (-1 : Int32)).set ((lL.getD (((lS.getD (rr7).toNatClampNeg 0) - (1 : Int32))).toNatClampNeg 0)).toNatClampNeg i1), gg, kw2, rfl, KP, E_o0, F_o0_slots, F_o0_firsts, F_o0_lasts, F_o0_nexts, F_o0_relation, F_o0_columns, F_o0_scratch, F_o0_groups, V_sl, V_fi, V_la, V_nx, V_sc, (own_old hinv hy)⟩
  · refine C8.aloadN d28_67 rfl rfl rfl ?_
    refine C8.getF (host := "") (Or.inl (hw _ (List.mem_of_getElem? (i := 232) rfl))) Via.refl F_o0_groups d28_68 rfl (fun T15 C15 => ?_)
    refine C15.aloadN d28_71 rfl rfl rfl ?_
    refine C15.getF (host := "") (Or.inl (hw _ (List.mem_of_getElem? (i := 69) rfl))) Via.refl F_o0_firsts d28_72 rfl (fun T16 C16 => ?_)
    refine C16.arrlen V_fi d28_75 rfl ?_
    refine C16.icmp_ne d28_76 (by decide) (by decide : _ = 113) rfl (fun _ => ?_) (fun q => absurd q (own_pre28_8 o0 i1 sl fi la nx co sc rl ce ksl kfi kla knx kco ksc kce lS lF lL lN lC gg kv kw2 rr7 hinv hy hrr_7 c64))
    refine C16.aloadN d28_113 rfl rfl rfl ?_
    refine C16.getF (host := "") (Or.inl (hw _ (List.mem_of_getElem? (i := 69) rfl))) Via.refl F_o0_firsts d28_114 rfl (fun T17 C17 => ?_)
    refine C17.aloadN d28_117 rfl rfl rfl ?_
    refine C17.getF (host := "") (Or.inl (hw _ (List.mem_of_getElem? (i := 232) rfl))) Via.refl F_o0_groups d28_118 rfl (fun T18 C18 => ?_)
    refine C18.iloadN d28_121 rfl rfl ?_
    refine C18.iastore V_fi (own_pre28_9 o0 i1 sl fi la nx co sc rl ce ksl kfi kla knx kco ksc kce lS lF lL lN lC gg kv kw2 rr7 hinv hy hrr_7 c64) (own_pre28_10 o0 i1 sl fi la nx co sc rl ce ksl kfi kla knx kco ksc kce lS lF lL lN lC gg kv kw2 rr7 hinv hy hrr_7 c64) g_fi d28_122 rfl (fun T19 h19 C19 W19 Vn19 => ?_)
    have ne_o0_fi : o0 ≠ fi := (own_nea E_o0 (hw _ (List.mem_of_getElem? (i := 61) rfl)) V_fi)
    have ne_rl_fi : rl ≠ fi := (own_nea E_rl (hw _ (List.mem_of_getElem? (i := 1) rfl)) V_fi)
    have E_o0 := E_o0.wr W19
    have F_o0_slots := F_o0_slots.other W19 (Or.inl ne_o0_fi)
    have F_o0_firsts := F_o0_firsts.other W19 (Or.inl ne_o0_fi)
    have F_o0_lasts := F_o0_lasts.other W19 (Or.inl ne_o0_fi)
    have F_o0_nexts := F_o0_nexts.other W19 (Or.inl ne_o0_fi)
    have F_o0_relation := F_o0_relation.other W19 (Or.inl ne_o0_fi)
    have F_o0_columns := F_o0_columns.other W19 (Or.inl ne_o0_fi)
    have F_o0_scratch := F_o0_scratch.other W19 (Or.inl ne_o0_fi)
    have F_o0_groups := F_o0_groups.other W19 (Or.inl ne_o0_fi)
    have E_rl := E_rl.wr W19
    have F_rl_cells := F_rl_cells.other W19 (Or.inl ne_rl_fi)
    have F_rl_arity := F_rl_arity.other W19 (Or.inl ne_rl_fi)
    have V_ce := V_ce.other W19 (Ne.symm ne_fi_ce)
    have V_sl := V_sl.other W19 ne_sl_fi
    have V_la := V_la.other W19 (Ne.symm ne_fi_la)
    have V_nx := V_nx.other W19 (Ne.symm ne_fi_nx)
    have V_co := V_co.other W19 (Ne.symm ne_fi_co)
    have V_sc := V_sc.other W19 (Ne.symm ne_fi_sc)
    have KP := KP.wr W19 (Or.inl (by simp))
    have V_fi : Arv Z h19 fi kfi .int (8 : Int32) ((lF.set (gg).toNatClampNeg i1).map Value.int) (.int (0 : Int32)) := by rw [List.map_set]; exact Vn19
    refine C19.aloadN d28_123 rfl rfl rfl ?_
    refine C19.getF (host := "") (Or.inl (hw _ (List.mem_of_getElem? (i := 71) rfl))) Via.refl F_o0_lasts d28_124 rfl (fun T20 C20 => ?_)
    refine C20.aloadN d28_127 rfl rfl rfl ?_
    refine C20.getF (host := "") (Or.inl (hw _ (List.mem_of_getElem? (i := 232) rfl))) Via.refl F_o0_groups d28_128 rfl (fun T21 C21 => ?_)
    refine C21.iloadN d28_131 rfl rfl ?_
    refine C21.iastore V_la (own_pre28_9 o0 i1 sl fi la nx co sc rl ce ksl kfi kla knx kco ksc kce lS lF lL lN lC gg kv kw2 rr7 hinv hy hrr_7 c64) (own_pre28_11 o0 i1 sl fi la nx co sc rl ce ksl kfi kla knx kco ksc kce lS lF lL lN lC gg kv kw2 rr7 hinv hy hrr_7 c64) g_la d28_132 rfl (fun T22 h22 C22 W22 Vn22 => ?_)
    have ne_o0_la : o0 ≠ la := (own_nea E_o0 (hw _ (List.mem_of_getElem? (i := 61) rfl)) V_la)
    have ne_rl_la : rl ≠ la := (own_nea E_rl (hw _ (List.mem_of_getElem? (i := 1) rfl)) V_la)
    have E_o0 := E_o0.wr W22
    have F_o0_slots := F_o0_slots.other W22 (Or.inl ne_o0_la)
    have F_o0_firsts := F_o0_firsts.other W22 (Or.inl ne_o0_la)
    have F_o0_lasts := F_o0_lasts.other W22 (Or.inl ne_o0_la)
    have F_o0_nexts := F_o0_nexts.other W22 (Or.inl ne_o0_la)
    have F_o0_relation := F_o0_relation.other W22 (Or.inl ne_o0_la)
    have F_o0_columns := F_o0_columns.other W22 (Or.inl ne_o0_la)
    have F_o0_scratch := F_o0_scratch.other W22 (Or.inl ne_o0_la)
    have F_o0_groups := F_o0_groups.other W22 (Or.inl ne_o0_la)
    have E_rl := E_rl.wr W22
    have F_rl_cells := F_rl_cells.other W22 (Or.inl ne_rl_la)
    have F_rl_arity := F_rl_arity.other W22 (Or.inl ne_rl_la)
    have V_ce := V_ce.other W22 (Ne.symm ne_la_ce)
    have V_sl := V_sl.other W22 ne_sl_la
    have V_fi := V_fi.other W22 ne_fi_la
    have V_nx := V_nx.other W22 (Ne.symm ne_la_nx)
    have V_co := V_co.other W22 (Ne.symm ne_la_co)
    have V_sc := V_sc.other W22 (Ne.symm ne_la_sc)
    have KP := KP.wr W22 (Or.inl (by simp))
    have V_la : Arv Z h22 la kla .int (8 : Int32) ((lL.set (gg).toNatClampNeg i1).map Value.int) (.int (0 : Int32)) := by rw [List.map_set]; exact Vn22
    refine C22.aloadN d28_133 rfl rfl rfl ?_
    refine C22.dup d28_134 rfl rfl ?_
    refine C22.getF (host := "") (Or.inl (hw _ (List.mem_of_getElem? (i := 232) rfl))) Via.refl F_o0_groups d28_135 rfl (fun T23 C23 => ?_)
    refine C23.iconst (1 : Int32) d28_138 rfl rfl ?_
    refine C23.iadd d28_139 rfl ?_
    refine C23.putF (host := "") (Or.inl (hw _ (List.mem_of_getElem? (i := 232) rfl))) Via.refl F_o0_groups E_o0 (Or.inl (hw _ (List.mem_of_getElem? (i := 233) rfl))) (hw _ (List.mem_of_getElem? (i := 61) rfl)) (ty := .int) (by decide) rfl rfl g_o0 d28_140 rfl (fun T24 h24 C24 W24 => ?_)
    have ne_rl_o0 : rl ≠ o0 := (ne_exa E_rl E_o0 (by decide))
    have ne_ce_o0 : ce ≠ o0 := (Ne.symm (own_nea E_o0 (hw _ (List.mem_of_getElem? (i := 61) rfl)) V_ce))
    have ne_sl_o0 : sl ≠ o0 := (Ne.symm (own_nea E_o0 (hw _ (List.mem_of_getElem? (i := 61) rfl)) V_sl))
    have ne_co_o0 : co ≠ o0 := (Ne.symm (own_nea E_o0 (hw _ (List.mem_of_getElem? (i := 61) rfl)) V_co))
    have E_o0 := E_o0.wr W24
    have F_o0_slots := F_o0_slots.other W24 (Or.inr (slot_ne (Or.inl (hw _ (List.mem_of_getElem? (i := 68) rfl))) (Or.inl (hw _ (List.mem_of_getElem? (i := 233) rfl))) (by decide) (t := (.array .int)) (t' := .int) (by decide) (by decide)))
    have F_o0_firsts := F_o0_firsts.other W24 (Or.inr (slot_ne (Or.inl (hw _ (List.mem_of_getElem? (i := 70) rfl))) (Or.inl (hw _ (List.mem_of_getElem? (i := 233) rfl))) (by decide) (t := (.array .int)) (t' := .int) (by decide) (by decide)))
    have F_o0_lasts := F_o0_lasts.other W24 (Or.inr (slot_ne (Or.inl (hw _ (List.mem_of_getElem? (i := 72) rfl))) (Or.inl (hw _ (List.mem_of_getElem? (i := 233) rfl))) (by decide) (t := (.array .int)) (t' := .int) (by decide) (by decide)))
    have F_o0_nexts := F_o0_nexts.other W24 (Or.inr (slot_ne (Or.inl (hw _ (List.mem_of_getElem? (i := 74) rfl))) (Or.inl (hw _ (List.mem_of_getElem? (i := 233) rfl))) (by decide) (t := (.array .int)) (t' := .int) (by decide) (by decide)))
    have F_o0_relation := F_o0_relation.other W24 (Or.inr (slot_ne (Or.inr (hw _ (List.mem_of_getElem? (i := 76) rfl))) (Or.inl (hw _ (List.mem_of_getElem? (i := 233) rfl))) (by decide) (t := (.object "com/example/nestor/nestor/engine/Relation")) (t' := .int) (by decide) (by decide)))
    have F_o0_columns := F_o0_columns.other W24 (Or.inr (slot_ne (Or.inr (hw _ (List.mem_of_getElem? (i := 87) rfl))) (Or.inl (hw _ (List.mem_of_getElem? (i := 233) rfl))) (by decide) (t := (.array .int)) (t' := .int) (by decide) (by decide)))
    have F_o0_scratch := F_o0_scratch.other W24 (Or.inr (slot_ne (Or.inr (hw _ (List.mem_of_getElem? (i := 89) rfl))) (Or.inl (hw _ (List.mem_of_getElem? (i := 233) rfl))) (by decide) (t := (.array .int)) (t' := .int) (by decide) (by decide)))
    have E_rl := E_rl.wr W24
    have F_rl_cells := F_rl_cells.other W24 (Or.inl ne_rl_o0)
    have F_rl_arity := F_rl_arity.other W24 (Or.inl ne_rl_o0)
    have V_ce := V_ce.other W24 ne_ce_o0
    have V_sl := V_sl.other W24 ne_sl_o0
    have V_fi := V_fi.other W24 (Ne.symm ne_o0_fi)
    have V_la := V_la.other W24 (Ne.symm ne_o0_la)
    have V_nx := V_nx.other W24 (Ne.symm ne_o0_nx)
    have V_co := V_co.other W24 ne_co_o0
    have V_sc := V_sc.other W24 (Ne.symm ne_o0_sc)
    have KP := KP.wr W24 (Or.inl (by simp))
    have F_o0_groups := F_o0_groups.same W24
    refine C24.aloadN d28_143 rfl rfl rfl ?_
    refine C24.getF (host := "") (Or.inl (hw _ (List.mem_of_getElem? (i := 67) rfl))) Via.refl F_o0_slots d28_144 rfl (fun T25 C25 => ?_)
    refine C25.iloadN d28_147 rfl rfl ?_
    refine C25.aloadN d28_148 rfl rfl rfl ?_
    refine C25.getF (host := "") (Or.inl (hw _ (List.mem_of_getElem? (i := 232) rfl))) Via.refl F_o0_groups d28_149 rfl (fun T26 C26 => ?_)
    refine C26.iastore V_sl hrr_7 (own_pre28_12 o0 i1 sl fi la nx co sc rl ce ksl kfi kla knx kco ksc kce lS lF lL lN lC gg kv kw2 rr7 hinv hy hrr_7 c64) g_sl d28_152 rfl (fun T27 h27 C27 W27 Vn27 => ?_)
    have ne_rl_sl : rl ≠ sl := (own_nea E_rl (hw _ (List.mem_of_getElem? (i := 1) rfl)) V_sl)
    have E_o0 := E_o0.wr W27
    have F_o0_slots := F_o0_slots.other W27 (Or.inl (Ne.symm ne_sl_o0))
    have F_o0_firsts := F_o0_firsts.other W27 (Or.inl (Ne.symm ne_sl_o0))
    have F_o0_lasts := F_o0_lasts.other W27 (Or.inl (Ne.symm ne_sl_o0))
    have F_o0_nexts := F_o0_nexts.other W27 (Or.inl (Ne.symm ne_sl_o0))
    have F_o0_relation := F_o0_relation.other W27 (Or.inl (Ne.symm ne_sl_o0))
    have F_o0_columns := F_o0_columns.other W27 (Or.inl (Ne.symm ne_sl_o0))
    have F_o0_scratch := F_o0_scratch.other W27 (Or.inl (Ne.symm ne_sl_o0))
    have F_o0_groups := F_o0_groups.other W27 (Or.inl (Ne.symm ne_sl_o0))
    have E_rl := E_rl.wr W27
    have F_rl_cells := F_rl_cells.other W27 (Or.inl ne_rl_sl)
    have F_rl_arity := F_rl_arity.other W27 (Or.inl ne_rl_sl)
    have V_ce := V_ce.other W27 (Ne.symm ne_sl_ce)
    have V_fi := V_fi.other W27 (Ne.symm ne_sl_fi)
    have V_la := V_la.other W27 (Ne.symm ne_sl_la)
    have V_nx := V_nx.other W27 (Ne.symm ne_sl_nx)
    have V_co := V_co.other W27 (Ne.symm ne_sl_co)
    have V_sc := V_sc.other W27 (Ne.symm ne_sl_sc)
    have KP := KP.wr W27 (Or.inl (by simp))
    have V_sl : Arv Z h27 sl ksl .int (16 : Int32) ((lS.set (rr7).toNatClampNeg (gg + (1 : Int32))).map Value.int) (.int (0 : Int32)) := by rw [List.map_set]; exact Vn27
    refine C27.aloadN d28_153 rfl rfl rfl ?_
    refine C27.getF (host := "") (Or.inl (hw _ (List.mem_of_getElem? (i := 232) rfl))) Via.refl F_o0_groups d28_154 rfl (fun T28 C28 => ?_)
    refine C28.iconst (2 : Int32) d28_157 rfl rfl ?_
    refine C28.imul d28_158 rfl ?_
    refine C28.aloadN d28_159 rfl rfl rfl ?_
    refine C28.getF (host := "") (Or.inl (hw _ (List.mem_of_getElem? (i := 67) rfl))) Via.refl F_o0_slots d28_160 rfl (fun T29 C29 => ?_)
    refine C29.arrlen V_sl d28_163 rfl ?_
    refine C29.icmp_le d28_164 (by decide) (by decide : _ = 202) rfl (fun _ => ?_) (fun q => absurd q (own_pre28_13 o0 i1 sl fi la nx co sc rl ce ksl kfi kla knx kco ksc kce lS lF lL lN lC gg kv kw2 rr7 hinv hy hrr_7 c64))
    exact C29.retV d28_202 rfl (by decide) (by decide) ⟨(lS.set (rr7).toNatClampNeg (gg + (1 : Int32))), (lF.set (gg).toNatClampNeg i1), (lL.set (gg).toNatClampNeg i1), (lN.set (i1).toNatClampNeg (-1 : Int32)), (gg + (1 : Int32)), kw2, rfl, KP, E_o0, F_o0_slots, F_o0_firsts, F_o0_lasts, F_o0_nexts, F_o0_relation, F_o0_columns, F_o0_scratch, F_o0_groups, V_sl, V_fi, V_la, V_nx, V_sc, (own_new hinv hy)⟩
set_option maxRecDepth 65536 in
set_option maxHeartbeats 40000000 in
theorem own_pre17_0 (o0 : Addr) (o1 : Addr) (al : Addr) (ce : Addr) (ix : Addr) (ed : Addr) (sl : Addr) (fi : Addr) (la : Addr) (nx : Addr) (co : Addr) (sc : Addr) (kce : ClassId) (ked : ClassId) (ksl : ClassId) (kfi : ClassId) (kla : ClassId) (knx : ClassId) (kco : ClassId) (ksc : ClassId) (ko1 : ClassId) (lS : List Int32) (lF : List Int32) (lL : List Int32) (lN : List Int32) (lC : List Int32) (gg : Int32) (kv : Int32) (kq : Int32) (y0 : Int32) (y1 : Int32) (y2 : Int32) (rr1 : Int32) (hinv : own_Inv y0 gg lS lF lL lN) (hy : y0.toInt ≤ 2) (hC : lC.length = 16) (c5 : rr1 = (0 : Int32)) : ¬ (16 : Int32) < ((y0 + (1 : Int32)) * (1 : Int32)) := by
  obtain ⟨q1, q2, q3, q4, q5, q6, q7, q8, q9, q10, q11⟩ := hinv
  clear q11
  clear q8 q9 q10
  have ca_0 := c_imul (y0 + (1 : Int32)) (1 : Int32)
  have ca_1 := c_iadd y0 (1 : Int32)
  have ca_2 := c_imul (y0 + (1 : Int32)) (1 : Int32)
  have ca_3 := c_iadd y0 (1 : Int32)
  have bl_0 := (y0).le_toInt; have bu_0 := (y0).toInt_lt
  have bl_1 := (rr1).le_toInt; have bu_1 := (rr1).toInt_lt
  have bl_2 := ((y0 + (1 : Int32)) * (1 : Int32)).le_toInt; have bu_2 := ((y0 + (1 : Int32)) * (1 : Int32)).toInt_lt
  have bl_3 := (y0 + (1 : Int32)).le_toInt; have bu_3 := (y0 + (1 : Int32)).toInt_lt
  have bl_4 := (((y0 + (1 : Int32)) * (1 : Int32))).le_toInt; have bu_4 := (((y0 + (1 : Int32)) * (1 : Int32))).toInt_lt
  have bl_5 := ((y0 + (1 : Int32))).le_toInt; have bu_5 := ((y0 + (1 : Int32))).toInt_lt
  try simp only [List.length_map, List.length_set, List.length_append, List.length_take, List.length_drop, List.length_cons, List.length_nil, Int32.toNatClampNeg, own_eqite, own_iteeq] at *
  try simp only [ne_eq, and_true, true_and, or_true, true_or, and_false, false_and, or_false, false_or, not_true_eq_false, not_false_eq_true, Int32.lt_iff_toInt_lt, Int64.lt_iff_toInt_lt, ← Int32.toInt_inj, ← Int64.toInt_inj, Int32.reduceToInt, Int64.reduceToInt] at *
  omega
set_option maxRecDepth 65536 in
set_option maxHeartbeats 40000000 in
theorem own_cpy17_0 (o0 : Addr) (o1 : Addr) (al : Addr) (ce : Addr) (ix : Addr) (ed : Addr) (sl : Addr) (fi : Addr) (la : Addr) (nx : Addr) (co : Addr) (sc : Addr) (kce : ClassId) (ked : ClassId) (ksl : ClassId) (kfi : ClassId) (kla : ClassId) (knx : ClassId) (kco : ClassId) (ksc : ClassId) (ko1 : ClassId) (lS : List Int32) (lF : List Int32) (lL : List Int32) (lN : List Int32) (lC : List Int32) (gg : Int32) (kv : Int32) (kq : Int32) (y0 : Int32) (y1 : Int32) (y2 : Int32) (rr1 : Int32) (hinv : own_Inv y0 gg lS lF lL lN) (hy : y0.toInt ≤ 2) (hC : lC.length = 16) (c5 : rr1 = (0 : Int32)) : ¬ (0 : Int32) < 0 := by
  obtain ⟨q1, q2, q3, q4, q5, q6, q7, q8, q9, q10, q11⟩ := hinv
  clear q11
  clear q8 q9 q10
  have bl_0 := (y0).le_toInt; have bu_0 := (y0).toInt_lt
  have bl_1 := (rr1).le_toInt; have bu_1 := (rr1).toInt_lt
  try simp only [List.length_map, List.length_set, List.length_append, List.length_take, List.length_drop, List.length_cons, List.length_nil, Int32.toNatClampNeg, own_eqite, own_iteeq] at *
  try simp only [ne_eq, and_true, true_and, or_true, true_or, and_false, false_and, or_false, false_or, not_true_eq_false, not_false_eq_true, Int32.lt_iff_toInt_lt, Int64.lt_iff_toInt_lt, ← Int32.toInt_inj, ← Int64.toInt_inj, Int32.reduceToInt, Int64.reduceToInt] at *
  omega
set_option maxRecDepth 65536 in
set_option maxHeartbeats 40000000 in
theorem own_cpy17_1 (o0 : Addr) (o1 : Addr) (al : Addr) (ce : Addr) (ix : Addr) (ed : Addr) (sl : Addr) (fi : Addr) (la : Addr) (nx : Addr) (co : Addr) (sc : Addr) (kce : ClassId) (ked : ClassId) (ksl : ClassId) (kfi : ClassId) (kla : ClassId) (knx : ClassId) (kco : ClassId) (ksc : ClassId) (ko1 : ClassId) (lS : List Int32) (lF : List Int32) (lL : List Int32) (lN : List Int32) (lC : List Int32) (gg : Int32) (kv : Int32) (kq : Int32) (y0 : Int32) (y1 : Int32) (y2 : Int32) (rr1 : Int32) (hinv : own_Inv y0 gg lS lF lL lN) (hy : y0.toInt ≤ 2) (hC : lC.length = 16) (c5 : rr1 = (0 : Int32)) : ¬ (y0 * (1 : Int32)) < 0 := by
  obtain ⟨q1, q2, q3, q4, q5, q6, q7, q8, q9, q10, q11⟩ := hinv
  clear q11
  clear q8 q9 q10
  have ca_0 := c_imul y0 (1 : Int32)
  have ca_1 := c_imul y0 (1 : Int32)
  have bl_0 := (y0).le_toInt; have bu_0 := (y0).toInt_lt
  have bl_1 := (rr1).le_toInt; have bu_1 := (rr1).toInt_lt
  have bl_2 := (y0 * (1 : Int32)).le_toInt; have bu_2 := (y0 * (1 : Int32)).toInt_lt
  have bl_3 := ((y0 * (1 : Int32))).le_toInt; have bu_3 := ((y0 * (1 : Int32))).toInt_lt
  try simp only [List.length_map, List.length_set, List.length_append, List.length_take, List.length_drop, List.length_cons, List.length_nil, Int32.toNatClampNeg, own_eqite, own_iteeq] at *
  try simp only [ne_eq, and_true, true_and, or_true, true_or, and_false, false_and, or_false, false_or, not_true_eq_false, not_false_eq_true, Int32.lt_iff_toInt_lt, Int64.lt_iff_toInt_lt, ← Int32.toInt_inj, ← Int64.toInt_inj, Int32.reduceToInt, Int64.reduceToInt] at *
  omega
set_option maxRecDepth 65536 in
set_option maxHeartbeats 40000000 in
theorem own_cpy17_2 (o0 : Addr) (o1 : Addr) (al : Addr) (ce : Addr) (ix : Addr) (ed : Addr) (sl : Addr) (fi : Addr) (la : Addr) (nx : Addr) (co : Addr) (sc : Addr) (kce : ClassId) (ked : ClassId) (ksl : ClassId) (kfi : ClassId) (kla : ClassId) (knx : ClassId) (kco : ClassId) (ksc : ClassId) (ko1 : ClassId) (lS : List Int32) (lF : List Int32) (lL : List Int32) (lN : List Int32) (lC : List Int32) (gg : Int32) (kv : Int32) (kq : Int32) (y0 : Int32) (y1 : Int32) (y2 : Int32) (rr1 : Int32) (hinv : own_Inv y0 gg lS lF lL lN) (hy : y0.toInt ≤ 2) (hC : lC.length = 16) (c5 : rr1 = (0 : Int32)) : ¬ (1 : Int32) < 0 := by
  obtain ⟨q1, q2, q3, q4, q5, q6, q7, q8, q9, q10, q11⟩ := hinv
  clear q11
  clear q8 q9 q10
  have bl_0 := (y0).le_toInt; have bu_0 := (y0).toInt_lt
  have bl_1 := (rr1).le_toInt; have bu_1 := (rr1).toInt_lt
  try simp only [List.length_map, List.length_set, List.length_append, List.length_take, List.length_drop, List.length_cons, List.length_nil, Int32.toNatClampNeg, own_eqite, own_iteeq] at *
  try simp only [ne_eq, and_true, true_and, or_true, true_or, and_false, false_and, or_false, false_or, not_true_eq_false, not_false_eq_true, Int32.lt_iff_toInt_lt, Int64.lt_iff_toInt_lt, ← Int32.toInt_inj, ← Int64.toInt_inj, Int32.reduceToInt, Int64.reduceToInt] at *
  omega
set_option maxRecDepth 65536 in
set_option maxHeartbeats 40000000 in
theorem own_cpy17_3 (o0 : Addr) (o1 : Addr) (al : Addr) (ce : Addr) (ix : Addr) (ed : Addr) (sl : Addr) (fi : Addr) (la : Addr) (nx : Addr) (co : Addr) (sc : Addr) (kce : ClassId) (ked : ClassId) (ksl : ClassId) (kfi : ClassId) (kla : ClassId) (knx : ClassId) (kco : ClassId) (ksc : ClassId) (ko1 : ClassId) (lS : List Int32) (lF : List Int32) (lL : List Int32) (lN : List Int32) (lC : List Int32) (gg : Int32) (kv : Int32) (kq : Int32) (y0 : Int32) (y1 : Int32) (y2 : Int32) (rr1 : Int32) (hinv : own_Inv y0 gg lS lF lL lN) (hy : y0.toInt ≤ 2) (hC : lC.length = 16) (c5 : rr1 = (0 : Int32)) : ((0 : Int32)).toNatClampNeg + ((1 : Int32)).toNatClampNeg ≤ ((1 : Int32)).toNatClampNeg := by
  obtain ⟨q1, q2, q3, q4, q5, q6, q7, q8, q9, q10, q11⟩ := hinv
  clear q11
  clear q8 q9 q10
  have bl_0 := (y0).le_toInt; have bu_0 := (y0).toInt_lt
  have bl_1 := (rr1).le_toInt; have bu_1 := (rr1).toInt_lt
  try simp only [List.length_map, List.length_set, List.length_append, List.length_take, List.length_drop, List.length_cons, List.length_nil, Int32.toNatClampNeg, own_eqite, own_iteeq] at *
  try simp only [ne_eq, and_true, true_and, or_true, true_or, and_false, false_and, or_false, false_or, not_true_eq_false, not_false_eq_true, Int32.lt_iff_toInt_lt, Int64.lt_iff_toInt_lt, ← Int32.toInt_inj, ← Int64.toInt_inj, Int32.reduceToInt, Int64.reduceToInt] at *
  omega
set_option maxRecDepth 65536 in
set_option maxHeartbeats 40000000 in
theorem own_cpy17_4 (o0 : Addr) (o1 : Addr) (al : Addr) (ce : Addr) (ix : Addr) (ed : Addr) (sl : Addr) (fi : Addr) (la : Addr) (nx : Addr) (co : Addr) (sc : Addr) (kce : ClassId) (ked : ClassId) (ksl : ClassId) (kfi : ClassId) (kla : ClassId) (knx : ClassId) (kco : ClassId) (ksc : ClassId) (ko1 : ClassId) (lS : List Int32) (lF : List Int32) (lL : List Int32) (lN : List Int32) (lC : List Int32) (gg : Int32) (kv : Int32) (kq : Int32) (y0 : Int32) (y1 : Int32) (y2 : Int32) (rr1 : Int32) (hinv : own_Inv y0 gg lS lF lL lN) (hy : y0.toInt ≤ 2) (hC : lC.length = 16) (c5 : rr1 = (0 : Int32)) : ((y0 * (1 : Int32))).toNatClampNeg + ((1 : Int32)).toNatClampNeg ≤ ((16 : Int32)).toNatClampNeg := by
  obtain ⟨q1, q2, q3, q4, q5, q6, q7, q8, q9, q10, q11⟩ := hinv
  clear q11
  clear q8 q9 q10
  have ca_0 := c_imul y0 (1 : Int32)
  have bl_0 := (y0).le_toInt; have bu_0 := (y0).toInt_lt
  have bl_1 := (rr1).le_toInt; have bu_1 := (rr1).toInt_lt
  have bl_2 := ((y0 * (1 : Int32))).le_toInt; have bu_2 := ((y0 * (1 : Int32))).toInt_lt
  try simp only [List.length_map, List.length_set, List.length_append, List.length_take, List.length_drop, List.length_cons, List.length_nil, Int32.toNatClampNeg, own_eqite, own_iteeq] at *
  try simp only [ne_eq, and_true, true_and, or_true, true_or, and_false, false_and, or_false, false_or, not_true_eq_false, not_false_eq_true, Int32.lt_iff_toInt_lt, Int64.lt_iff_toInt_lt, ← Int32.toInt_inj, ← Int64.toInt_inj, Int32.reduceToInt, Int64.reduceToInt] at *
  omega
set_option maxRecDepth 65536 in
set_option maxHeartbeats 40000000 in
theorem own_cpy17_5 (o0 : Addr) (o1 : Addr) (al : Addr) (ce : Addr) (ix : Addr) (ed : Addr) (sl : Addr) (fi : Addr) (la : Addr) (nx : Addr) (co : Addr) (sc : Addr) (kce : ClassId) (ked : ClassId) (ksl : ClassId) (kfi : ClassId) (kla : ClassId) (knx : ClassId) (kco : ClassId) (ksc : ClassId) (ko1 : ClassId) (lS : List Int32) (lF : List Int32) (lL : List Int32) (lN : List Int32) (lC : List Int32) (gg : Int32) (kv : Int32) (kq : Int32) (y0 : Int32) (y1 : Int32) (y2 : Int32) (rr1 : Int32) (hinv : own_Inv y0 gg lS lF lL lN) (hy : y0.toInt ≤ 2) (hC : lC.length = 16) (c5 : rr1 = (0 : Int32)) : ((y0 * (1 : Int32))).toNatClampNeg + ((1 : Int32)).toNatClampNeg ≤ (lC.map Value.int).length := by
  obtain ⟨q1, q2, q3, q4, q5, q6, q7, q8, q9, q10, q11⟩ := hinv
  clear q11
  clear q8 q9 q10
  have ca_0 := c_imul y0 (1 : Int32)
  have bl_0 := (y0).le_toInt; have bu_0 := (y0).toInt_lt
  have bl_1 := (rr1).le_toInt; have bu_1 := (rr1).toInt_lt
  have bl_2 := ((y0 * (1 : Int32))).le_toInt; have bu_2 := ((y0 * (1 : Int32))).toInt_lt
  try simp only [List.length_map, List.length_set, List.length_append, List.length_take, List.length_drop, List.length_cons, List.length_nil, Int32.toNatClampNeg, own_eqite, own_iteeq] at *
  try simp only [ne_eq, and_true, true_and, or_true, true_or, and_false, false_and, or_false, false_or, not_true_eq_false, not_false_eq_true, Int32.lt_iff_toInt_lt, Int64.lt_iff_toInt_lt, ← Int32.toInt_inj, ← Int64.toInt_inj, Int32.reduceToInt, Int64.reduceToInt] at *
  omega
set_option maxRecDepth 65536 in
set_option maxHeartbeats 40000000 in
theorem own_pre17_1 (o0 : Addr) (o1 : Addr) (al : Addr) (ce : Addr) (ix : Addr) (ed : Addr) (sl : Addr) (fi : Addr) (la : Addr) (nx : Addr) (co : Addr) (sc : Addr) (kce : ClassId) (ked : ClassId) (ksl : ClassId) (kfi : ClassId) (kla : ClassId) (knx : ClassId) (kco : ClassId) (ksc : ClassId) (ko1 : ClassId) (lS : List Int32) (lF : List Int32) (lL : List Int32) (lN : List Int32) (lC : List Int32) (gg : Int32) (kv : Int32) (kq : Int32) (y0 : Int32) (y1 : Int32) (y2 : Int32) (rr1 : Int32) (it14 : Addr) (mS18 : List Int32) (mF18 : List Int32) (mL18 : List Int32) (mN18 : List Int32) (mg18 : Int32) (mk18 : Int32) (hinv : own_Inv y0 gg lS lF lL lN) (hy : y0.toInt ≤ 2) (hC : lC.length = 16) (hinv_18 : own_Inv (y0 + (1 : Int32)) mg18 mS18 mF18 mL18 mN18) (c5 : rr1 = (0 : Int32)) : (lC.take ((y0 * (1 : Int32))).toNatClampNeg ++ [kq] ++ lC.drop (((y0 * (1 : Int32))).toNatClampNeg + 1)).length = 16 := by
  obtain ⟨q1, q2, q3, q4, q5, q6, q7, q8, q9, q10, q11⟩ := hinv
  clear q11
  clear q8 q9 q10
  have ca_0 := c_imul y0 (1 : Int32)
  have bl_0 := (kq).le_toInt; have bu_0 := (kq).toInt_lt
  have bl_1 := (y0).le_toInt; have bu_1 := (y0).toInt_lt
  have bl_2 := (rr1).le_toInt; have bu_2 := (rr1).toInt_lt
  have bl_3 := ((y0 * (1 : Int32))).le_toInt; have bu_3 := ((y0 * (1 : Int32))).toInt_lt
  try simp only [List.length_map, List.length_set, List.length_append, List.length_take, List.length_drop, List.length_cons, List.length_nil, Int32.toNatClampNeg, own_eqite, own_iteeq] at *
  try simp only [ne_eq, and_true, true_and, or_true, true_or, and_false, false_and, or_false, false_or, not_true_eq_false, not_false_eq_true, Int32.lt_iff_toInt_lt, Int64.lt_iff_toInt_lt, ← Int32.toInt_inj, ← Int64.toInt_inj, Int32.reduceToInt, Int64.reduceToInt] at *
  omega
set_option maxRecDepth 65536 in
set_option maxHeartbeats 40000000 in
theorem own_pre17_2 (o0 : Addr) (o1 : Addr) (al : Addr) (ce : Addr) (ix : Addr) (ed : Addr) (sl : Addr) (fi : Addr) (la : Addr) (nx : Addr) (co : Addr) (sc : Addr) (kce : ClassId) (ked : ClassId) (ksl : ClassId) (kfi : ClassId) (kla : ClassId) (knx : ClassId) (kco : ClassId) (ksc : ClassId) (ko1 : ClassId) (lS : List Int32) (lF : List Int32) (lL : List Int32) (lN : List Int32) (lC : List Int32) (gg : Int32) (kv : Int32) (kq : Int32) (y0 : Int32) (y1 : Int32) (y2 : Int32) (rr1 : Int32) (it14 : Addr) (mS18 : List Int32) (mF18 : List Int32) (mL18 : List Int32) (mN18 : List Int32) (mg18 : Int32) (mk18 : Int32) (hinv : own_Inv y0 gg lS lF lL lN) (hy : y0.toInt ≤ 2) (hC : lC.length = 16) (hinv_18 : own_Inv (y0 + (1 : Int32)) mg18 mS18 mF18 mL18 mN18) (c5 : rr1 = (0 : Int32)) : ((y0 + (1 : Int32))).toInt ≤ (y0).toInt + 1 := by
  obtain ⟨q1, q2, q3, q4, q5, q6, q7, q8, q9, q10, q11⟩ := hinv
  clear q11
  clear q8 q9 q10
  have ca_0 := c_iadd y0 (1 : Int32)
  have bl_0 := (y0).le_toInt; have bu_0 := (y0).toInt_lt
  have bl_1 := (rr1).le_toInt; have bu_1 := (rr1).toInt_lt
  have bl_2 := ((y0 + (1 : Int32))).le_toInt; have bu_2 := ((y0 + (1 : Int32))).toInt_lt
  try simp only [List.length_map, List.length_set, List.length_append, List.length_take, List.length_drop, List.length_cons, List.length_nil, Int32.toNatClampNeg, own_eqite, own_iteeq] at *
  try simp only [ne_eq, and_true, true_and, or_true, true_or, and_false, false_and, or_false, false_or, not_true_eq_false, not_false_eq_true, Int32.lt_iff_toInt_lt, Int64.lt_iff_toInt_lt, ← Int32.toInt_inj, ← Int64.toInt_inj, Int32.reduceToInt, Int64.reduceToInt] at *
  omega
set_option maxRecDepth 65536 in
set_option maxHeartbeats 40000000 in
theorem own_pre17_3 (o0 : Addr) (o1 : Addr) (al : Addr) (ce : Addr) (ix : Addr) (ed : Addr) (sl : Addr) (fi : Addr) (la : Addr) (nx : Addr) (co : Addr) (sc : Addr) (kce : ClassId) (ked : ClassId) (ksl : ClassId) (kfi : ClassId) (kla : ClassId) (knx : ClassId) (kco : ClassId) (ksc : ClassId) (ko1 : ClassId) (lS : List Int32) (lF : List Int32) (lL : List Int32) (lN : List Int32) (lC : List Int32) (gg : Int32) (kv : Int32) (kq : Int32) (y0 : Int32) (y1 : Int32) (y2 : Int32) (rr1 : Int32) (hinv : own_Inv y0 gg lS lF lL lN) (hy : y0.toInt ≤ 2) (hC : lC.length = 16) (c5 : ¬ rr1 = (0 : Int32)) : (y0).toInt ≤ (y0).toInt + 1 := by
  obtain ⟨q1, q2, q3, q4, q5, q6, q7, q8, q9, q10, q11⟩ := hinv
  clear q11
  clear q8 q9 q10
  have bl_0 := (y0).le_toInt; have bu_0 := (y0).toInt_lt
  have bl_1 := (rr1).le_toInt; have bu_1 := (rr1).toInt_lt
  try simp only [List.length_map, List.length_set, List.length_append, List.length_take, List.length_drop, List.length_cons, List.length_nil, Int32.toNatClampNeg, own_eqite, own_iteeq] at *
  try simp only [ne_eq, and_true, true_and, or_true, true_or, and_false, false_and, or_false, false_or, not_true_eq_false, not_false_eq_true, Int32.lt_iff_toInt_lt, Int64.lt_iff_toInt_lt, ← Int32.toInt_inj, ← Int64.toInt_inj, Int32.reduceToInt, Int64.reduceToInt] at *
  omega
theorem pn17 : plainName "com/example/nestor/nestor/engine/Relation" = true := by first | (simp [plainName, overriddenIn]; done) | decide +kernel
theorem pd17 : parseMethodDescriptor "([I)Z" = some ⟨[(.array .int)], some .boolean⟩ := by decide +kernel
theorem ef17 (m : MethodId) (o0 : Addr) (o1 : Addr) : entryFrame m #[(.ref o0), (.ref o1)] 5 = mkF m 0 #[.val (.ref o0), .val (.ref o1), .unset, .unset, .unset] [] := by first | (simp [entryFrame, mkF, argsToLocals, Value.category]; done) | rfl
theorem d17_0 : decode prog_26_method_6_code 0 = .ok (.aload_n 0, 1) := by decide +kernel
theorem d17_1 : decode prog_26_method_6_code 1 = .ok (.aload_n 1, 1) := by decide +kernel
theorem d17_2 : decode prog_26_method_6_code 2 = .ok (.invokevirtual 45, 3) := by decide +kernel
theorem d17_5 : decode prog_26_method_6_code 5 = .ok (.ifCond .eq 5, 3) := by decide +kernel
theorem d17_8 : decode prog_26_method_6_code 8 = .ok (.iconst 0, 1) := by decide +kernel
theorem d17_9 : decode prog_26_method_6_code 9 = .ok (.ireturn, 1) := by decide +kernel
theorem d17_10 : decode prog_26_method_6_code 10 = .ok (.aload_n 0, 1) := by decide +kernel
theorem d17_11 : decode prog_26_method_6_code 11 = .ok (.getfield 41, 3) := by decide +kernel
theorem d17_14 : decode prog_26_method_6_code 14 = .ok (.ifnull 7, 3) := by decide +kernel
theorem d17_21 : decode prog_26_method_6_code 21 = .ok (.aload_n 0, 1) := by decide +kernel
theorem d17_22 : decode prog_26_method_6_code 22 = .ok (.getfield 38, 3) := by decide +kernel
theorem d17_25 : decode prog_26_method_6_code 25 = .ok (.iconst 1, 1) := by decide +kernel
theorem d17_26 : decode prog_26_method_6_code 26 = .ok (.iadd, 1) := by decide +kernel
theorem d17_27 : decode prog_26_method_6_code 27 = .ok (.aload_n 0, 1) := by decide +kernel
theorem d17_28 : decode prog_26_method_6_code 28 = .ok (.getfield 16, 3) := by decide +kernel
theorem d17_31 : decode prog_26_method_6_code 31 = .ok (.imul, 1) := by decide +kernel
theorem d17_32 : decode prog_26_method_6_code 32 = .ok (.aload_n 0, 1) := by decide +kernel
theorem d17_33 : decode prog_26_method_6_code 33 = .ok (.getfield 20, 3) := by decide +kernel
theorem d17_36 : decode prog_26_method_6_code 36 = .ok (.arraylength, 1) := by decide +kernel
theorem d17_37 : decode prog_26_method_6_code 37 = .ok (.if_icmp .le 21, 3) := by decide +kernel
theorem d17_58 : decode prog_26_method_6_code 58 = .ok (.aload_n 1, 1) := by decide +kernel
theorem d17_59 : decode prog_26_method_6_code 59 = .ok (.iconst 0, 1) := by decide +kernel
theorem d17_60 : decode prog_26_method_6_code 60 = .ok (.aload_n 0, 1) := by decide +kernel
theorem d17_61 : decode prog_26_method_6_code 61 = .ok (.getfield 20, 3) := by decide +kernel
theorem d17_64 : decode prog_26_method_6_code 64 = .ok (.aload_n 0, 1) := by decide +kernel
theorem d17_65 : decode prog_26_method_6_code 65 = .ok (.getfield 38, 3) := by decide +kernel
theorem d17_68 : decode prog_26_method_6_code 68 = .ok (.aload_n 0, 1) := by decide +kernel
theorem d17_69 : decode prog_26_method_6_code 69 = .ok (.getfield 16, 3) := by decide +kernel
theorem d17_72 : decode prog_26_method_6_code 72 = .ok (.imul, 1) := by decide +kernel
theorem d17_73 : decode prog_26_method_6_code 73 = .ok (.aload_n 0, 1) := by decide +kernel
theorem d17_74 : decode prog_26_method_6_code 74 = .ok (.getfield 16, 3) := by decide +kernel
theorem d17_77 : decode prog_26_method_6_code 77 = .ok (.invokestatic 58, 3) := by decide +kernel
theorem d17_80 : decode prog_26_method_6_code 80 = .ok (.aload_n 0, 1) := by decide +kernel
theorem d17_81 : decode prog_26_method_6_code 81 = .ok (.dup, 1) := by decide +kernel
theorem d17_82 : decode prog_26_method_6_code 82 = .ok (.getfield 38, 3) := by decide +kernel
theorem d17_85 : decode prog_26_method_6_code 85 = .ok (.dup_x1, 1) := by decide +kernel
theorem d17_86 : decode prog_26_method_6_code 86 = .ok (.iconst 1, 1) := by decide +kernel
theorem d17_87 : decode prog_26_method_6_code 87 = .ok (.iadd, 1) := by decide +kernel
theorem d17_88 : decode prog_26_method_6_code 88 = .ok (.putfield 38, 3) := by decide +kernel
theorem d17_91 : decode prog_26_method_6_code 91 = .ok (.istore_n 2, 1) := by decide +kernel
theorem d17_92 : decode prog_26_method_6_code 92 = .ok (.aload_n 0, 1) := by decide +kernel
theorem d17_93 : decode prog_26_method_6_code 93 = .ok (.getfield 10, 3) := by decide +kernel
theorem d17_96 : decode prog_26_method_6_code 96 = .ok (.invokeinterface 64 1, 5) := by decide +kernel
theorem d17_101 : decode prog_26_method_6_code 101 = .ok (.astore_n 3, 1) := by decide +kernel
theorem d17_102 : decode prog_26_method_6_code 102 = .ok (.aload_n 3, 1) := by decide +kernel
theorem d17_103 : decode prog_26_method_6_code 103 = .ok (.invokeinterface 68 1, 5) := by decide +kernel
theorem d17_108 : decode prog_26_method_6_code 108 = .ok (.ifCond .eq 23, 3) := by decide +kernel
theorem d17_111 : decode prog_26_method_6_code 111 = .ok (.aload_n 3, 1) := by decide +kernel
theorem d17_112 : decode prog_26_method_6_code 112 = .ok (.invokeinterface 74 1, 5) := by decide +kernel
theorem d17_117 : decode prog_26_method_6_code 117 = .ok (.checkcast 78, 3) := by decide +kernel
theorem d17_120 : decode prog_26_method_6_code 120 = .ok (.astore 4, 2) := by decide +kernel
theorem d17_122 : decode prog_26_method_6_code 122 = .ok (.aload 4, 2) := by decide +kernel
theorem d17_124 : decode prog_26_method_6_code 124 = .ok (.iload_n 2, 1) := by decide +kernel
theorem d17_125 : decode prog_26_method_6_code 125 = .ok (.invokevirtual 80, 3) := by decide +kernel
theorem d17_128 : decode prog_26_method_6_code 128 = .ok (.goto (-26), 3) := by decide +kernel
theorem d17_131 : decode prog_26_method_6_code 131 = .ok (.iconst 1, 1) := by decide +kernel
theorem d17_132 : decode prog_26_method_6_code 132 = .ok (.ireturn, 1) := by decide +kernel
set_option maxRecDepth 65536 in
set_option maxHeartbeats 40000000 in
theorem rm17 (l : Launch) (Z : State) (a0 : Array Value) (hw : ∀ d ∈ tables_1, d.before a0 Z = true) (o0 : Addr) (o1 : Addr) (al : Addr) (ce : Addr) (ix : Addr) (ed : Addr) (sl : Addr) (fi : Addr) (la : Addr) (nx : Addr) (co : Addr) (sc : Addr) (kce : ClassId) (ked : ClassId) (ksl : ClassId) (kfi : ClassId) (kla : ClassId) (knx : ClassId) (kco : ClassId) (ksc : ClassId) (ko1 : ClassId) (lS : List Int32) (lF : List Int32) (lL : List Int32) (lN : List Int32) (lC : List Int32) (gg : Int32) (kv : Int32) (kq : Int32) (y0 : Int32) (y1 : Int32) (y2 : Int32) (h0 : Heap) (n0 : Nat) (Z0 : n0 ≤ h0.size) (E_o0 : Exa Z h0 o0 "com/example/nestor/nestor/engine/Relation") (F_o0_indexes : Fld Z h0 o0 "com/example/nestor/nestor/engine/Relation" "indexes" "Ljava/util/List;" (.ref al)) (F_o0_arity : Fld Z h0 o0 "com/example/nestor/nestor/engine/Relation" "arity" "I" (.int (1 : Int32))) (F_o0_cells : Fld Z h0 o0 "com/example/nestor/nestor/engine/Relation" "cells" "[I" (.ref ce)) (F_o0_unique : Fld Z h0 o0 "com/example/nestor/nestor/engine/Relation" "unique" "Lcom/example/nestor/nestor/engine/Index;" (.ref ix)) (F_o0_size : Fld Z h0 o0 "com/example/nestor/nestor/engine/Relation" "size" "I" (.int y0)) (F_o0_source : Fld Z h0 o0 "com/example/nestor/nestor/engine/Relation" "source" "Lcom/example/nestor/nestor/engine/Relation;" .null) (F_o0_deltaStart : Fld Z h0 o0 "com/example/nestor/nestor/engine/Relation" "deltaStart" "I" (.int y1)) (F_o0_deltaEnd : Fld Z h0 o0 "com/example/nestor/nestor/engine/Relation" "deltaEnd" "I" (.int y2)) (E_ix : Exa Z h0 ix "com/example/nestor/nestor/engine/Index") (F_ix_slots : Fld Z h0 ix "com/example/nestor/nestor/engine/Index" "slots" "[I" (.ref sl)) (F_ix_firsts : Fld Z h0 ix "com/example/nestor/nestor/engine/Index" "firsts" "[I" (.ref fi)) (F_ix_lasts : Fld Z h0 ix "com/example/nestor/nestor/engine/Index" "lasts" "[I" (.ref la)) (F_ix_nexts : Fld Z h0 ix "com/example/nestor/nestor/engine/Index" "nexts" "[I" (.ref nx)) (F_ix_relation : Fld Z h0 ix "com/example/nestor/nestor/engine/Index" "relation" "Lcom/example/nestor/nestor/engine/Relation;" (.ref o0)) (F_ix_columns : Fld Z h0 ix "com/example/nestor/nestor/engine/Index" "columns" "[I" (.ref co)) (F_ix_scratch : Fld Z h0 ix "com/example/nestor/nestor/engine/Index" "scratch" "[I" (.ref sc)) (F_ix_groups : Fld Z h0 ix "com/example/nestor/nestor/engine/Index" "groups" "I" (.int gg)) (V_sl : Arv Z h0 sl ksl .int (16 : Int32) (lS.map Value.int) (.int (0 : Int32))) (V_fi : Arv Z h0 fi kfi .int (8 : Int32) (lF.map Value.int) (.int (0 : Int32))) (V_la : Arv Z h0 la kla .int (8 : Int32) (lL.map Value.int) (.int (0 : Int32))) (V_nx : Arv Z h0 nx knx .int (16 : Int32) (lN.map Value.int) (.int (0 : Int32))) (V_co : Arv Z h0 co kco .int (1 : Int32) [(.int (0 : Int32))] (.int (0 : Int32))) (V_sc : Arv Z h0 sc ksc .int (1 : Int32) [(.int kv)] (.int (0 : Int32))) (V_ce : Arv Z h0 ce kce .int (16 : Int32) (lC.map Value.int) (.int (0 : Int32))) (E_al : Exa Z h0 al "java/util/ArrayList") (F_al_modCount : Fld Z h0 al "java/util/AbstractList" "modCount" "I" (.int (1 : Int32))) (F_al_elementData : Fld Z h0 al "java/util/ArrayList" "elementData" "[Ljava/lang/Object;" (.ref ed)) (F_al_size : Fld Z h0 al "java/util/ArrayList" "size" "I" (.int (1 : Int32))) (E_ed : Exa Z h0 ed "[Ljava/lang/Object;") (V_ed : Arv Z h0 ed ked (.object "java/lang/Object") (10 : Int32) [(.ref ix), .null, .null, .null, .null, .null, .null, .null, .null, .null] .null) (O_ked : Ovr Z ked "java/lang/Object") (V_o1 : Arv Z h0 o1 ko1 .int (1 : Int32) [(.int kq)] (.int (0 : Int32))) (g_o0 : n0 ≤ o0) (g_ce : n0 ≤ ce) (g_ix : n0 ≤ ix) (g_sc : n0 ≤ sc) (g_nx : n0 ≤ nx) (g_fi : n0 ≤ fi) (g_la : n0 ≤ la) (g_sl : n0 ≤ sl) (hinv : own_Inv y0 gg lS lF lL lN) (hy : y0.toInt ≤ 2) (hC : lC.length = 16) (ne_sl_fi : sl ≠ fi) (ne_sl_la : sl ≠ la) (ne_sl_nx : sl ≠ nx) (ne_sl_co : sl ≠ co) (ne_sl_sc : sl ≠ sc) (ne_sl_ce : sl ≠ ce) (ne_sl_ed : sl ≠ ed) (ne_fi_la : fi ≠ la) (ne_fi_nx : fi ≠ nx) (ne_fi_co : fi ≠ co) (ne_fi_sc : fi ≠ sc) (ne_fi_ce : fi ≠ ce) (ne_fi_ed : fi ≠ ed) (ne_la_nx : la ≠ nx) (ne_la_co : la ≠ co) (ne_la_sc : la ≠ sc) (ne_la_ce : la ≠ ce) (ne_la_ed : la ≠ ed) (ne_nx_co : nx ≠ co) (ne_nx_sc : nx ≠ sc) (ne_nx_ce : nx ≠ ce) (ne_nx_ed : nx ≠ ed) (ne_co_sc : co ≠ sc) (ne_co_ce : co ≠ ce) (ne_co_ed : co ≠ ed) (ne_sc_ce : sc ≠ ce) (ne_sc_ed : sc ≠ ed) (ne_ce_ed : ce ≠ ed) (ne_o1_ce : o1 ≠ ce) :
    Ctr l Z (⟨"com/example/nestor/nestor/engine/Relation", "add", "([I)Z"⟩ : MethodName) prog_26_method_6_code 5 (some .boolean) ({ frames := 6, cells := 1, slots := 4, locals := 85 } : Room) #[(.ref o0), (.ref o1)] h0 n0 (fun v h' => ∃ mS : List Int32, ∃ mF : List Int32, ∃ mL : List Int32, ∃ mN : List Int32, ∃ mC : List Int32, ∃ mg : Int32, ∃ mk : Int32, ∃ my : Int32, ∃ rr : Int32, v = some (.int rr) ∧ Keep h0 h' [o0, ce, ix, sc, nx, fi, la, sl] ∧ Exa Z h' o0 "com/example/nestor/nestor/engine/Relation" ∧ Fld Z h' o0 "com/example/nestor/nestor/engine/Relation" "indexes" "Ljava/util/List;" (.ref al) ∧ Fld Z h' o0 "com/example/nestor/nestor/engine/Relation" "arity" "I" (.int (1 : Int32)) ∧ Fld Z h' o0 "com/example/nestor/nestor/engine/Relation" "cells" "[I" (.ref ce) ∧ Fld Z h' o0 "com/example/nestor/nestor/engine/Relation" "unique" "Lcom/example/nestor/nestor/engine/Index;" (.ref ix) ∧ Fld Z h' o0 "com/example/nestor/nestor/engine/Relation" "size" "I" (.int my) ∧ Fld Z h' o0 "com/example/nestor/nestor/engine/Relation" "source" "Lcom/example/nestor/nestor/engine/Relation;" .null ∧ Fld Z h' o0 "com/example/nestor/nestor/engine/Relation" "deltaStart" "I" (.int y1) ∧ Fld Z h' o0 "com/example/nestor/nestor/engine/Relation" "deltaEnd" "I" (.int y2) ∧ Exa Z h' ix "com/example/nestor/nestor/engine/Index" ∧ Fld Z h' ix "com/example/nestor/nestor/engine/Index" "slots" "[I" (.ref sl) ∧ Fld Z h' ix "com/example/nestor/nestor/engine/Index" "firsts" "[I" (.ref fi) ∧ Fld Z h' ix "com/example/nestor/nestor/engine/Index" "lasts" "[I" (.ref la) ∧ Fld Z h' ix "com/example/nestor/nestor/engine/Index" "nexts" "[I" (.ref nx) ∧ Fld Z h' ix "com/example/nestor/nestor/engine/Index" "relation" "Lcom/example/nestor/nestor/engine/Relation;" (.ref o0) ∧ Fld Z h' ix "com/example/nestor/nestor/engine/Index" "columns" "[I" (.ref co) ∧ Fld Z h' ix "com/example/nestor/nestor/engine/Index" "scratch" "[I" (.ref sc) ∧ Fld Z h' ix "com/example/nestor/nestor/engine/Index" "groups" "I" (.int mg) ∧ Arv Z h' sl ksl .int (16 : Int32) (mS.map Value.int) (.int (0 : Int32)) ∧ Arv Z h' fi kfi .int (8 : Int32) (mF.map Value.int) (.int (0 : Int32)) ∧ Arv Z h' la kla .int (8 : Int32) (mL.map Value.int) (.int (0 : Int32)) ∧ Arv Z h' nx knx .int (16 : Int32) (mN.map Value.int) (.int (0 : Int32)) ∧ Arv Z h' sc ksc .int (1 : Int32) [(.int mk)] (.int (0 : Int32)) ∧ Arv Z h' ce kce .int (16 : Int32) (mC.map Value.int) (.int (0 : Int32)) ∧ own_Inv my mg mS mF mL mN ∧ mC.length = 16 ∧ (my).toInt ≤ (y0).toInt + 1) := by
  refine Ctr.body (L := #[.val (.ref o0), .val (.ref o1), .unset, .unset, .unset]) (plainFor_of_name pn17) Z0 (fun m => ef17 m o0 o1) ?_
  intro p e F m below meth c T0 C0
  have KP : Keep h0 h0 [o0, ce, ix, sc, nx, fi, la, sl] := Keep.refl h0 _
  refine C0.aloadN d17_0 rfl rfl rfl ?_
  refine C0.aloadN d17_1 rfl rfl rfl ?_
  refine C0.callV (hw _ (List.mem_of_getElem? (i := 139) rfl)) (hw _ (List.mem_of_getElem? (i := 140) rfl)) (hw _ (List.mem_of_getElem? (i := 142) rfl)) (hw _ (List.mem_of_getElem? (i := 141) rfl)) (hw _ (List.mem_of_getElem? (i := 2) rfl)) (hw _ (List.mem_of_getElem? (i := 143) rfl)) E_o0 (by decide) (a := o0) (rm18 l Z a0 hw o0 o1 sl fi co ce kco kce lC kq ksl kfi lS lF lL lN gg y0 ix ko1 h0 n0 C0.size E_o0 F_o0_unique E_ix F_ix_slots F_ix_firsts V_sl V_fi F_ix_columns F_ix_relation E_o0 F_o0_cells F_o0_arity V_ce V_co hinv hy V_o1) (argsL := [(.ref o1)]) pd18 rfl 0 (by decide) (by decide) (by decide) (by decide) (rest := []) rfl rfl (Nat.le_of_eq rfl) d17_2 rfl (fun v1 T1 h1 C1 qq1 => ?_)
  obtain ⟨rr1, rfl, hh1⟩ := qq1
  have hh1 := hh1.symm; subst hh1
  show Go p e below F n0 (fun v h' => ∃ mS : List Int32, ∃ mF : List Int32, ∃ mL : List Int32, ∃ mN : List Int32, ∃ mC : List Int32, ∃ mg : Int32, ∃ mk : Int32, ∃ my : Int32, ∃ rr : Int32, v = some (.int rr) ∧ Keep h0 h' [o0, ce, ix, sc, nx, fi, la, sl] ∧ Exa Z h' o0 "com/example/nestor/nestor/engine/Relation" ∧ Fld Z h' o0 "com/example/nestor/nestor/engine/Relation" "indexes" "Ljava/util/List;" (.ref al) ∧ Fld Z h' o0 "com/example/nestor/nestor/engine/Relation" "arity" "I" (.int (1 : Int32)) ∧ Fld Z h' o0 "com/example/nestor/nestor/engine/Relation" "cells" "[I" (.ref ce) ∧ Fld Z h' o0 "com/example/nestor/nestor/engine/Relation" "unique" "Lcom/example/nestor/nestor/engine/Index;" (.ref ix) ∧ Fld Z h' o0 "com/example/nestor/nestor/engine/Relation" "size" "I" (.int my) ∧ Fld Z h' o0 "com/example/nestor/nestor/engine/Relation" "source" "Lcom/example/nestor/nestor/engine/Relation;" .null ∧ Fld Z h' o0 "com/example/nestor/nestor/engine/Relation" "deltaStart" "I" (.int y1) ∧ Fld Z h' o0 "com/example/nestor/nestor/engine/Relation" "deltaEnd" "I" (.int y2) ∧ Exa Z h' ix "com/example/nestor/nestor/engine/Index" ∧ Fld Z h' ix "com/example/nestor/nestor/engine/Index" "slots" "[I" (.ref sl) ∧ Fld Z h' ix "com/example/nestor/nestor/engine/Index" "firsts" "[I" (.ref fi) ∧ Fld Z h' ix "com/example/nestor/nestor/engine/Index" "lasts" "[I" (.ref la) ∧ Fld Z h' ix "com/example/nestor/nestor/engine/Index" "nexts" "[I" (.ref nx) ∧ Fld Z h' ix "com/example/nestor/nestor/engine/Index" "relation" "Lcom/example/nestor/nestor/engine/Relation;" (.ref o0) ∧ Fld Z h' ix "com/example/nestor/nestor/engine/Index" "columns" "[I" (.ref co) ∧ Fld Z h' ix "com/example/nestor/nestor/engine/Index" "scratch" "[I" (.ref sc) ∧ Fld Z h' ix "com/example/nestor/nestor/engine/Index" "groups" "I" (.int mg) ∧ Arv Z h' sl ksl .int (16 : Int32) (mS.map Value.int) (.int (0 : Int32)) ∧ Arv Z h' fi kfi .int (8 : Int32) (mF.map Value.int) (.int (0 : Int32)) ∧ Arv Z h' la kla .int (8 : Int32) (mL.map Value.int) (.int (0 : Int32)) ∧ Arv Z h' nx knx .int (16 : Int32) (mN.map Value.int) (.int (0 : Int32)) ∧ Arv Z h' sc ksc .int (1 : Int32) [(.int mk)] (.int (0 : Int32)) ∧ Arv Z h' ce kce .int (16 : Int32) (mC.map Value.int) (.int (0 : Int32)) ∧ own_Inv my mg mS mF mL mN ∧ mC.length = 16 ∧ (my).toInt ≤ (y0).toInt + 1) T1 (mkF m 5 #[.val (.ref o0), .val (.ref o1), .unset, .unset, .unset] [(.int rr1)])
  refine C1.if_eq d17_5 (by decide) (by decide : _ = 10) rfl (fun c5 => ?_) (fun c5 => ?_)
  · refine C1.aloadN d17_10 rfl rfl rfl ?_
    refine C1.getF (host := "") (Or.inl (hw _ (List.mem_of_getElem? (i := 162) rfl))) Via.refl F_o0_source d17_11 rfl (fun T2 C2 => ?_)
    refine C2.ifnullYes d17_14 (by decide) (by decide : _ = 21) ?_
    refine C2.aloadN d17_21 rfl rfl rfl ?_
    refine C2.getF (host := "") (Or.inl (hw _ (List.mem_of_getElem? (i := 95) rfl))) Via.refl F_o0_size d17_22 rfl (fun T3 C3 => ?_)
    refine C3.iconst (1 : Int32) d17_25 rfl rfl ?_
    refine C3.iadd d17_26 rfl ?_
    refine C3.aloadN d17_27 rfl rfl rfl ?_
    refine C3.getF (host := "") (Or.inl (hw _ (List.mem_of_getElem? (i := 35) rfl))) Via.refl F_o0_arity d17_28 rfl (fun T4 C4 => ?_)
    refine C4.imul d17_31 rfl ?_
    refine C4.aloadN d17_32 rfl rfl rfl ?_
    refine C4.getF (host := "") (Or.inl (hw _ (List.mem_of_getElem? (i := 38) rfl))) Via.refl F_o0_cells d17_33 rfl (fun T5 C5 => ?_)
    refine C5.arrlen V_ce d17_36 rfl ?_
    refine C5.icmp_le d17_37 (by decide) (by decide : _ = 58) rfl (fun _ => ?_) (fun q => absurd q (own_pre17_0 o0 o1 al ce ix ed sl fi la nx co sc kce ked ksl kfi kla knx kco ksc ko1 lS lF lL lN lC gg kv kq y0 y1 y2 rr1 hinv hy hC c5))
    refine C5.aloadN d17_58 rfl rfl rfl ?_
    refine C5.iconst (0 : Int32) d17_59 rfl rfl ?_
    refine C5.aloadN d17_60 rfl rfl rfl ?_
    refine C5.getF (host := "") (Or.inl (hw _ (List.mem_of_getElem? (i := 38) rfl))) Via.refl F_o0_cells d17_61 rfl (fun T6 C6 => ?_)
    refine C6.aloadN d17_64 rfl rfl rfl ?_
    refine C6.getF (host := "") (Or.inl (hw _ (List.mem_of_getElem? (i := 95) rfl))) Via.refl F_o0_size d17_65 rfl (fun T7 C7 => ?_)
    refine C7.aloadN d17_68 rfl rfl rfl ?_
    refine C7.getF (host := "") (Or.inl (hw _ (List.mem_of_getElem? (i := 35) rfl))) Via.refl F_o0_arity d17_69 rfl (fun T8 C8 => ?_)
    refine C8.imul d17_72 rfl ?_
    refine C8.aloadN d17_73 rfl rfl rfl ?_
    refine C8.getF (host := "") (Or.inl (hw _ (List.mem_of_getElem? (i := 35) rfl))) Via.refl F_o0_arity d17_74 rfl (fun T9 C9 => ?_)
    refine C9.acopy (us := ((List.range ((1 : Int32)).toNatClampNeg).map fun i => [(.int kq)].getD (((0 : Int32)).toNatClampNeg + i) (.int (0 : Int32)))) (hw _ (List.mem_of_getElem? (i := 164) rfl)) (hw _ (List.mem_of_getElem? (i := 167) rfl)) (hw _ (List.mem_of_getElem? (i := 165) rfl)) (hw _ (List.mem_of_getElem? (i := 166) rfl)) V_o1 V_ce rfl (own_cpy17_0 o0 o1 al ce ix ed sl fi la nx co sc kce ked ksl kfi kla knx kco ksc ko1 lS lF lL lN lC gg kv kq y0 y1 y2 rr1 hinv hy hC c5) (own_cpy17_1 o0 o1 al ce ix ed sl fi la nx co sc kce ked ksl kfi kla knx kco ksc ko1 lS lF lL lN lC gg kv kq y0 y1 y2 rr1 hinv hy hC c5) (own_cpy17_2 o0 o1 al ce ix ed sl fi la nx co sc kce ked ksl kfi kla knx kco ksc ko1 lS lF lL lN lC gg kv kq y0 y1 y2 rr1 hinv hy hC c5) (own_cpy17_3 o0 o1 al ce ix ed sl fi la nx co sc kce ked ksl kfi kla knx kco ksc ko1 lS lF lL lN lC gg kv kq y0 y1 y2 rr1 hinv hy hC c5) (own_cpy17_4 o0 o1 al ce ix ed sl fi la nx co sc kce ked ksl kfi kla knx kco ksc ko1 lS lF lL lN lC gg kv kq y0 y1 y2 rr1 hinv hy hC c5) rfl (own_cpy17_5 o0 o1 al ce ix ed sl fi la nx co sc kce ked ksl kfi kla knx kco ksc ko1 lS lF lL lN lC gg kv kq y0 y1 y2 rr1 hinv hy hC c5) g_ce rfl (by decide) 0 (Nat.le_of_eq rfl) (by decide) d17_77 rfl (fun T10 h10 C10 K10 Vn10 => ?_)
    have ne_o0_ce : o0 ≠ ce := (own_nea E_o0 (hw _ (List.mem_of_getElem? (i := 1) rfl)) V_ce)
    have ne_ix_ce : ix ≠ ce := (own_nea E_ix (hw _ (List.mem_of_getElem? (i := 61) rfl)) V_ce)
    have ne_al_ce : al ≠ ce := (own_nea E_al (hw _ (List.mem_of_getElem? (i := 10) rfl)) V_ce)
    have E_o0 := E_o0.keep K10
    have F_o0_indexes := F_o0_indexes.keep K10 (ninS ne_o0_ce nin0)
    have F_o0_arity := F_o0_arity.keep K10 (ninS ne_o0_ce nin0)
    have F_o0_cells := F_o0_cells.keep K10 (ninS ne_o0_ce nin0)
    have F_o0_unique := F_o0_unique.keep K10 (ninS ne_o0_ce nin0)
    have F_o0_size := F_o0_size.keep K10 (ninS ne_o0_ce nin0)
    have F_o0_source := F_o0_source.keep K10 (ninS ne_o0_ce nin0)
    have F_o0_deltaStart := F_o0_deltaStart.keep K10 (ninS ne_o0_ce nin0)
    have F_o0_deltaEnd := F_o0_deltaEnd.keep K10 (ninS ne_o0_ce nin0)
    have E_ix := E_ix.keep K10
    have F_ix_slots := F_ix_slots.keep K10 (ninS ne_ix_ce nin0)
    have F_ix_firsts := F_ix_firsts.keep K10 (ninS ne_ix_ce nin0)
    have F_ix_lasts := F_ix_lasts.keep K10 (ninS ne_ix_ce nin0)
    have F_ix_nexts := F_ix_nexts.keep K10 (ninS ne_ix_ce nin0)
    have F_ix_relation := F_ix_relation.keep K10 (ninS ne_ix_ce nin0)
    have F_ix_columns := F_ix_columns.keep K10 (ninS ne_ix_ce nin0)
    have F_ix_scratch := F_ix_scratch.keep K10 (ninS ne_ix_ce nin0)
    have F_ix_groups := F_ix_groups.keep K10 (ninS ne_ix_ce nin0)
    have V_sl := V_sl.keep K10 (ninS ne_sl_ce nin0)
    have V_fi := V_fi.keep K10 (ninS ne_fi_ce nin0)
    have V_la := V_la.keep K10 (ninS ne_la_ce nin0)
    have V_nx := V_nx.keep K10 (ninS ne_nx_ce nin0)
    have V_co := V_co.keep K10 (ninS ne_co_ce nin0)
    have V_sc := V_sc.keep K10 (ninS ne_sc_ce nin0)
    have E_al := E_al.keep K10
    have F_al_modCount := F_al_modCount.keep K10 (ninS ne_al_ce nin0)
    have F_al_elementData := F_al_elementData.keep K10 (ninS ne_al_ce nin0)
    have F_al_size := F_al_size.keep K10 (ninS ne_al_ce nin0)
    have E_ed := E_ed.keep K10
    have V_ed := V_ed.keep K10 (ninS (Ne.symm ne_ce_ed) nin0)
    have V_o1 := V_o1.keep K10 (ninS ne_o1_ce nin0)
    have KP := KP.trans K10 (allS (Or.inl (by simp)) (all0))
    have V_ce := Vn10
    have V_ce : Arv Z h10 ce kce .int (16 : Int32) ((lC.take ((y0 * (1 : Int32))).toNatClampNeg ++ [kq] ++ lC.drop (((y0 * (1 : Int32))).toNatClampNeg + 1)).map Value.int) (.int (0 : Int32)) := by rw [own_cpy]; exact V_ce
    refine C10.aloadN d17_80 rfl rfl rfl ?_
    refine C10.dup d17_81 rfl rfl ?_
    refine C10.getF (host := "") (Or.inl (hw _ (List.mem_of_getElem? (i := 95) rfl))) Via.refl F_o0_size d17_82 rfl (fun T11 C11 => ?_)
    refine C11.dupX1 d17_85 rfl rfl rfl ?_
    refine C11.iconst (1 : Int32) d17_86 rfl rfl ?_
    refine C11.iadd d17_87 rfl ?_
    refine C11.putF (host := "") (Or.inl (hw _ (List.mem_of_getElem? (i := 95) rfl))) Via.refl F_o0_size E_o0 (Or.inl (hw _ (List.mem_of_getElem? (i := 96) rfl))) (hw _ (List.mem_of_getElem? (i := 1) rfl)) (ty := .int) (by decide) rfl rfl g_o0 d17_88 rfl (fun T12 h12 C12 W12 => ?_)
    have ne_ix_o0 : ix ≠ o0 := (ne_exa E_ix E_o0 (by decide))
    have ne_sl_o0 : sl ≠ o0 := (Ne.symm (own_nea E_o0 (hw _ (List.mem_of_getElem? (i := 1) rfl)) V_sl))
    have ne_fi_o0 : fi ≠ o0 := (Ne.symm (own_nea E_o0 (hw _ (List.mem_of_getElem? (i := 1) rfl)) V_fi))
    have ne_la_o0 : la ≠ o0 := (Ne.symm (own_nea E_o0 (hw _ (List.mem_of_getElem? (i := 1) rfl)) V_la))
    have ne_nx_o0 : nx ≠ o0 := (Ne.symm (own_nea E_o0 (hw _ (List.mem_of_getElem? (i := 1) rfl)) V_nx))
    have ne_co_o0 : co ≠ o0 := (Ne.symm (own_nea E_o0 (hw _ (List.mem_of_getElem? (i := 1) rfl)) V_co))
    have ne_sc_o0 : sc ≠ o0 := (Ne.symm (own_nea E_o0 (hw _ (List.mem_of_getElem? (i := 1) rfl)) V_sc))
    have ne_al_o0 : al ≠ o0 := (ne_exa E_al E_o0 (by decide))
    have ne_ed_o0 : ed ≠ o0 := (ne_exa E_ed E_o0 (by decide))
    have E_o0 := E_o0.wr W12
    have F_o0_indexes := F_o0_indexes.other W12 (Or.inr (slot_ne (Or.inr (hw _ (List.mem_of_getElem? (i := 34) rfl))) (Or.inl (hw _ (List.mem_of_getElem? (i := 96) rfl))) (by decide) (t := (.object "java/util/List")) (t' := .int) (by decide) (by decide)))
    have F_o0_arity := F_o0_arity.other W12 (Or.inr (slot_ne (Or.inr (hw _ (List.mem_of_getElem? (i := 36) rfl))) (Or.inl (hw _ (List.mem_of_getElem? (i := 96) rfl))) (by decide) (t := .int) (t' := .int) (by decide) (by decide)))
    have F_o0_cells := F_o0_cells.other W12 (Or.inr (slot_ne (Or.inl (hw _ (List.mem_of_getElem? (i := 39) rfl))) (Or.inl (hw _ (List.mem_of_getElem? (i := 96) rfl))) (by decide) (t := (.array .int)) (t' := .int) (by decide) (by decide)))
    have F_o0_unique := F_o0_unique.other W12 (Or.inr (slot_ne (Or.inl (hw _ (List.mem_of_getElem? (i := 98) rfl))) (Or.inl (hw _ (List.mem_of_getElem? (i := 96) rfl))) (by decide) (t := (.object "com/example/nestor/nestor/engine/Index")) (t' := .int) (by decide) (by decide)))
    have F_o0_source := F_o0_source.other W12 (Or.inr (slot_ne (Or.inl (hw _ (List.mem_of_getElem? (i := 163) rfl))) (Or.inl (hw _ (List.mem_of_getElem? (i := 96) rfl))) (by decide) (t := (.object "com/example/nestor/nestor/engine/Relation")) (t' := .int) (by decide) (by decide)))
    have F_o0_deltaStart := F_o0_deltaStart.other W12 (Or.inr (slot_ne (Or.inl (hw _ (List.mem_of_getElem? (i := 243) rfl))) (Or.inl (hw _ (List.mem_of_getElem? (i := 96) rfl))) (by decide) (t := .int) (t' := .int) (by decide) (by decide)))
    have F_o0_deltaEnd := F_o0_deltaEnd.other W12 (Or.inr (slot_ne (Or.inl (hw _ (List.mem_of_getElem? (i := 241) rfl))) (Or.inl (hw _ (List.mem_of_getElem? (i := 96) rfl))) (by decide) (t := .int) (t' := .int) (by decide) (by decide)))
    have E_ix := E_ix.wr W12
    have F_ix_slots := F_ix_slots.other W12 (Or.inl ne_ix_o0)
    have F_ix_firsts := F_ix_firsts.other W12 (Or.inl ne_ix_o0)
    have F_ix_lasts := F_ix_lasts.other W12 (Or.inl ne_ix_o0)
    have F_ix_nexts := F_ix_nexts.other W12 (Or.inl ne_ix_o0)
    have F_ix_relation := F_ix_relation.other W12 (Or.inl ne_ix_o0)
    have F_ix_columns := F_ix_columns.other W12 (Or.inl ne_ix_o0)
    have F_ix_scratch := F_ix_scratch.other W12 (Or.inl ne_ix_o0)
    have F_ix_groups := F_ix_groups.other W12 (Or.inl ne_ix_o0)
    have V_sl := V_sl.other W12 ne_sl_o0
    have V_fi := V_fi.other W12 ne_fi_o0
    have V_la := V_la.other W12 ne_la_o0
    have V_nx := V_nx.other W12 ne_nx_o0
    have V_co := V_co.other W12 ne_co_o0
    have V_sc := V_sc.other W12 ne_sc_o0
    have E_al := E_al.wr W12
    have F_al_modCount := F_al_modCount.other W12 (Or.inl ne_al_o0)
    have F_al_elementData := F_al_elementData.other W12 (Or.inl ne_al_o0)
    have F_al_size := F_al_size.other W12 (Or.inl ne_al_o0)
    have E_ed := E_ed.wr W12
    have V_ed := V_ed.other W12 ne_ed_o0
    have V_ce := V_ce.other W12 (Ne.symm ne_o0_ce)
    have KP := KP.wr W12 (Or.inl (by simp))
    have F_o0_size := F_o0_size.same W12
    refine C12.istoreN d17_91 rfl (L' := #[.val (.ref o0), .val (.ref o1), .val (.int y0), .unset, .unset]) rfl ?_
    refine C12.aloadN d17_92 rfl rfl rfl ?_
    refine C12.getF (host := "") (Or.inl (hw _ (List.mem_of_getElem? (i := 33) rfl))) Via.refl F_o0_indexes d17_93 rfl (fun T13 C13 => ?_)
    refine C13.callF (hw _ (List.mem_of_getElem? (i := 168) rfl)) (hw _ (List.mem_of_getElem? (i := 169) rfl)) (hw _ (List.mem_of_getElem? (i := 170) rfl)) (hw _ (List.mem_of_getElem? (i := 171) rfl)) (hw _ (List.mem_of_getElem? (i := 172) rfl)) (hw _ (List.mem_of_getElem? (i := 173) rfl)) (hw _ (List.mem_of_getElem? (i := 174) rfl)) (hw _ (List.mem_of_getElem? (i := 106) rfl)) (hw _ (List.mem_of_getElem? (i := 11) rfl)) (hw _ (List.mem_of_getElem? (i := 175) rfl)) E_al (by decide) (a := al) (rm23 l Z a0 hw al (1 : Int32) h12 n0 C13.size E_al F_al_modCount) (argsL := []) pd23 rfl 0 (by decide) (by decide) (by decide) (by decide) (rest := []) rfl rfl (Nat.le_of_eq rfl) d17_96 rfl (fun v14 T14 h14 C14 qq14 => ?_)
    obtain ⟨it14, rfl, K14, p14_0, p14_1, p14_2, p14_3, p14_4, p14_5⟩ := qq14
    have ne_o0_it14 : o0 ≠ it14 := Nat.ne_of_lt (Nat.lt_of_lt_of_le E_o0.lt p14_5)
    have ne_ix_it14 : ix ≠ it14 := Nat.ne_of_lt (Nat.lt_of_lt_of_le E_ix.lt p14_5)
    have ne_sl_it14 : sl ≠ it14 := Nat.ne_of_lt (Nat.lt_of_lt_of_le V_sl.lt p14_5)
    have ne_fi_it14 : fi ≠ it14 := Nat.ne_of_lt (Nat.lt_of_lt_of_le V_fi.lt p14_5)
    have ne_la_it14 : la ≠ it14 := Nat.ne_of_lt (Nat.lt_of_lt_of_le V_la.lt p14_5)
    have ne_nx_it14 : nx ≠ it14 := Nat.ne_of_lt (Nat.lt_of_lt_of_le V_nx.lt p14_5)
    have ne_co_it14 : co ≠ it14 := Nat.ne_of_lt (Nat.lt_of_lt_of_le V_co.lt p14_5)
    have ne_sc_it14 : sc ≠ it14 := Nat.ne_of_lt (Nat.lt_of_lt_of_le V_sc.lt p14_5)
    have ne_al_it14 : al ≠ it14 := Nat.ne_of_lt (Nat.lt_of_lt_of_le E_al.lt p14_5)
    have ne_ed_it14 : ed ≠ it14 := Nat.ne_of_lt (Nat.lt_of_lt_of_le E_ed.lt p14_5)
    have ne_ce_it14 : ce ≠ it14 := Nat.ne_of_lt (Nat.lt_of_lt_of_le V_ce.lt p14_5)
    have sz_it14 : h0.size ≤ it14 := Nat.le_trans KP.1 p14_5
    have g_it14 : n0 ≤ it14 := Nat.le_trans C13.size p14_5
    have K14 := ext_keep K14
    have E_o0 := E_o0.ext K14
    have F_o0_indexes := F_o0_indexes.ext K14
    have F_o0_arity := F_o0_arity.ext K14
    have F_o0_cells := F_o0_cells.ext K14
    have F_o0_unique := F_o0_unique.ext K14
    have F_o0_size := F_o0_size.ext K14
    have F_o0_source := F_o0_source.ext K14
    have F_o0_deltaStart := F_o0_deltaStart.ext K14
    have F_o0_deltaEnd := F_o0_deltaEnd.ext K14
    have E_ix := E_ix.ext K14
    have F_ix_slots := F_ix_slots.ext K14
    have F_ix_firsts := F_ix_firsts.ext K14
    have F_ix_lasts := F_ix_lasts.ext K14
    have F_ix_nexts := F_ix_nexts.ext K14
    have F_ix_relation := F_ix_relation.ext K14
    have F_ix_columns := F_ix_columns.ext K14
    have F_ix_scratch := F_ix_scratch.ext K14
    have F_ix_groups := F_ix_groups.ext K14
    have V_sl := V_sl.ext K14
    have V_fi := V_fi.ext K14
    have V_la := V_la.ext K14
    have V_nx := V_nx.ext K14
    have V_co := V_co.ext K14
    have V_sc := V_sc.ext K14
    have E_al := E_al.ext K14
    have F_al_modCount := F_al_modCount.ext K14
    have F_al_elementData := F_al_elementData.ext K14
    have F_al_size := F_al_size.ext K14
    have E_ed := E_ed.ext K14
    have V_ed := V_ed.ext K14
    have V_ce := V_ce.ext K14
    have KP := KP.ext K14
    have E_it14 := p14_0
    have F_it14_this_0 := p14_1
    have F_it14_cursor := p14_2
    have F_it14_lastRet := p14_3
    have F_it14_expectedModCount := p14_4
    show Go p e below F n0 (fun v h' => ∃ mS : List Int32, ∃ mF : List Int32, ∃ mL : List Int32, ∃ mN : List Int32, ∃ mC : List Int32, ∃ mg : Int32, ∃ mk : Int32, ∃ my : Int32, ∃ rr : Int32, v = some (.int rr) ∧ Keep h0 h' [o0, ce, ix, sc, nx, fi, la, sl] ∧ Exa Z h' o0 "com/example/nestor/nestor/engine/Relation" ∧ Fld Z h' o0 "com/example/nestor/nestor/engine/Relation" "indexes" "Ljava/util/List;" (.ref al) ∧ Fld Z h' o0 "com/example/nestor/nestor/engine/Relation" "arity" "I" (.int (1 : Int32)) ∧ Fld Z h' o0 "com/example/nestor/nestor/engine/Relation" "cells" "[I" (.ref ce) ∧ Fld Z h' o0 "com/example/nestor/nestor/engine/Relation" "unique" "Lcom/example/nestor/nestor/engine/Index;" (.ref ix) ∧ Fld Z h' o0 "com/example/nestor/nestor/engine/Relation" "size" "I" (.int my) ∧ Fld Z h' o0 "com/example/nestor/nestor/engine/Relation" "source" "Lcom/example/nestor/nestor/engine/Relation;" .null ∧ Fld Z h' o0 "com/example/nestor/nestor/engine/Relation" "deltaStart" "I" (.int y1) ∧ Fld Z h' o0 "com/example/nestor/nestor/engine/Relation" "deltaEnd" "I" (.int y2) ∧ Exa Z h' ix "com/example/nestor/nestor/engine/Index" ∧ Fld Z h' ix "com/example/nestor/nestor/engine/Index" "slots" "[I" (.ref sl) ∧ Fld Z h' ix "com/example/nestor/nestor/engine/Index" "firsts" "[I" (.ref fi) ∧ Fld Z h' ix "com/example/nestor/nestor/engine/Index" "lasts" "[I" (.ref la) ∧ Fld Z h' ix "com/example/nestor/nestor/engine/Index" "nexts" "[I" (.ref nx) ∧ Fld Z h' ix "com/example/nestor/nestor/engine/Index" "relation" "Lcom/example/nestor/nestor/engine/Relation;" (.ref o0) ∧ Fld Z h' ix "com/example/nestor/nestor/engine/Index" "columns" "[I" (.ref co) ∧ Fld Z h' ix "com/example/nestor/nestor/engine/Index" "scratch" "[I" (.ref sc) ∧ Fld Z h' ix "com/example/nestor/nestor/engine/Index" "groups" "I" (.int mg) ∧ Arv Z h' sl ksl .int (16 : Int32) (mS.map Value.int) (.int (0 : Int32)) ∧ Arv Z h' fi kfi .int (8 : Int32) (mF.map Value.int) (.int (0 : Int32)) ∧ Arv Z h' la kla .int (8 : Int32) (mL.map Value.int) (.int (0 : Int32)) ∧ Arv Z h' nx knx .int (16 : Int32) (mN.map Value.int) (.int (0 : Int32)) ∧ Arv Z h' sc ksc .int (1 : Int32) [(.int mk)] (.int (0 : Int32)) ∧ Arv Z h' ce kce .int (16 : Int32) (mC.map Value.int) (.int (0 : Int32)) ∧ own_Inv my mg mS mF mL mN ∧ mC.length = 16 ∧ (my).toInt ≤ (y0).toInt + 1) T14 (mkF m 101 #[.val (.ref o0), .val (.ref o1), .val (.int y0), .unset, .unset] [(.ref it14)])
    refine C14.astoreN d17_101 rfl rfl (L' := #[.val (.ref o0), .val (.ref o1), .val (.int y0), .val (.ref it14), .unset]) rfl ?_
    refine C14.aloadN d17_102 rfl rfl rfl ?_
    refine C14.callF (hw _ (List.mem_of_getElem? (i := 191) rfl)) (hw _ (List.mem_of_getElem? (i := 192) rfl)) (hw _ (List.mem_of_getElem? (i := 193) rfl)) (hw _ (List.mem_of_getElem? (i := 194) rfl)) (hw _ (List.mem_of_getElem? (i := 195) rfl)) (hw _ (List.mem_of_getElem? (i := 196) rfl)) (hw _ (List.mem_of_getElem? (i := 197) rfl)) (hw _ (List.mem_of_getElem? (i := 198) rfl)) (hw _ (List.mem_of_getElem? (i := 178) rfl)) (hw _ (List.mem_of_getElem? (i := 199) rfl)) E_it14 (by decide) (a := it14) (rm25 l Z a0 hw it14 al (0 : Int32) (1 : Int32) h14 n0 C14.size F_it14_this_0 F_it14_cursor F_al_size) (argsL := []) pd25 rfl 0 (by decide) (by decide) (by decide) (by decide) (rest := []) rfl rfl (Nat.le_of_eq rfl) d17_103 rfl (fun v15 T15 h15 C15 qq15 => ?_)
    obtain ⟨rfl, hh15⟩ := qq15
    have hh15 := hh15.symm; subst hh15
    show Go p e below F n0 (fun v h' => ∃ mS : List Int32, ∃ mF : List Int32, ∃ mL : List Int32, ∃ mN : List Int32, ∃ mC : List Int32, ∃ mg : Int32, ∃ mk : Int32, ∃ my : Int32, ∃ rr : Int32, v = some (.int rr) ∧ Keep h0 h' [o0, ce, ix, sc, nx, fi, la, sl] ∧ Exa Z h' o0 "com/example/nestor/nestor/engine/Relation" ∧ Fld Z h' o0 "com/example/nestor/nestor/engine/Relation" "indexes" "Ljava/util/List;" (.ref al) ∧ Fld Z h' o0 "com/example/nestor/nestor/engine/Relation" "arity" "I" (.int (1 : Int32)) ∧ Fld Z h' o0 "com/example/nestor/nestor/engine/Relation" "cells" "[I" (.ref ce) ∧ Fld Z h' o0 "com/example/nestor/nestor/engine/Relation" "unique" "Lcom/example/nestor/nestor/engine/Index;" (.ref ix) ∧ Fld Z h' o0 "com/example/nestor/nestor/engine/Relation" "size" "I" (.int my) ∧ Fld Z h' o0 "com/example/nestor/nestor/engine/Relation" "source" "Lcom/example/nestor/nestor/engine/Relation;" .null ∧ Fld Z h' o0 "com/example/nestor/nestor/engine/Relation" "deltaStart" "I" (.int y1) ∧ Fld Z h' o0 "com/example/nestor/nestor/engine/Relation" "deltaEnd" "I" (.int y2) ∧ Exa Z h' ix "com/example/nestor/nestor/engine/Index" ∧ Fld Z h' ix "com/example/nestor/nestor/engine/Index" "slots" "[I" (.ref sl) ∧ Fld Z h' ix "com/example/nestor/nestor/engine/Index" "firsts" "[I" (.ref fi) ∧ Fld Z h' ix "com/example/nestor/nestor/engine/Index" "lasts" "[I" (.ref la) ∧ Fld Z h' ix "com/example/nestor/nestor/engine/Index" "nexts" "[I" (.ref nx) ∧ Fld Z h' ix "com/example/nestor/nestor/engine/Index" "relation" "Lcom/example/nestor/nestor/engine/Relation;" (.ref o0) ∧ Fld Z h' ix "com/example/nestor/nestor/engine/Index" "columns" "[I" (.ref co) ∧ Fld Z h' ix "com/example/nestor/nestor/engine/Index" "scratch" "[I" (.ref sc) ∧ Fld Z h' ix "com/example/nestor/nestor/engine/Index" "groups" "I" (.int mg) ∧ Arv Z h' sl ksl .int (16 : Int32) (mS.map Value.int) (.int (0 : Int32)) ∧ Arv Z h' fi kfi .int (8 : Int32) (mF.map Value.int) (.int (0 : Int32)) ∧ Arv Z h' la kla .int (8 : Int32) (mL.map Value.int) (.int (0 : Int32)) ∧ Arv Z h' nx knx .int (16 : Int32) (mN.map Value.int) (.int (0 : Int32)) ∧ Arv Z h' sc ksc .int (1 : Int32) [(.int mk)] (.int (0 : Int32)) ∧ Arv Z h' ce kce .int (16 : Int32) (mC.map Value.int) (.int (0 : Int32)) ∧ own_Inv my mg mS mF mL mN ∧ mC.length = 16 ∧ (my).toInt ≤ (y0).toInt + 1) T15 (mkF m 108 #[.val (.ref o0), .val (.ref o1), .val (.int y0), .val (.ref it14), .unset] [(.int (f25 (0 : Int32) (1 : Int32)))])
    refine C15.if_eq d17_108 (by decide) (by decide : _ = 131) rfl (fun q => absurd q (by decide)) (fun _ => ?_)
    refine C15.aloadN d17_111 rfl rfl rfl ?_
    refine C15.callF (hw _ (List.mem_of_getElem? (i := 203) rfl)) (hw _ (List.mem_of_getElem? (i := 204) rfl)) (hw _ (List.mem_of_getElem? (i := 205) rfl)) (hw _ (List.mem_of_getElem? (i := 206) rfl)) (hw _ (List.mem_of_getElem? (i := 207) rfl)) (hw _ (List.mem_of_getElem? (i := 208) rfl)) (hw _ (List.mem_of_getElem? (i := 209) rfl)) (hw _ (List.mem_of_getElem? (i := 198) rfl)) (hw _ (List.mem_of_getElem? (i := 178) rfl)) (hw _ (List.mem_of_getElem? (i := 210) rfl)) E_it14 (by decide) (a := it14) (rm26 l Z a0 hw it14 al ed ix ked (1 : Int32) (.int (-1 : Int32)) h14 n0 C15.size E_it14 F_it14_this_0 F_it14_cursor F_it14_lastRet F_it14_expectedModCount g_it14 E_al F_al_modCount F_al_elementData F_al_size V_ed) (argsL := []) pd26 rfl 0 (by decide) (by decide) (by decide) (by decide) (rest := []) rfl rfl (Nat.le_of_eq rfl) d17_112 rfl (fun v16 T16 h16 C16 qq16 => ?_)
    obtain ⟨rfl, K16, p16_0, p16_1, p16_2, p16_3, p16_4⟩ := qq16
    have E_o0 := E_o0.keep K16
    have F_o0_indexes := F_o0_indexes.keep K16 (ninS ne_o0_it14 nin0)
    have F_o0_arity := F_o0_arity.keep K16 (ninS ne_o0_it14 nin0)
    have F_o0_cells := F_o0_cells.keep K16 (ninS ne_o0_it14 nin0)
    have F_o0_unique := F_o0_unique.keep K16 (ninS ne_o0_it14 nin0)
    have F_o0_size := F_o0_size.keep K16 (ninS ne_o0_it14 nin0)
    have F_o0_source := F_o0_source.keep K16 (ninS ne_o0_it14 nin0)
    have F_o0_deltaStart := F_o0_deltaStart.keep K16 (ninS ne_o0_it14 nin0)
    have F_o0_deltaEnd := F_o0_deltaEnd.keep K16 (ninS ne_o0_it14 nin0)
    have E_ix := E_ix.keep K16
    have F_ix_slots := F_ix_slots.keep K16 (ninS ne_ix_it14 nin0)
    have F_ix_firsts := F_ix_firsts.keep K16 (ninS ne_ix_it14 nin0)
    have F_ix_lasts := F_ix_lasts.keep K16 (ninS ne_ix_it14 nin0)
    have F_ix_nexts := F_ix_nexts.keep K16 (ninS ne_ix_it14 nin0)
    have F_ix_relation := F_ix_relation.keep K16 (ninS ne_ix_it14 nin0)
    have F_ix_columns := F_ix_columns.keep K16 (ninS ne_ix_it14 nin0)
    have F_ix_scratch := F_ix_scratch.keep K16 (ninS ne_ix_it14 nin0)
    have F_ix_groups := F_ix_groups.keep K16 (ninS ne_ix_it14 nin0)
    have V_sl := V_sl.keep K16 (ninS ne_sl_it14 nin0)
    have V_fi := V_fi.keep K16 (ninS ne_fi_it14 nin0)
    have V_la := V_la.keep K16 (ninS ne_la_it14 nin0)
    have V_nx := V_nx.keep K16 (ninS ne_nx_it14 nin0)
    have V_co := V_co.keep K16 (ninS ne_co_it14 nin0)
    have V_sc := V_sc.keep K16 (ninS ne_sc_it14 nin0)
    have E_al := E_al.keep K16
    have F_al_modCount := F_al_modCount.keep K16 (ninS ne_al_it14 nin0)
    have F_al_elementData := F_al_elementData.keep K16 (ninS ne_al_it14 nin0)
    have F_al_size := F_al_size.keep K16 (ninS ne_al_it14 nin0)
    have E_ed := E_ed.keep K16
    have V_ed := V_ed.keep K16 (ninS ne_ed_it14 nin0)
    have V_ce := V_ce.keep K16 (ninS ne_ce_it14 nin0)
    have E_it14 := E_it14.keep K16
    have KP := KP.trans K16 (allS (Or.inr sz_it14) (all0))
    have E_it14 := p16_0
    have F_it14_this_0 := p16_1
    have F_it14_cursor := p16_2
    have F_it14_lastRet := p16_3
    have F_it14_expectedModCount := p16_4
    show Go p e below F n0 (fun v h' => ∃ mS : List Int32, ∃ mF : List Int32, ∃ mL : List Int32, ∃ mN : List Int32, ∃ mC : List Int32, ∃ mg : Int32, ∃ mk : Int32, ∃ my : Int32, ∃ rr : Int32, v = some (.int rr) ∧ Keep h0 h' [o0, ce, ix, sc, nx, fi, la, sl] ∧ Exa Z h' o0 "com/example/nestor/nestor/engine/Relation" ∧ Fld Z h' o0 "com/example/nestor/nestor/engine/Relation" "indexes" "Ljava/util/List;" (.ref al) ∧ Fld Z h' o0 "com/example/nestor/nestor/engine/Relation" "arity" "I" (.int (1 : Int32)) ∧ Fld Z h' o0 "com/example/nestor/nestor/engine/Relation" "cells" "[I" (.ref ce) ∧ Fld Z h' o0 "com/example/nestor/nestor/engine/Relation" "unique" "Lcom/example/nestor/nestor/engine/Index;" (.ref ix) ∧ Fld Z h' o0 "com/example/nestor/nestor/engine/Relation" "size" "I" (.int my) ∧ Fld Z h' o0 "com/example/nestor/nestor/engine/Relation" "source" "Lcom/example/nestor/nestor/engine/Relation;" .null ∧ Fld Z h' o0 "com/example/nestor/nestor/engine/Relation" "deltaStart" "I" (.int y1) ∧ Fld Z h' o0 "com/example/nestor/nestor/engine/Relation" "deltaEnd" "I" (.int y2) ∧ Exa Z h' ix "com/example/nestor/nestor/engine/Index" ∧ Fld Z h' ix "com/example/nestor/nestor/engine/Index" "slots" "[I" (.ref sl) ∧ Fld Z h' ix "com/example/nestor/nestor/engine/Index" "firsts" "[I" (.ref fi) ∧ Fld Z h' ix "com/example/nestor/nestor/engine/Index" "lasts" "[I" (.ref la) ∧ Fld Z h' ix "com/example/nestor/nestor/engine/Index" "nexts" "[I" (.ref nx) ∧ Fld Z h' ix "com/example/nestor/nestor/engine/Index" "relation" "Lcom/example/nestor/nestor/engine/Relation;" (.ref o0) ∧ Fld Z h' ix "com/example/nestor/nestor/engine/Index" "columns" "[I" (.ref co) ∧ Fld Z h' ix "com/example/nestor/nestor/engine/Index" "scratch" "[I" (.ref sc) ∧ Fld Z h' ix "com/example/nestor/nestor/engine/Index" "groups" "I" (.int mg) ∧ Arv Z h' sl ksl .int (16 : Int32) (mS.map Value.int) (.int (0 : Int32)) ∧ Arv Z h' fi kfi .int (8 : Int32) (mF.map Value.int) (.int (0 : Int32)) ∧ Arv Z h' la kla .int (8 : Int32) (mL.map Value.int) (.int (0 : Int32)) ∧ Arv Z h' nx knx .int (16 : Int32) (mN.map Value.int) (.int (0 : Int32)) ∧ Arv Z h' sc ksc .int (1 : Int32) [(.int mk)] (.int (0 : Int32)) ∧ Arv Z h' ce kce .int (16 : Int32) (mC.map Value.int) (.int (0 : Int32)) ∧ own_Inv my mg mS mF mL mN ∧ mC.length = 16 ∧ (my).toInt ≤ (y0).toInt + 1) T16 (mkF m 117 #[.val (.ref o0), .val (.ref o1), .val (.int y0), .val (.ref it14), .unset] [(.ref ix)])
    refine C16.castY (hw _ (List.mem_of_getElem? (i := 60) rfl)) (Ins.self E_ix) d17_117 rfl (fun T17 C17 => ?_)
    refine C17.astore d17_120 rfl rfl (L' := #[.val (.ref o0), .val (.ref o1), .val (.int y0), .val (.ref it14), .val (.ref ix)]) rfl ?_
    refine C17.aload d17_122 rfl rfl rfl ?_
    refine C17.iloadN d17_124 rfl rfl ?_
    refine C17.callV (hw _ (List.mem_of_getElem? (i := 218) rfl)) (hw _ (List.mem_of_getElem? (i := 219) rfl)) (hw _ (List.mem_of_getElem? (i := 221) rfl)) (hw _ (List.mem_of_getElem? (i := 220) rfl)) (hw _ (List.mem_of_getElem? (i := 62) rfl)) (hw _ (List.mem_of_getElem? (i := 222) rfl)) E_ix (by decide) (a := ix) (rm28 l Z a0 hw ix y0 sl fi la nx co sc o0 ce ksl kfi kla knx kco ksc kce lS lF lL lN (lC.take ((y0 * (1 : Int32))).toNatClampNeg ++ [kq] ++ lC.drop (((y0 * (1 : Int32))).toNatClampNeg + 1)) gg kv h16 n0 C17.size E_ix F_ix_slots F_ix_firsts F_ix_lasts F_ix_nexts F_ix_relation F_ix_columns F_ix_scratch F_ix_groups E_o0 F_o0_cells F_o0_arity V_ce V_sl V_fi V_la V_nx V_co V_sc g_ix g_sc g_nx g_fi g_la g_sl hinv hy ne_sl_fi ne_sl_la ne_sl_nx ne_sl_co ne_sl_sc ne_sl_ce ne_fi_la ne_fi_nx ne_fi_co ne_fi_sc ne_fi_ce ne_la_nx ne_la_co ne_la_sc ne_la_ce ne_nx_co ne_nx_sc ne_nx_ce ne_co_sc ne_co_ce ne_sc_ce) (argsL := [(.int y0)]) pd28 rfl 0 (by decide) (by decide) (by decide) (by decide) (rest := []) rfl rfl (Nat.le_of_eq rfl) d17_125 rfl (fun v18 T18 h18 C18 qq18 => ?_)
    obtain ⟨mS18, mF18, mL18, mN18, mg18, mk18, rfl, K18, p18_0, p18_1, p18_2, p18_3, p18_4, p18_5, p18_6, p18_7, p18_8, p18_9, p18_10, p18_11, p18_12, p18_13, p18_14⟩ := qq18
    have ne_co_ix : co ≠ ix := (Ne.symm (own_nea E_ix (hw _ (List.mem_of_getElem? (i := 61) rfl)) V_co))
    have ne_al_ix : al ≠ ix := (ne_exa E_al E_ix (by decide))
    have ne_al_sc : al ≠ sc := (own_nea E_al (hw _ (List.mem_of_getElem? (i := 10) rfl)) V_sc)
    have ne_al_nx : al ≠ nx := (own_nea E_al (hw _ (List.mem_of_getElem? (i := 10) rfl)) V_nx)
    have ne_al_fi : al ≠ fi := (own_nea E_al (hw _ (List.mem_of_getElem? (i := 10) rfl)) V_fi)
    have ne_al_la : al ≠ la := (own_nea E_al (hw _ (List.mem_of_getElem? (i := 10) rfl)) V_la)
    have ne_al_sl : al ≠ sl := (own_nea E_al (hw _ (List.mem_of_getElem? (i := 10) rfl)) V_sl)
    have ne_ed_ix : ed ≠ ix := (ne_exa E_ed E_ix (by decide))
    have E_o0 := E_o0.keep K18
    have F_o0_indexes := F_o0_indexes.keep K18 (ninS (Ne.symm ne_ix_o0) (ninS (Ne.symm ne_sc_o0) (ninS (Ne.symm ne_nx_o0) (ninS (Ne.symm ne_fi_o0) (ninS (Ne.symm ne_la_o0) (ninS (Ne.symm ne_sl_o0) nin0))))))
    have F_o0_arity := F_o0_arity.keep K18 (ninS (Ne.symm ne_ix_o0) (ninS (Ne.symm ne_sc_o0) (ninS (Ne.symm ne_nx_o0) (ninS (Ne.symm ne_fi_o0) (ninS (Ne.symm ne_la_o0) (ninS (Ne.symm ne_sl_o0) nin0))))))
    have F_o0_cells := F_o0_cells.keep K18 (ninS (Ne.symm ne_ix_o0) (ninS (Ne.symm ne_sc_o0) (ninS (Ne.symm ne_nx_o0) (ninS (Ne.symm ne_fi_o0) (ninS (Ne.symm ne_la_o0) (ninS (Ne.symm ne_sl_o0) nin0))))))
    have F_o0_unique := F_o0_unique.keep K18 (ninS (Ne.symm ne_ix_o0) (ninS (Ne.symm ne_sc_o0) (ninS (Ne.symm ne_nx_o0) (ninS (Ne.symm ne_fi_o0) (ninS (Ne.symm ne_la_o0) (ninS (Ne.symm ne_sl_o0) nin0))))))
    have F_o0_size := F_o0_size.keep K18 (ninS (Ne.symm ne_ix_o0) (ninS (Ne.symm ne_sc_o0) (ninS (Ne.symm ne_nx_o0) (ninS (Ne.symm ne_fi_o0) (ninS (Ne.symm ne_la_o0) (ninS (Ne.symm ne_sl_o0) nin0))))))
    have F_o0_source := F_o0_source.keep K18 (ninS (Ne.symm ne_ix_o0) (ninS (Ne.symm ne_sc_o0) (ninS (Ne.symm ne_nx_o0) (ninS (Ne.symm ne_fi_o0) (ninS (Ne.symm ne_la_o0) (ninS (Ne.symm ne_sl_o0) nin0))))))
    have F_o0_deltaStart := F_o0_deltaStart.keep K18 (ninS (Ne.symm ne_ix_o0) (ninS (Ne.symm ne_sc_o0) (ninS (Ne.symm ne_nx_o0) (ninS (Ne.symm ne_fi_o0) (ninS (Ne.symm ne_la_o0) (ninS (Ne.symm ne_sl_o0) nin0))))))
    have F_o0_deltaEnd := F_o0_deltaEnd.keep K18 (ninS (Ne.symm ne_ix_o0) (ninS (Ne.symm ne_sc_o0) (ninS (Ne.symm ne_nx_o0) (ninS (Ne.symm ne_fi_o0) (ninS (Ne.symm ne_la_o0) (ninS (Ne.symm ne_sl_o0) nin0))))))
    have E_ix := E_ix.keep K18
    have V_co := V_co.keep K18 (ninS ne_co_ix (ninS ne_co_sc (ninS (Ne.symm ne_nx_co) (ninS (Ne.symm ne_fi_co) (ninS (Ne.symm ne_la_co) (ninS (Ne.symm ne_sl_co) nin0))))))
    have E_al := E_al.keep K18
    have F_al_modCount := F_al_modCount.keep K18 (ninS ne_al_ix (ninS ne_al_sc (ninS ne_al_nx (ninS ne_al_fi (ninS ne_al_la (ninS ne_al_sl nin0))))))
    have F_al_elementData := F_al_elementData.keep K18 (ninS ne_al_ix (ninS ne_al_sc (ninS ne_al_nx (ninS ne_al_fi (ninS ne_al_la (ninS ne_al_sl nin0))))))
    have F_al_size := F_al_size.keep K18 (ninS ne_al_ix (ninS ne_al_sc (ninS ne_al_nx (ninS ne_al_fi (ninS ne_al_la (ninS ne_al_sl nin0))))))
    have E_ed := E_ed.keep K18
    have V_ed := V_ed.keep K18 (ninS ne_ed_ix (ninS (Ne.symm ne_sc_ed) (ninS (Ne.symm ne_nx_ed) (ninS (Ne.symm ne_fi_ed) (ninS (Ne.symm ne_la_ed) (ninS (Ne.symm ne_sl_ed) nin0))))))
    have V_ce := V_ce.keep K18 (ninS (Ne.symm ne_ix_ce) (ninS (Ne.symm ne_sc_ce) (ninS (Ne.symm ne_nx_ce) (ninS (Ne.symm ne_fi_ce) (ninS (Ne.symm ne_la_ce) (ninS (Ne.symm ne_sl_ce) nin0))))))
    have E_it14 := E_it14.keep K18
    have F_it14_this_0 := F_it14_this_0.keep K18 (ninS (Ne.symm ne_ix_it14) (ninS (Ne.symm ne_sc_it14) (ninS (Ne.symm ne_nx_it14) (ninS (Ne.symm ne_fi_it14) (ninS (Ne.symm ne_la_it14) (ninS (Ne.symm ne_sl_it14) nin0))))))
    have F_it14_cursor := F_it14_cursor.keep K18 (ninS (Ne.symm ne_ix_it14) (ninS (Ne.symm ne_sc_it14) (ninS (Ne.symm ne_nx_it14) (ninS (Ne.symm ne_fi_it14) (ninS (Ne.symm ne_la_it14) (ninS (Ne.symm ne_sl_it14) nin0))))))
    have F_it14_lastRet := F_it14_lastRet.keep K18 (ninS (Ne.symm ne_ix_it14) (ninS (Ne.symm ne_sc_it14) (ninS (Ne.symm ne_nx_it14) (ninS (Ne.symm ne_fi_it14) (ninS (Ne.symm ne_la_it14) (ninS (Ne.symm ne_sl_it14) nin0))))))
    have F_it14_expectedModCount := F_it14_expectedModCount.keep K18 (ninS (Ne.symm ne_ix_it14) (ninS (Ne.symm ne_sc_it14) (ninS (Ne.symm ne_nx_it14) (ninS (Ne.symm ne_fi_it14) (ninS (Ne.symm ne_la_it14) (ninS (Ne.symm ne_sl_it14) nin0))))))
    have KP := KP.trans K18 (allS (Or.inl (by simp)) (allS (Or.inl (by simp)) (allS (Or.inl (by simp)) (allS (Or.inl (by simp)) (allS (Or.inl (by simp)) (allS (Or.inl (by simp)) (all0)))))))
    have E_ix := p18_0
    have F_ix_slots := p18_1
    have F_ix_firsts := p18_2
    have F_ix_lasts := p18_3
    have F_ix_nexts := p18_4
    have F_ix_relation := p18_5
    have F_ix_columns := p18_6
    have F_ix_scratch := p18_7
    have F_ix_groups := p18_8
    have V_sl := p18_9
    have V_fi := p18_10
    have V_la := p18_11
    have V_nx := p18_12
    have V_sc := p18_13
    have hinv_18 := p18_14
    show Go p e below F n0 (fun v h' => ∃ mS : List Int32, ∃ mF : List Int32, ∃ mL : List Int32, ∃ mN : List Int32, ∃ mC : List Int32, ∃ mg : Int32, ∃ mk : Int32, ∃ my : Int32, ∃ rr : Int32, v = some (.int rr) ∧ Keep h0 h' [o0, ce, ix, sc, nx, fi, la, sl] ∧ Exa Z h' o0 "com/example/nestor/nestor/engine/Relation" ∧ Fld Z h' o0 "com/example/nestor/nestor/engine/Relation" "indexes" "Ljava/util/List;" (.ref al) ∧ Fld Z h' o0 "com/example/nestor/nestor/engine/Relation" "arity" "I" (.int (1 : Int32)) ∧ Fld Z h' o0 "com/example/nestor/nestor/engine/Relation" "cells" "[I" (.ref ce) ∧ Fld Z h' o0 "com/example/nestor/nestor/engine/Relation" "unique" "Lcom/example/nestor/nestor/engine/Index;" (.ref ix) ∧ Fld Z h' o0 "com/example/nestor/nestor/engine/Relation" "size" "I" (.int my) ∧ Fld Z h' o0 "com/example/nestor/nestor/engine/Relation" "source" "Lcom/example/nestor/nestor/engine/Relation;" .null ∧ Fld Z h' o0 "com/example/nestor/nestor/engine/Relation" "deltaStart" "I" (.int y1) ∧ Fld Z h' o0 "com/example/nestor/nestor/engine/Relation" "deltaEnd" "I" (.int y2) ∧ Exa Z h' ix "com/example/nestor/nestor/engine/Index" ∧ Fld Z h' ix "com/example/nestor/nestor/engine/Index" "slots" "[I" (.ref sl) ∧ Fld Z h' ix "com/example/nestor/nestor/engine/Index" "firsts" "[I" (.ref fi) ∧ Fld Z h' ix "com/example/nestor/nestor/engine/Index" "lasts" "[I" (.ref la) ∧ Fld Z h' ix "com/example/nestor/nestor/engine/Index" "nexts" "[I" (.ref nx) ∧ Fld Z h' ix "com/example/nestor/nestor/engine/Index" "relation" "Lcom/example/nestor/nestor/engine/Relation;" (.ref o0) ∧ Fld Z h' ix "com/example/nestor/nestor/engine/Index" "columns" "[I" (.ref co) ∧ Fld Z h' ix "com/example/nestor/nestor/engine/Index" "scratch" "[I" (.ref sc) ∧ Fld Z h' ix "com/example/nestor/nestor/engine/Index" "groups" "I" (.int mg) ∧ Arv Z h' sl ksl .int (16 : Int32) (mS.map Value.int) (.int (0 : Int32)) ∧ Arv Z h' fi kfi .int (8 : Int32) (mF.map Value.int) (.int (0 : Int32)) ∧ Arv Z h' la kla .int (8 : Int32) (mL.map Value.int) (.int (0 : Int32)) ∧ Arv Z h' nx knx .int (16 : Int32) (mN.map Value.int) (.int (0 : Int32)) ∧ Arv Z h' sc ksc .int (1 : Int32) [(.int mk)] (.int (0 : Int32)) ∧ Arv Z h' ce kce .int (16 : Int32) (mC.map Value.int) (.int (0 : Int32)) ∧ own_Inv my mg mS mF mL mN ∧ mC.length = 16 ∧ (my).toInt ≤ (y0).toInt + 1) T18 (mkF m 128 #[.val (.ref o0), .val (.ref o1), .val (.int y0), .val (.ref it14), .val (.ref ix)] [])
    refine C18.goto d17_128 (by decide) (by decide : _ = 102) ?_
    refine C18.aloadN d17_102 rfl rfl rfl ?_
    refine C18.callF (hw _ (List.mem_of_getElem? (i := 191) rfl)) (hw _ (List.mem_of_getElem? (i := 192) rfl)) (hw _ (List.mem_of_getElem? (i := 193) rfl)) (hw _ (List.mem_of_getElem? (i := 194) rfl)) (hw _ (List.mem_of_getElem? (i := 195) rfl)) (hw _ (List.mem_of_getElem? (i := 196) rfl)) (hw _ (List.mem_of_getElem? (i := 197) rfl)) (hw _ (List.mem_of_getElem? (i := 198) rfl)) (hw _ (List.mem_of_getElem? (i := 178) rfl)) (hw _ (List.mem_of_getElem? (i := 199) rfl)) E_it14 (by decide) (a := it14) (rm25 l Z a0 hw it14 al (1 : Int32) (1 : Int32) h18 n0 C18.size F_it14_this_0 F_it14_cursor F_al_size) (argsL := []) pd25 rfl 0 (by decide) (by decide) (by decide) (by decide) (rest := []) rfl rfl (Nat.le_of_eq rfl) d17_103 rfl (fun v19 T19 h19 C19 qq19 => ?_)
    obtain ⟨rfl, hh19⟩ := qq19
    have hh19 := hh19.symm; subst hh19
    show Go p e below F n0 (fun v h' => ∃ mS : List Int32, ∃ mF : List Int32, ∃ mL : List Int32, ∃ mN : List Int32, ∃ mC : List Int32, ∃ mg : Int32, ∃ mk : Int32, ∃ my : Int32, ∃ rr : Int32, v = some (.int rr) ∧ Keep h0 h' [o0, ce, ix, sc, nx, fi, la, sl] ∧ Exa Z h' o0 "com/example/nestor/nestor/engine/Relation" ∧ Fld Z h' o0 "com/example/nestor/nestor/engine/Relation" "indexes" "Ljava/util/List;" (.ref al) ∧ Fld Z h' o0 "com/example/nestor/nestor/engine/Relation" "arity" "I" (.int (1 : Int32)) ∧ Fld Z h' o0 "com/example/nestor/nestor/engine/Relation" "cells" "[I" (.ref ce) ∧ Fld Z h' o0 "com/example/nestor/nestor/engine/Relation" "unique" "Lcom/example/nestor/nestor/engine/Index;" (.ref ix) ∧ Fld Z h' o0 "com/example/nestor/nestor/engine/Relation" "size" "I" (.int my) ∧ Fld Z h' o0 "com/example/nestor/nestor/engine/Relation" "source" "Lcom/example/nestor/nestor/engine/Relation;" .null ∧ Fld Z h' o0 "com/example/nestor/nestor/engine/Relation" "deltaStart" "I" (.int y1) ∧ Fld Z h' o0 "com/example/nestor/nestor/engine/Relation" "deltaEnd" "I" (.int y2) ∧ Exa Z h' ix "com/example/nestor/nestor/engine/Index" ∧ Fld Z h' ix "com/example/nestor/nestor/engine/Index" "slots" "[I" (.ref sl) ∧ Fld Z h' ix "com/example/nestor/nestor/engine/Index" "firsts" "[I" (.ref fi) ∧ Fld Z h' ix "com/example/nestor/nestor/engine/Index" "lasts" "[I" (.ref la) ∧ Fld Z h' ix "com/example/nestor/nestor/engine/Index" "nexts" "[I" (.ref nx) ∧ Fld Z h' ix "com/example/nestor/nestor/engine/Index" "relation" "Lcom/example/nestor/nestor/engine/Relation;" (.ref o0) ∧ Fld Z h' ix "com/example/nestor/nestor/engine/Index" "columns" "[I" (.ref co) ∧ Fld Z h' ix "com/example/nestor/nestor/engine/Index" "scratch" "[I" (.ref sc) ∧ Fld Z h' ix "com/example/nestor/nestor/engine/Index" "groups" "I" (.int mg) ∧ Arv Z h' sl ksl .int (16 : Int32) (mS.map Value.int) (.int (0 : Int32)) ∧ Arv Z h' fi kfi .int (8 : Int32) (mF.map Value.int) (.int (0 : Int32)) ∧ Arv Z h' la kla .int (8 : Int32) (mL.map Value.int) (.int (0 : Int32)) ∧ Arv Z h' nx knx .int (16 : Int32) (mN.map Value.int) (.int (0 : Int32)) ∧ Arv Z h' sc ksc .int (1 : Int32) [(.int mk)] (.int (0 : Int32)) ∧ Arv Z h' ce kce .int (16 : Int32) (mC.map Value.int) (.int (0 : Int32)) ∧ own_Inv my mg mS mF mL mN ∧ mC.length = 16 ∧ (my).toInt ≤ (y0).toInt + 1) T19 (mkF m 108 #[.val (.ref o0), .val (.ref o1), .val (.int y0), .val (.ref it14), .val (.ref ix)] [(.int (f25 (1 : Int32) (1 : Int32)))])
    refine C19.if_eq d17_108 (by decide) (by decide : _ = 131) rfl (fun _ => ?_) (fun q => absurd (by decide) q)
    refine C19.iconst (1 : Int32) d17_131 rfl rfl ?_
    exact C19.retN (t := .boolean) d17_132 rfl (by simp) (by decide) (by decide) (w := (1 : Int32)) rfl ⟨mS18, mF18, mL18, mN18, (lC.take ((y0 * (1 : Int32))).toNatClampNeg ++ [kq] ++ lC.drop (((y0 * (1 : Int32))).toNatClampNeg + 1)), mg18, mk18, (y0 + (1 : Int32)), (1 : Int32), rfl, KP, E_o0, F_o0_indexes, F_o0_arity, F_o0_cells, F_o0_unique, F_o0_size, F_o0_source, F_o0_deltaStart, F_o0_deltaEnd, E_ix, F_ix_slots, F_ix_firsts, F_ix_lasts, F_ix_nexts, F_ix_relation, F_ix_columns, F_ix_scratch, F_ix_groups, V_sl, V_fi, V_la, V_nx, V_sc, V_ce, hinv_18, (own_pre17_1 o0 o1 al ce ix ed sl fi la nx co sc kce ked ksl kfi kla knx kco ksc ko1 lS lF lL lN lC gg kv kq y0 y1 y2 rr1 it14 mS18 mF18 mL18 mN18 mg18 mk18 hinv hy hC hinv_18 c5), (own_pre17_2 o0 o1 al ce ix ed sl fi la nx co sc kce ked ksl kfi kla knx kco ksc ko1 lS lF lL lN lC gg kv kq y0 y1 y2 rr1 it14 mS18 mF18 mL18 mN18 mg18 mk18 hinv hy hC hinv_18 c5)⟩
  · refine C1.iconst (0 : Int32) d17_8 rfl rfl ?_
    exact C1.retN (t := .boolean) d17_9 rfl (by simp) (by decide) (by decide) (w := (0 : Int32)) rfl ⟨lS, lF, lL, lN, lC, gg, kv, y0, (0 : Int32), rfl, KP, E_o0, F_o0_indexes, F_o0_arity, F_o0_cells, F_o0_unique, F_o0_size, F_o0_source, F_o0_deltaStart, F_o0_deltaEnd, E_ix, F_ix_slots, F_ix_firsts, F_ix_lasts, F_ix_nexts, F_ix_relation, F_ix_columns, F_ix_scratch, F_ix_groups, V_sl, V_fi, V_la, V_nx, V_sc, V_ce, hinv, hC, (own_pre17_3 o0 o1 al ce ix ed sl fi la nx co sc kce ked ksl kfi kla knx kco ksc ko1 lS lF lL lN lC gg kv kq y0 y1 y2 rr1 hinv hy hC c5)⟩
def f31 (y0 : Int32) (y1 : Int32) (y2 : Int32) : Int32 := if y2 < y0 then (1 : Int32) else ((0 : Int32))
theorem pn31 : plainName "com/example/nestor/nestor/engine/Relation" = true := by first | (simp [plainName, overriddenIn]; done) | decide +kernel
theorem pd31 : parseMethodDescriptor "()Z" = some ⟨[], some .boolean⟩ := by decide +kernel
theorem ef31 (m : MethodId) (o0 : Addr) : entryFrame m #[(.ref o0)] 1 = mkF m 0 #[.val (.ref o0)] [] := by first | (simp [entryFrame, mkF, argsToLocals, Value.category]; done) | rfl
theorem d31_0 : decode prog_26_method_17_code 0 = .ok (.aload_n 0, 1) := by decide +kernel
theorem d31_1 : decode prog_26_method_17_code 1 = .ok (.aload_n 0, 1) := by decide +kernel
theorem d31_2 : decode prog_26_method_17_code 2 = .ok (.getfield 95, 3) := by decide +kernel
theorem d31_5 : decode prog_26_method_17_code 5 = .ok (.putfield 92, 3) := by decide +kernel
theorem d31_8 : decode prog_26_method_17_code 8 = .ok (.aload_n 0, 1) := by decide +kernel
theorem d31_9 : decode prog_26_method_17_code 9 = .ok (.aload_n 0, 1) := by decide +kernel
theorem d31_10 : decode prog_26_method_17_code 10 = .ok (.getfield 38, 3) := by decide +kernel
theorem d31_13 : decode prog_26_method_17_code 13 = .ok (.putfield 95, 3) := by decide +kernel
theorem d31_16 : decode prog_26_method_17_code 16 = .ok (.aload_n 0, 1) := by decide +kernel
theorem d31_17 : decode prog_26_method_17_code 17 = .ok (.getfield 92, 3) := by decide +kernel
theorem d31_20 : decode prog_26_method_17_code 20 = .ok (.aload_n 0, 1) := by decide +kernel
theorem d31_21 : decode prog_26_method_17_code 21 = .ok (.getfield 95, 3) := by decide +kernel
theorem d31_24 : decode prog_26_method_17_code 24 = .ok (.if_icmp .ge 7, 3) := by decide +kernel
theorem d31_27 : decode prog_26_method_17_code 27 = .ok (.iconst 1, 1) := by decide +kernel
theorem d31_28 : decode prog_26_method_17_code 28 = .ok (.goto 4, 3) := by decide +kernel
theorem d31_31 : decode prog_26_method_17_code 31 = .ok (.iconst 0, 1) := by decide +kernel
theorem d31_32 : decode prog_26_method_17_code 32 = .ok (.ireturn, 1) := by decide +kernel
set_option maxRecDepth 65536 in
set_option maxHeartbeats 40000000 in
theorem rm31 (l : Launch) (Z : State) (a0 : Array Value) (hw : ∀ d ∈ tables_1, d.before a0 Z = true) (o0 : Addr) (al : Addr) (ce : Addr) (ix : Addr) (y0 : Int32) (y1 : Int32) (y2 : Int32) (h0 : Heap) (n0 : Nat) (Z0 : n0 ≤ h0.size) (E_o0 : Exa Z h0 o0 "com/example/nestor/nestor/engine/Relation") (F_o0_indexes : Fld Z h0 o0 "com/example/nestor/nestor/engine/Relation" "indexes" "Ljava/util/List;" (.ref al)) (F_o0_arity : Fld Z h0 o0 "com/example/nestor/nestor/engine/Relation" "arity" "I" (.int (1 : Int32))) (F_o0_cells : Fld Z h0 o0 "com/example/nestor/nestor/engine/Relation" "cells" "[I" (.ref ce)) (F_o0_unique : Fld Z h0 o0 "com/example/nestor/nestor/engine/Relation" "unique" "Lcom/example/nestor/nestor/engine/Index;" (.ref ix)) (F_o0_size : Fld Z h0 o0 "com/example/nestor/nestor/engine/Relation" "size" "I" (.int y0)) (F_o0_source : Fld Z h0 o0 "com/example/nestor/nestor/engine/Relation" "source" "Lcom/example/nestor/nestor/engine/Relation;" .null) (F_o0_deltaStart : Fld Z h0 o0 "com/example/nestor/nestor/engine/Relation" "deltaStart" "I" (.int y1)) (F_o0_deltaEnd : Fld Z h0 o0 "com/example/nestor/nestor/engine/Relation" "deltaEnd" "I" (.int y2)) (g_o0 : n0 ≤ o0) :
    Ctr l Z (⟨"com/example/nestor/nestor/engine/Relation", "advance", "()Z"⟩ : MethodName) prog_26_method_17_code 1 (some .boolean) ({ frames := 0, cells := 0, slots := 0, locals := 0 } : Room) #[(.ref o0)] h0 n0 (fun v h' => v = some (.int (f31 y0 y1 y2)) ∧ Keep h0 h' [o0] ∧ Exa Z h' o0 "com/example/nestor/nestor/engine/Relation" ∧ Fld Z h' o0 "com/example/nestor/nestor/engine/Relation" "indexes" "Ljava/util/List;" (.ref al) ∧ Fld Z h' o0 "com/example/nestor/nestor/engine/Relation" "arity" "I" (.int (1 : Int32)) ∧ Fld Z h' o0 "com/example/nestor/nestor/engine/Relation" "cells" "[I" (.ref ce) ∧ Fld Z h' o0 "com/example/nestor/nestor/engine/Relation" "unique" "Lcom/example/nestor/nestor/engine/Index;" (.ref ix) ∧ Fld Z h' o0 "com/example/nestor/nestor/engine/Relation" "size" "I" (.int y0) ∧ Fld Z h' o0 "com/example/nestor/nestor/engine/Relation" "source" "Lcom/example/nestor/nestor/engine/Relation;" .null ∧ Fld Z h' o0 "com/example/nestor/nestor/engine/Relation" "deltaStart" "I" (.int y2) ∧ Fld Z h' o0 "com/example/nestor/nestor/engine/Relation" "deltaEnd" "I" (.int y0)) := by
  refine Ctr.body (L := #[.val (.ref o0)]) (plainFor_of_name pn31) Z0 (fun m => ef31 m o0) ?_
  intro p e F m below meth c T0 C0
  have KP : Keep h0 h0 [o0] := Keep.refl h0 _
  refine C0.aloadN d31_0 rfl rfl rfl ?_
  refine C0.aloadN d31_1 rfl rfl rfl ?_
  refine C0.getF (host := "") (Or.inl (hw _ (List.mem_of_getElem? (i := 240) rfl))) Via.refl F_o0_deltaEnd d31_2 rfl (fun T1 C1 => ?_)
  refine C1.putF (host := "") (Or.inl (hw _ (List.mem_of_getElem? (i := 242) rfl))) Via.refl F_o0_deltaStart E_o0 (Or.inl (hw _ (List.mem_of_getElem? (i := 243) rfl))) (hw _ (List.mem_of_getElem? (i := 1) rfl)) (ty := .int) (by decide) rfl rfl g_o0 d31_5 rfl (fun T2 h2 C2 W2 => ?_)
  have E_o0 := E_o0.wr W2
  have F_o0_indexes := F_o0_indexes.other W2 (Or.inr (slot_ne (Or.inr (hw _ (List.mem_of_getElem? (i := 34) rfl))) (Or.inl (hw _ (List.mem_of_getElem? (i := 243) rfl))) (by decide) (t := (.object "java/util/List")) (t' := .int) (by decide) (by decide)))
  have F_o0_arity := F_o0_arity.other W2 (Or.inr (slot_ne (Or.inr (hw _ (List.mem_of_getElem? (i := 36) rfl))) (Or.inl (hw _ (List.mem_of_getElem? (i := 243) rfl))) (by decide) (t := .int) (t' := .int) (by decide) (by decide)))
  have F_o0_cells := F_o0_cells.other W2 (Or.inr (slot_ne (Or.inl (hw _ (List.mem_of_getElem? (i := 39) rfl))) (Or.inl (hw _ (List.mem_of_getElem? (i := 243) rfl))) (by decide) (t := (.array .int)) (t' := .int) (by decide) (by decide)))
  have F_o0_unique := F_o0_unique.other W2 (Or.inr (slot_ne (Or.inl (hw _ (List.mem_of_getElem? (i := 98) rfl))) (Or.inl (hw _ (List.mem_of_getElem? (i := 243) rfl))) (by decide) (t := (.object "com/example/nestor/nestor/engine/Index")) (t' := .int) (by decide) (by decide)))
  have F_o0_size := F_o0_size.other W2 (Or.inr (slot_ne (Or.inl (hw _ (List.mem_of_getElem? (i := 96) rfl))) (Or.inl (hw _ (List.mem_of_getElem? (i := 243) rfl))) (by decide) (t := .int) (t' := .int) (by decide) (by decide)))
  have F_o0_source := F_o0_source.other W2 (Or.inr (slot_ne (Or.inl (hw _ (List.mem_of_getElem? (i := 163) rfl))) (Or.inl (hw _ (List.mem_of_getElem? (i := 243) rfl))) (by decide) (t := (.object "com/example/nestor/nestor/engine/Relation")) (t' := .int) (by decide) (by decide)))
  have F_o0_deltaEnd := F_o0_deltaEnd.other W2 (Or.inr (slot_ne (Or.inl (hw _ (List.mem_of_getElem? (i := 241) rfl))) (Or.inl (hw _ (List.mem_of_getElem? (i := 243) rfl))) (by decide) (t := .int) (t' := .int) (by decide) (by decide)))
  have KP := KP.wr W2 (Or.inl (by simp))
  have F_o0_deltaStart := F_o0_deltaStart.same W2
  refine C2.aloadN d31_8 rfl rfl rfl ?_
  refine C2.aloadN d31_9 rfl rfl rfl ?_
  refine C2.getF (host := "") (Or.inl (hw _ (List.mem_of_getElem? (i := 95) rfl))) Via.refl F_o0_size d31_10 rfl (fun T3 C3 => ?_)
  refine C3.putF (host := "") (Or.inl (hw _ (List.mem_of_getElem? (i := 240) rfl))) Via.refl F_o0_deltaEnd E_o0 (Or.inl (hw _ (List.mem_of_getElem? (i := 241) rfl))) (hw _ (List.mem_of_getElem? (i := 1) rfl)) (ty := .int) (by decide) rfl rfl g_o0 d31_13 rfl (fun T4 h4 C4 W4 => ?_)
  have E_o0 := E_o0.wr W4
  have F_o0_indexes := F_o0_indexes.other W4 (Or.inr (slot_ne (Or.inr (hw _ (List.mem_of_getElem? (i := 34) rfl))) (Or.inl (hw _ (List.mem_of_getElem? (i := 241) rfl))) (by decide) (t := (.object "java/util/List")) (t' := .int) (by decide) (by decide)))
  have F_o0_arity := F_o0_arity.other W4 (Or.inr (slot_ne (Or.inr (hw _ (List.mem_of_getElem? (i := 36) rfl))) (Or.inl (hw _ (List.mem_of_getElem? (i := 241) rfl))) (by decide) (t := .int) (t' := .int) (by decide) (by decide)))
  have F_o0_cells := F_o0_cells.other W4 (Or.inr (slot_ne (Or.inl (hw _ (List.mem_of_getElem? (i := 39) rfl))) (Or.inl (hw _ (List.mem_of_getElem? (i := 241) rfl))) (by decide) (t := (.array .int)) (t' := .int) (by decide) (by decide)))
  have F_o0_unique := F_o0_unique.other W4 (Or.inr (slot_ne (Or.inl (hw _ (List.mem_of_getElem? (i := 98) rfl))) (Or.inl (hw _ (List.mem_of_getElem? (i := 241) rfl))) (by decide) (t := (.object "com/example/nestor/nestor/engine/Index")) (t' := .int) (by decide) (by decide)))
  have F_o0_size := F_o0_size.other W4 (Or.inr (slot_ne (Or.inl (hw _ (List.mem_of_getElem? (i := 96) rfl))) (Or.inl (hw _ (List.mem_of_getElem? (i := 241) rfl))) (by decide) (t := .int) (t' := .int) (by decide) (by decide)))
  have F_o0_source := F_o0_source.other W4 (Or.inr (slot_ne (Or.inl (hw _ (List.mem_of_getElem? (i := 163) rfl))) (Or.inl (hw _ (List.mem_of_getElem? (i := 241) rfl))) (by decide) (t := (.object "com/example/nestor/nestor/engine/Relation")) (t' := .int) (by decide) (by decide)))
  have F_o0_deltaStart := F_o0_deltaStart.other W4 (Or.inr (slot_ne (Or.inl (hw _ (List.mem_of_getElem? (i := 243) rfl))) (Or.inl (hw _ (List.mem_of_getElem? (i := 241) rfl))) (by decide) (t := .int) (t' := .int) (by decide) (by decide)))
  have KP := KP.wr W4 (Or.inl (by simp))
  have F_o0_deltaEnd := F_o0_deltaEnd.same W4
  refine C4.aloadN d31_16 rfl rfl rfl ?_
  refine C4.getF (host := "") (Or.inl (hw _ (List.mem_of_getElem? (i := 242) rfl))) Via.refl F_o0_deltaStart d31_17 rfl (fun T5 C5 => ?_)
  refine C5.aloadN d31_20 rfl rfl rfl ?_
  refine C5.getF (host := "") (Or.inl (hw _ (List.mem_of_getElem? (i := 240) rfl))) Via.refl F_o0_deltaEnd d31_21 rfl (fun T6 C6 => ?_)
  refine C6.icmp_ge d31_24 (by decide) (by decide : _ = 31) rfl (fun c24 => ?_) (fun c24 => ?_)
  · refine C6.iconst (0 : Int32) d31_31 rfl rfl ?_
    exact C6.retN (t := .boolean) d31_32 rfl (by simp) (by decide) (by decide) (w := (0 : Int32)) rfl ⟨by rw [f31, if_neg c24], KP, E_o0, F_o0_indexes, F_o0_arity, F_o0_cells, F_o0_unique, F_o0_size, F_o0_source, F_o0_deltaStart, F_o0_deltaEnd⟩
  · refine C6.iconst (1 : Int32) d31_27 rfl rfl ?_
    refine C6.goto d31_28 (by decide) (by decide : _ = 32) ?_
    exact C6.retN (t := .boolean) d31_32 rfl (by simp) (by decide) (by decide) (w := (1 : Int32)) rfl ⟨by rw [f31, if_pos c24], KP, E_o0, F_o0_indexes, F_o0_arity, F_o0_cells, F_o0_unique, F_o0_size, F_o0_source, F_o0_deltaStart, F_o0_deltaEnd⟩
set_option maxRecDepth 65536 in
set_option maxHeartbeats 40000000 in
theorem own_pre0 (i0 : Int32) (i1 : Int32) (i2 : Int32) (i3 : Int32) (de : Addr) (kde : ClassId) (lm : Addr) (al2 : Addr) (ce2 : Addr) (ix2 : Addr) (ed2 : Addr) (sl2 : Addr) (fi2 : Addr) (la2 : Addr) (nx2 : Addr) (co2 : Addr) (sc2 : Addr) (kce2 : ClassId) (ked2 : ClassId) (ksl2 : ClassId) (kfi2 : ClassId) (kla2 : ClassId) (knx2 : ClassId) (kco2 : ClassId) (ksc2 : ClassId) (hinv_2 : own_Inv (0 : Int32) (0 : Int32) own_z16 own_z8 own_z8 own_z16) (hC_2 : own_z16.length = 16) (c40 : (i3 &&& (1 : Int32)) = (0 : Int32)) (c54 : (i3 &&& (2 : Int32)) = (0 : Int32)) (c123 : ¬ (i3 &&& (4 : Int32)) = (0 : Int32)) : (0 : Int32).toInt ≤ 2 := by
  obtain ⟨q1, q2, q3, q4, q5, q6, q7, q8, q9, q10, q11⟩ := hinv_2
  clear q11
  clear q8 q9 q10
  have ca_0 := c_mask i3 (1 : Int32) 1 (by decide) (by decide)
  have bl_0 := (i3).le_toInt; have bu_0 := (i3).toInt_lt
  try simp only [List.length_map, List.length_set, List.length_append, List.length_take, List.length_drop, List.length_cons, List.length_nil, Int32.toNatClampNeg, own_eqite, own_iteeq] at *
  try simp only [ne_eq, and_true, true_and, or_true, true_or, and_false, false_and, or_false, false_or, not_true_eq_false, not_false_eq_true, Int32.lt_iff_toInt_lt, Int64.lt_iff_toInt_lt, ← Int32.toInt_inj, ← Int64.toInt_inj, Int32.reduceToInt, Int64.reduceToInt] at *
  omega
set_option maxRecDepth 65536 in
set_option maxHeartbeats 40000000 in
theorem own_pre1 (i0 : Int32) (i1 : Int32) (i2 : Int32) (i3 : Int32) (de : Addr) (kde : ClassId) (lm : Addr) (al2 : Addr) (ce2 : Addr) (ix2 : Addr) (ed2 : Addr) (sl2 : Addr) (fi2 : Addr) (la2 : Addr) (nx2 : Addr) (co2 : Addr) (sc2 : Addr) (kce2 : ClassId) (ked2 : ClassId) (ksl2 : ClassId) (kfi2 : ClassId) (kla2 : ClassId) (knx2 : ClassId) (kco2 : ClassId) (ksc2 : ClassId) (hinv_2 : own_Inv (0 : Int32) (0 : Int32) own_z16 own_z8 own_z8 own_z16) (hC_2 : own_z16.length = 16) (c40 : (i3 &&& (1 : Int32)) = (0 : Int32)) (c54 : ¬ (i3 &&& (2 : Int32)) = (0 : Int32)) : (0 : Int32).toInt ≤ 2 := by
  obtain ⟨q1, q2, q3, q4, q5, q6, q7, q8, q9, q10, q11⟩ := hinv_2
  clear q11
  clear q8 q9 q10
  have ca_0 := c_mask i3 (1 : Int32) 1 (by decide) (by decide)
  have bl_0 := (i3).le_toInt; have bu_0 := (i3).toInt_lt
  try simp only [List.length_map, List.length_set, List.length_append, List.length_take, List.length_drop, List.length_cons, List.length_nil, Int32.toNatClampNeg, own_eqite, own_iteeq] at *
  try simp only [ne_eq, and_true, true_and, or_true, true_or, and_false, false_and, or_false, false_or, not_true_eq_false, not_false_eq_true, Int32.lt_iff_toInt_lt, Int64.lt_iff_toInt_lt, ← Int32.toInt_inj, ← Int64.toInt_inj, Int32.reduceToInt, Int64.reduceToInt] at *
  omega
set_option maxRecDepth 65536 in
set_option maxHeartbeats 40000000 in
theorem own_pre2 (i0 : Int32) (i1 : Int32) (i2 : Int32) (i3 : Int32) (de : Addr) (kde : ClassId) (lm : Addr) (al2 : Addr) (ce2 : Addr) (ix2 : Addr) (ed2 : Addr) (sl2 : Addr) (fi2 : Addr) (la2 : Addr) (nx2 : Addr) (co2 : Addr) (sc2 : Addr) (kce2 : ClassId) (ked2 : ClassId) (ksl2 : ClassId) (kfi2 : ClassId) (kla2 : ClassId) (knx2 : ClassId) (kco2 : ClassId) (ksc2 : ClassId) (mS22 : List Int32) (mF22 : List Int32) (mL22 : List Int32) (mN22 : List Int32) (mC22 : List Int32) (mg22 : Int32) (mk22 : Int32) (my22 : Int32) (rr22 : Int32) (hinv_2 : own_Inv (0 : Int32) (0 : Int32) own_z16 own_z8 own_z8 own_z16) (hC_2 : own_z16.length = 16) (hinv_22 : own_Inv my22 mg22 mS22 mF22 mL22 mN22) (hC_22 : mC22.length = 16) (hle_22 : (my22).toInt ≤ ((0 : Int32)).toInt + 1) (c40 : (i3 &&& (1 : Int32)) = (0 : Int32)) (c54 : ¬ (i3 &&& (2 : Int32)) = (0 : Int32)) (c102 : ¬ (0 : Int32) < my22) (c123 : ¬ (i3 &&& (4 : Int32)) = (0 : Int32)) : my22.toInt ≤ 2 := by
  obtain ⟨q1, q2, q3, q4, q5, q6, q7, q8, q9, q10, q11⟩ := hinv_2
  clear q11
  clear q8 q9 q10
  have ca_0 := c_mask i3 (1 : Int32) 1 (by decide) (by decide)
  have bl_0 := (i3).le_toInt; have bu_0 := (i3).toInt_lt
  have bl_1 := (my22).le_toInt; have bu_1 := (my22).toInt_lt
  try simp only [List.length_map, List.length_set, List.length_append, List.length_take, List.length_drop, List.length_cons, List.length_nil, Int32.toNatClampNeg, own_eqite, own_iteeq] at *
  try simp only [ne_eq, and_true, true_and, or_true, true_or, and_false, false_and, or_false, false_or, not_true_eq_false, not_false_eq_true, Int32.lt_iff_toInt_lt, Int64.lt_iff_toInt_lt, ← Int32.toInt_inj, ← Int64.toInt_inj, Int32.reduceToInt, Int64.reduceToInt] at *
  omega
set_option maxRecDepth 65536 in
set_option maxHeartbeats 40000000 in
theorem own_pre3 (i0 : Int32) (i1 : Int32) (i2 : Int32) (i3 : Int32) (de : Addr) (kde : ClassId) (lm : Addr) (al2 : Addr) (ce2 : Addr) (ix2 : Addr) (ed2 : Addr) (sl2 : Addr) (fi2 : Addr) (la2 : Addr) (nx2 : Addr) (co2 : Addr) (sc2 : Addr) (kce2 : ClassId) (ked2 : ClassId) (ksl2 : ClassId) (kfi2 : ClassId) (kla2 : ClassId) (knx2 : ClassId) (kco2 : ClassId) (ksc2 : ClassId) (mS22 : List Int32) (mF22 : List Int32) (mL22 : List Int32) (mN22 : List Int32) (mC22 : List Int32) (mg22 : Int32) (mk22 : Int32) (my22 : Int32) (rr22 : Int32) (hinv_2 : own_Inv (0 : Int32) (0 : Int32) own_z16 own_z8 own_z8 own_z16) (hC_2 : own_z16.length = 16) (hinv_22 : own_Inv my22 mg22 mS22 mF22 mL22 mN22) (hC_22 : mC22.length = 16) (hle_22 : (my22).toInt ≤ ((0 : Int32)).toInt + 1) (c40 : (i3 &&& (1 : Int32)) = (0 : Int32)) (c54 : ¬ (i3 &&& (2 : Int32)) = (0 : Int32)) (c102 : (0 : Int32) < my22) (c123 : ¬ (i3 &&& (4 : Int32)) = (0 : Int32)) : my22.toInt ≤ 2 := by
  obtain ⟨q1, q2, q3, q4, q5, q6, q7, q8, q9, q10, q11⟩ := hinv_2
  clear q11
  clear q8 q9 q10
  have ca_0 := c_mask i3 (1 : Int32) 1 (by decide) (by decide)
  have bl_0 := (i3).le_toInt; have bu_0 := (i3).toInt_lt
  have bl_1 := (my22).le_toInt; have bu_1 := (my22).toInt_lt
  try simp only [List.length_map, List.length_set, List.length_append, List.length_take, List.length_drop, List.length_cons, List.length_nil, Int32.toNatClampNeg, own_eqite, own_iteeq] at *
  try simp only [ne_eq, and_true, true_and, or_true, true_or, and_false, false_and, or_false, false_or, not_true_eq_false, not_false_eq_true, Int32.lt_iff_toInt_lt, Int64.lt_iff_toInt_lt, ← Int32.toInt_inj, ← Int64.toInt_inj, Int32.reduceToInt, Int64.reduceToInt] at *
  omega
set_option maxRecDepth 65536 in
set_option maxHeartbeats 40000000 in
theorem own_pre4 (i0 : Int32) (i1 : Int32) (i2 : Int32) (i3 : Int32) (de : Addr) (kde : ClassId) (lm : Addr) (al2 : Addr) (ce2 : Addr) (ix2 : Addr) (ed2 : Addr) (sl2 : Addr) (fi2 : Addr) (la2 : Addr) (nx2 : Addr) (co2 : Addr) (sc2 : Addr) (kce2 : ClassId) (ked2 : ClassId) (ksl2 : ClassId) (kfi2 : ClassId) (kla2 : ClassId) (knx2 : ClassId) (kco2 : ClassId) (ksc2 : ClassId) (hinv_2 : own_Inv (0 : Int32) (0 : Int32) own_z16 own_z8 own_z8 own_z16) (hC_2 : own_z16.length = 16) (c40 : ¬ (i3 &&& (1 : Int32)) = (0 : Int32)) : (0 : Int32).toInt ≤ 2 := by
  obtain ⟨q1, q2, q3, q4, q5, q6, q7, q8, q9, q10, q11⟩ := hinv_2
  clear q11
  clear q8 q9 q10
  have ca_0 := c_mask i3 (1 : Int32) 1 (by decide) (by decide)
  have bl_0 := (i3).le_toInt; have bu_0 := (i3).toInt_lt
  try simp only [List.length_map, List.length_set, List.length_append, List.length_take, List.length_drop, List.length_cons, List.length_nil, Int32.toNatClampNeg, own_eqite, own_iteeq] at *
  try simp only [ne_eq, and_true, true_and, or_true, true_or, and_false, false_and, or_false, false_or, not_true_eq_false, not_false_eq_true, Int32.lt_iff_toInt_lt, Int64.lt_iff_toInt_lt, ← Int32.toInt_inj, ← Int64.toInt_inj, Int32.reduceToInt, Int64.reduceToInt] at *
  omega
set_option maxRecDepth 65536 in
set_option maxHeartbeats 40000000 in
theorem own_pre5 (i0 : Int32) (i1 : Int32) (i2 : Int32) (i3 : Int32) (de : Addr) (kde : ClassId) (lm : Addr) (al2 : Addr) (ce2 : Addr) (ix2 : Addr) (ed2 : Addr) (sl2 : Addr) (fi2 : Addr) (la2 : Addr) (nx2 : Addr) (co2 : Addr) (sc2 : Addr) (kce2 : ClassId) (ked2 : ClassId) (ksl2 : ClassId) (kfi2 : ClassId) (kla2 : ClassId) (knx2 : ClassId) (kco2 : ClassId) (ksc2 : ClassId) (mS45 : List Int32) (mF45 : List Int32) (mL45 : List Int32) (mN45 : List Int32) (mC45 : List Int32) (mg45 : Int32) (mk45 : Int32) (my45 : Int32) (rr45 : Int32) (hinv_2 : own_Inv (0 : Int32) (0 : Int32) own_z16 own_z8 own_z8 own_z16) (hC_2 : own_z16.length = 16) (hinv_45 : own_Inv my45 mg45 mS45 mF45 mL45 mN45) (hC_45 : mC45.length = 16) (hle_45 : (my45).toInt ≤ ((0 : Int32)).toInt + 1) (c40 : ¬ (i3 &&& (1 : Int32)) = (0 : Int32)) (c54 : (i3 &&& (2 : Int32)) = (0 : Int32)) (c102 : ¬ (0 : Int32) < my45) (c123 : ¬ (i3 &&& (4 : Int32)) = (0 : Int32)) : my45.toInt ≤ 2 := by
  obtain ⟨q1, q2, q3, q4, q5, q6, q7, q8, q9, q10, q11⟩ := hinv_2
  clear q11
  clear q8 q9 q10
  have ca_0 := c_mask i3 (1 : Int32) 1 (by decide) (by decide)
  have bl_0 := (i3).le_toInt; have bu_0 := (i3).toInt_lt
  have bl_1 := (my45).le_toInt; have bu_1 := (my45).toInt_lt
  try simp only [List.length_map, List.length_set, List.length_append, List.length_take, List.length_drop, List.length_cons, List.length_nil, Int32.toNatClampNeg, own_eqite, own_iteeq] at *
  try simp only [ne_eq, and_true, true_and, or_true, true_or, and_false, false_and, or_false, false_or, not_true_eq_false, not_false_eq_true, Int32.lt_iff_toInt_lt, Int64.lt_iff_toInt_lt, ← Int32.toInt_inj, ← Int64.toInt_inj, Int32.reduceToInt, Int64.reduceToInt] at *
  omega
set_option maxRecDepth 65536 in
set_option maxHeartbeats 40000000 in
theorem own_pre6 (i0 : Int32) (i1 : Int32) (i2 : Int32) (i3 : Int32) (de : Addr) (kde : ClassId) (lm : Addr) (al2 : Addr) (ce2 : Addr) (ix2 : Addr) (ed2 : Addr) (sl2 : Addr) (fi2 : Addr) (la2 : Addr) (nx2 : Addr) (co2 : Addr) (sc2 : Addr) (kce2 : ClassId) (ked2 : ClassId) (ksl2 : ClassId) (kfi2 : ClassId) (kla2 : ClassId) (knx2 : ClassId) (kco2 : ClassId) (ksc2 : ClassId) (mS45 : List Int32) (mF45 : List Int32) (mL45 : List Int32) (mN45 : List Int32) (mC45 : List Int32) (mg45 : Int32) (mk45 : Int32) (my45 : Int32) (rr45 : Int32) (hinv_2 : own_Inv (0 : Int32) (0 : Int32) own_z16 own_z8 own_z8 own_z16) (hC_2 : own_z16.length = 16) (hinv_45 : own_Inv my45 mg45 mS45 mF45 mL45 mN45) (hC_45 : mC45.length = 16) (hle_45 : (my45).toInt ≤ ((0 : Int32)).toInt + 1) (c40 : ¬ (i3 &&& (1 : Int32)) = (0 : Int32)) (c54 : (i3 &&& (2 : Int32)) = (0 : Int32)) (c102 : (0 : Int32) < my45) (c123 : ¬ (i3 &&& (4 : Int32)) = (0 : Int32)) : my45.toInt ≤ 2 := by
  obtain ⟨q1, q2, q3, q4, q5, q6, q7, q8, q9, q10, q11⟩ := hinv_2
  clear q11
  clear q8 q9 q10
  have ca_0 := c_mask i3 (1 : Int32) 1 (by decide) (by decide)
  have bl_0 := (i3).le_toInt; have bu_0 := (i3).toInt_lt
  have bl_1 := (my45).le_toInt; have bu_1 := (my45).toInt_lt
  try simp only [List.length_map, List.length_set, List.length_append, List.length_take, List.length_drop, List.length_cons, List.length_nil, Int32.toNatClampNeg, own_eqite, own_iteeq] at *
  try simp only [ne_eq, and_true, true_and, or_true, true_or, and_false, false_and, or_false, false_or, not_true_eq_false, not_false_eq_true, Int32.lt_iff_toInt_lt, Int64.lt_iff_toInt_lt, ← Int32.toInt_inj, ← Int64.toInt_inj, Int32.reduceToInt, Int64.reduceToInt] at *
  omega
set_option maxRecDepth 65536 in
set_option maxHeartbeats 40000000 in
theorem own_pre7 (i0 : Int32) (i1 : Int32) (i2 : Int32) (i3 : Int32) (de : Addr) (kde : ClassId) (lm : Addr) (al2 : Addr) (ce2 : Addr) (ix2 : Addr) (ed2 : Addr) (sl2 : Addr) (fi2 : Addr) (la2 : Addr) (nx2 : Addr) (co2 : Addr) (sc2 : Addr) (kce2 : ClassId) (ked2 : ClassId) (ksl2 : ClassId) (kfi2 : ClassId) (kla2 : ClassId) (knx2 : ClassId) (kco2 : ClassId) (ksc2 : ClassId) (mS45 : List Int32) (mF45 : List Int32) (mL45 : List Int32) (mN45 : List Int32) (mC45 : List Int32) (mg45 : Int32) (mk45 : Int32) (my45 : Int32) (rr45 : Int32) (hinv_2 : own_Inv (0 : Int32) (0 : Int32) own_z16 own_z8 own_z8 own_z16) (hC_2 : own_z16.length = 16) (hinv_45 : own_Inv my45 mg45 mS45 mF45 mL45 mN45) (hC_45 : mC45.length = 16) (hle_45 : (my45).toInt ≤ ((0 : Int32)).toInt + 1) (c40 : ¬ (i3 &&& (1 : Int32)) = (0 : Int32)) (c54 : ¬ (i3 &&& (2 : Int32)) = (0 : Int32)) : my45.toInt ≤ 2 := by
  obtain ⟨q1, q2, q3, q4, q5, q6, q7, q8, q9, q10, q11⟩ := hinv_2
  clear q11
  clear q8 q9 q10
  have ca_0 := c_mask i3 (1 : Int32) 1 (by decide) (by decide)
  have bl_0 := (i3).le_toInt; have bu_0 := (i3).toInt_lt
  have bl_1 := (my45).le_toInt; have bu_1 := (my45).toInt_lt
  try simp only [List.length_map, List.length_set, List.length_append, List.length_take, List.length_drop, List.length_cons, List.length_nil, Int32.toNatClampNeg, own_eqite, own_iteeq] at *
  try simp only [ne_eq, and_true, true_and, or_true, true_or, and_false, false_and, or_false, false_or, not_true_eq_false, not_false_eq_true, Int32.lt_iff_toInt_lt, Int64.lt_iff_toInt_lt, ← Int32.toInt_inj, ← Int64.toInt_inj, Int32.reduceToInt, Int64.reduceToInt] at *
  omega
set_option maxRecDepth 65536 in
set_option maxHeartbeats 40000000 in
theorem own_pre8 (i0 : Int32) (i1 : Int32) (i2 : Int32) (i3 : Int32) (de : Addr) (kde : ClassId) (lm : Addr) (al2 : Addr) (ce2 : Addr) (ix2 : Addr) (ed2 : Addr) (sl2 : Addr) (fi2 : Addr) (la2 : Addr) (nx2 : Addr) (co2 : Addr) (sc2 : Addr) (kce2 : ClassId) (ked2 : ClassId) (ksl2 : ClassId) (kfi2 : ClassId) (kla2 : ClassId) (knx2 : ClassId) (kco2 : ClassId) (ksc2 : ClassId) (mS45 : List Int32) (mF45 : List Int32) (mL45 : List Int32) (mN45 : List Int32) (mC45 : List Int32) (mg45 : Int32) (mk45 : Int32) (my45 : Int32) (rr45 : Int32) (mS68 : List Int32) (mF68 : List Int32) (mL68 : List Int32) (mN68 : List Int32) (mC68 : List Int32) (mg68 : Int32) (mk68 : Int32) (my68 : Int32) (rr68 : Int32) (hinv_2 : own_Inv (0 : Int32) (0 : Int32) own_z16 own_z8 own_z8 own_z16) (hC_2 : own_z16.length = 16) (hinv_45 : own_Inv my45 mg45 mS45 mF45 mL45 mN45) (hC_45 : mC45.length = 16) (hle_45 : (my45).toInt ≤ ((0 : Int32)).toInt + 1) (hinv_68 : own_Inv my68 mg68 mS68 mF68 mL68 mN68) (hC_68 : mC68.length = 16) (hle_68 : (my68).toInt ≤ (my45).toInt + 1) (c40 : ¬ (i3 &&& (1 : Int32)) = (0 : Int32)) (c54 : ¬ (i3 &&& (2 : Int32)) = (0 : Int32)) (c102 : ¬ (0 : Int32) < my68) (c123 : ¬ (i3 &&& (4 : Int32)) = (0 : Int32)) : my68.toInt ≤ 2 := by
  obtain ⟨q1, q2, q3, q4, q5, q6, q7, q8, q9, q10, q11⟩ := hinv_2
  clear q11
  clear q8 q9 q10
  have ca_0 := c_mask i3 (1 : Int32) 1 (by decide) (by decide)
  have bl_0 := (i3).le_toInt; have bu_0 := (i3).toInt_lt
  have bl_1 := (my45).le_toInt; have bu_1 := (my45).toInt_lt
  have bl_2 := (my68).le_toInt; have bu_2 := (my68).toInt_lt
  try simp only [List.length_map, List.length_set, List.length_append, List.length_take, List.length_drop, List.length_cons, List.length_nil, Int32.toNatClampNeg, own_eqite, own_iteeq] at *
  try simp only [ne_eq, and_true, true_and, or_true, true_or, and_false, false_and, or_false, false_or, not_true_eq_false, not_false_eq_true, Int32.lt_iff_toInt_lt, Int64.lt_iff_toInt_lt, ← Int32.toInt_inj, ← Int64.toInt_inj, Int32.reduceToInt, Int64.reduceToInt] at *
  omega
set_option maxRecDepth 65536 in
set_option maxHeartbeats 40000000 in
theorem own_pre9 (i0 : Int32) (i1 : Int32) (i2 : Int32) (i3 : Int32) (de : Addr) (kde : ClassId) (lm : Addr) (al2 : Addr) (ce2 : Addr) (ix2 : Addr) (ed2 : Addr) (sl2 : Addr) (fi2 : Addr) (la2 : Addr) (nx2 : Addr) (co2 : Addr) (sc2 : Addr) (kce2 : ClassId) (ked2 : ClassId) (ksl2 : ClassId) (kfi2 : ClassId) (kla2 : ClassId) (knx2 : ClassId) (kco2 : ClassId) (ksc2 : ClassId) (mS45 : List Int32) (mF45 : List Int32) (mL45 : List Int32) (mN45 : List Int32) (mC45 : List Int32) (mg45 : Int32) (mk45 : Int32) (my45 : Int32) (rr45 : Int32) (mS68 : List Int32) (mF68 : List Int32) (mL68 : List Int32) (mN68 : List Int32) (mC68 : List Int32) (mg68 : Int32) (mk68 : Int32) (my68 : Int32) (rr68 : Int32) (hinv_2 : own_Inv (0 : Int32) (0 : Int32) own_z16 own_z8 own_z8 own_z16) (hC_2 : own_z16.length = 16) (hinv_45 : own_Inv my45 mg45 mS45 mF45 mL45 mN45) (hC_45 : mC45.length = 16) (hle_45 : (my45).toInt ≤ ((0 : Int32)).toInt + 1) (hinv_68 : own_Inv my68 mg68 mS68 mF68 mL68 mN68) (hC_68 : mC68.length = 16) (hle_68 : (my68).toInt ≤ (my45).toInt + 1) (c40 : ¬ (i3 &&& (1 : Int32)) = (0 : Int32)) (c54 : ¬ (i3 &&& (2 : Int32)) = (0 : Int32)) (c102 : (0 : Int32) < my68) (c123 : ¬ (i3 &&& (4 : Int32)) = (0 : Int32)) : my68.toInt ≤ 2 := by
  obtain ⟨q1, q2, q3, q4, q5, q6, q7, q8, q9, q10, q11⟩ := hinv_2
  clear q11
  clear q8 q9 q10
  have ca_0 := c_mask i3 (1 : Int32) 1 (by decide) (by decide)
  have bl_0 := (i3).le_toInt; have bu_0 := (i3).toInt_lt
  have bl_1 := (my45).le_toInt; have bu_1 := (my45).toInt_lt
  have bl_2 := (my68).le_toInt; have bu_2 := (my68).toInt_lt
  try simp only [List.length_map, List.length_set, List.length_append, List.length_take, List.length_drop, List.length_cons, List.length_nil, Int32.toNatClampNeg, own_eqite, own_iteeq] at *
  try simp only [ne_eq, and_true, true_and, or_true, true_or, and_false, false_and, or_false, false_or, not_true_eq_false, not_false_eq_true, Int32.lt_iff_toInt_lt, Int64.lt_iff_toInt_lt, ← Int32.toInt_inj, ← Int64.toInt_inj, Int32.reduceToInt, Int64.reduceToInt] at *
  omega
theorem pn0 : plainName "com/example/nestor/nestor/engine/RelationAdvancePinLaw" = true := by first | (simp [plainName, overriddenIn]; done) | decide +kernel
theorem ef0 (m : MethodId) (i0 : Int32) (i1 : Int32) (i2 : Int32) (i3 : Int32) : entryFrame m #[(.int i0), (.int i1), (.int i2), (.int i3)] maxLocals = mkF m 0 #[.val (.int i0), .val (.int i1), .val (.int i2), .val (.int i3), .unset, .unset, .unset, .unset, .unset, .unset, .unset, .unset, .unset, .unset] [] := by first | (simp [entryFrame, mkF, argsToLocals, Value.category, maxLocals]; done) | rfl
set_option maxRecDepth 65536 in
set_option maxHeartbeats 40000000 in
theorem rm0 (l : Launch) (Z : State) (a0 : Array Value) (hw : ∀ d ∈ tables_1, d.before a0 Z = true) (i0 : Int32) (i1 : Int32) (i2 : Int32) (i3 : Int32) (de : Addr) (kde : ClassId) (lm : Addr) (h0 : Heap) (n0 : Nat) (Z0 : n0 ≤ h0.size) (S_DEFAULTCAPACITY_EMPTY_ELEMENTDATA : Sta Z h0 "java/util/ArrayList" "DEFAULTCAPACITY_EMPTY_ELEMENTDATA" "[Ljava/lang/Object;" (.ref de)) (V_de : Arv Z h0 de kde (.object "java/lang/Object") (0 : Int32) [] .null) (hde : de < n0) (L_lm : Lam.LamS Z h0 lm) (hlm : lm < n0) (hsite : Lam.Site Z (⟨"com/example/nestor/nestor/engine/Relation", "byEveryColumn", "()Lcom/example/nestor/nestor/engine/Index;"⟩ : MethodName) 8 lm) :
    Ctr l Z x code maxLocals ret room_1 #[(.int i0), (.int i1), (.int i2), (.int i3)] h0 n0 (fun v _ => v = some (.int (1 : Int32))) := by
  refine Ctr.body (L := #[.val (.int i0), .val (.int i1), .val (.int i2), .val (.int i3), .unset, .unset, .unset, .unset, .unset, .unset, .unset, .unset, .unset, .unset]) (plainFor_of_name pn0) Z0 (fun m => ef0 m i0 i1 i2 i3) ?_
  intro p e F m below meth c T0 C0
  refine C0.new (hw _ (List.mem_of_getElem? (i := 0) rfl)) (hw _ (List.mem_of_getElem? (i := 1) rfl)) (hw _ (List.mem_of_getElem? (i := 2) rfl)) at_0 rfl (by decide) (by decide) (fun T1 h1 b1 C1 e1 g_b1 E1 E_b1 D1 => ?_)
  have ne_de_b1 : de ≠ b1 := Nat.ne_of_lt (Nat.lt_of_lt_of_eq V_de.lt e1.symm)
  have ne_lm_b1 : lm ≠ b1 := Nat.ne_of_lt (Nat.lt_of_lt_of_eq L_lm.lt e1.symm)
  have S_DEFAULTCAPACITY_EMPTY_ELEMENTDATA := S_DEFAULTCAPACITY_EMPTY_ELEMENTDATA.ext E1
  have V_de := V_de.ext E1
  have L_lm := L_lm.ext E1
  have F_b1_indexes : Fld Z h1 b1 "com/example/nestor/nestor/engine/Relation" "indexes" "Ljava/util/List;" .null := D1 (Or.inr (hw _ (List.mem_of_getElem? (i := 34) rfl))) (ty := (.object "java/util/List")) (by decide)
  have F_b1_arity : Fld Z h1 b1 "com/example/nestor/nestor/engine/Relation" "arity" "I" (.int (0 : Int32)) := D1 (Or.inr (hw _ (List.mem_of_getElem? (i := 36) rfl))) (ty := .int) (by decide)
  have F_b1_cells : Fld Z h1 b1 "com/example/nestor/nestor/engine/Relation" "cells" "[I" .null := D1 (Or.inl (hw _ (List.mem_of_getElem? (i := 39) rfl))) (ty := (.array .int)) (by decide)
  have F_b1_size : Fld Z h1 b1 "com/example/nestor/nestor/engine/Relation" "size" "I" (.int (0 : Int32)) := D1 (Or.inl (hw _ (List.mem_of_getElem? (i := 96) rfl))) (ty := .int) (by decide)
  have F_b1_unique : Fld Z h1 b1 "com/example/nestor/nestor/engine/Relation" "unique" "Lcom/example/nestor/nestor/engine/Index;" .null := D1 (Or.inl (hw _ (List.mem_of_getElem? (i := 98) rfl))) (ty := (.object "com/example/nestor/nestor/engine/Index")) (by decide)
  have F_b1_source : Fld Z h1 b1 "com/example/nestor/nestor/engine/Relation" "source" "Lcom/example/nestor/nestor/engine/Relation;" .null := D1 (Or.inl (hw _ (List.mem_of_getElem? (i := 163) rfl))) (ty := (.object "com/example/nestor/nestor/engine/Relation")) (by decide)
  have F_b1_deltaEnd : Fld Z h1 b1 "com/example/nestor/nestor/engine/Relation" "deltaEnd" "I" (.int (0 : Int32)) := D1 (Or.inl (hw _ (List.mem_of_getElem? (i := 241) rfl))) (ty := .int) (by decide)
  have F_b1_deltaStart : Fld Z h1 b1 "com/example/nestor/nestor/engine/Relation" "deltaStart" "I" (.int (0 : Int32)) := D1 (Or.inl (hw _ (List.mem_of_getElem? (i := 243) rfl))) (ty := .int) (by decide)
  refine C1.dup at_3 rfl rfl ?_
  refine C1.iconst (1 : Int32) at_4 rfl rfl ?_
  refine C1.callN rfl (hw _ (List.mem_of_getElem? (i := 3) rfl)) (hw _ (List.mem_of_getElem? (i := 4) rfl)) (hw _ (List.mem_of_getElem? (i := 2) rfl)) (hw _ (List.mem_of_getElem? (i := 5) rfl)) (by decide) (a := b1) (rm1 l Z a0 hw b1 (1 : Int32) de lm kde .null (.int (0 : Int32)) .null .null h1 n0 C1.size E_b1 F_b1_indexes F_b1_arity F_b1_cells F_b1_unique F_b1_size F_b1_source F_b1_deltaStart F_b1_deltaEnd g_b1 rfl S_DEFAULTCAPACITY_EMPTY_ELEMENTDATA V_de hde L_lm hlm hsite) (argsL := [(.int (1 : Int32))]) pd1 rfl 1 (by decide) (by decide) (by decide) (by decide) (rest := [(.ref b1)]) rfl rfl (Nat.le_of_eq rfl) at_5 rfl (fun v2 T2 h2 C2 qq2 => ?_)
  obtain ⟨al2, ce2, ix2, ed2, sl2, fi2, la2, nx2, co2, sc2, kce2, ked2, ksl2, kfi2, kla2, knx2, kco2, ksc2, rfl, K2, p2_0, p2_1, p2_2, p2_3, p2_4, p2_5, p2_6, p2_7, p2_8, p2_9, p2_10, p2_11, p2_12, p2_13, p2_14, p2_15, p2_16, p2_17, p2_18, p2_19, p2_20, p2_21, p2_22, p2_23, p2_24, p2_25, p2_26, p2_27, p2_28, p2_29, p2_30, p2_31, p2_32, p2_33, p2_34, p2_35, p2_36, p2_37, p2_38, p2_39, p2_40, p2_41, p2_42, p2_43, p2_44, p2_45, p2_46, p2_47, p2_48, p2_49, p2_50, p2_51, p2_52, p2_53, p2_54, p2_55, p2_56, p2_57, p2_58, p2_59, p2_60, p2_61, p2_62, p2_63, p2_64, p2_65, p2_66, p2_67, p2_68, p2_69, p2_70, p2_71⟩ := qq2
  have ne_de_sl2 : de ≠ sl2 := Nat.ne_of_lt (Nat.lt_of_lt_of_le V_de.lt p2_32)
  have ne_lm_sl2 : lm ≠ sl2 := Nat.ne_of_lt (Nat.lt_of_lt_of_le L_lm.lt p2_32)
  have ne_b1_sl2 : b1 ≠ sl2 := Nat.ne_of_lt (Nat.lt_of_lt_of_le E_b1.lt p2_32)
  have g_sl2 : n0 ≤ sl2 := Nat.le_trans C1.size p2_32
  have ne_de_fi2 : de ≠ fi2 := Nat.ne_of_lt (Nat.lt_of_lt_of_le V_de.lt p2_33)
  have ne_lm_fi2 : lm ≠ fi2 := Nat.ne_of_lt (Nat.lt_of_lt_of_le L_lm.lt p2_33)
  have ne_b1_fi2 : b1 ≠ fi2 := Nat.ne_of_lt (Nat.lt_of_lt_of_le E_b1.lt p2_33)
  have g_fi2 : n0 ≤ fi2 := Nat.le_trans C1.size p2_33
  have ne_de_la2 : de ≠ la2 := Nat.ne_of_lt (Nat.lt_of_lt_of_le V_de.lt p2_34)
  have ne_lm_la2 : lm ≠ la2 := Nat.ne_of_lt (Nat.lt_of_lt_of_le L_lm.lt p2_34)
  have ne_b1_la2 : b1 ≠ la2 := Nat.ne_of_lt (Nat.lt_of_lt_of_le E_b1.lt p2_34)
  have g_la2 : n0 ≤ la2 := Nat.le_trans C1.size p2_34
  have ne_de_nx2 : de ≠ nx2 := Nat.ne_of_lt (Nat.lt_of_lt_of_le V_de.lt p2_35)
  have ne_lm_nx2 : lm ≠ nx2 := Nat.ne_of_lt (Nat.lt_of_lt_of_le L_lm.lt p2_35)
  have ne_b1_nx2 : b1 ≠ nx2 := Nat.ne_of_lt (Nat.lt_of_lt_of_le E_b1.lt p2_35)
  have g_nx2 : n0 ≤ nx2 := Nat.le_trans C1.size p2_35
  have ne_de_co2 : de ≠ co2 := Nat.ne_of_lt (Nat.lt_of_lt_of_le V_de.lt p2_36)
  have ne_lm_co2 : lm ≠ co2 := Nat.ne_of_lt (Nat.lt_of_lt_of_le L_lm.lt p2_36)
  have ne_b1_co2 : b1 ≠ co2 := Nat.ne_of_lt (Nat.lt_of_lt_of_le E_b1.lt p2_36)
  have g_co2 : n0 ≤ co2 := Nat.le_trans C1.size p2_36
  have ne_de_sc2 : de ≠ sc2 := Nat.ne_of_lt (Nat.lt_of_lt_of_le V_de.lt p2_37)
  have ne_lm_sc2 : lm ≠ sc2 := Nat.ne_of_lt (Nat.lt_of_lt_of_le L_lm.lt p2_37)
  have ne_b1_sc2 : b1 ≠ sc2 := Nat.ne_of_lt (Nat.lt_of_lt_of_le E_b1.lt p2_37)
  have g_sc2 : n0 ≤ sc2 := Nat.le_trans C1.size p2_37
  have ne_de_ce2 : de ≠ ce2 := Nat.ne_of_lt (Nat.lt_of_lt_of_le V_de.lt p2_38)
  have ne_lm_ce2 : lm ≠ ce2 := Nat.ne_of_lt (Nat.lt_of_lt_of_le L_lm.lt p2_38)
  have ne_b1_ce2 : b1 ≠ ce2 := Nat.ne_of_lt (Nat.lt_of_lt_of_le E_b1.lt p2_38)
  have g_ce2 : n0 ≤ ce2 := Nat.le_trans C1.size p2_38
  have ne_de_ed2 : de ≠ ed2 := Nat.ne_of_lt (Nat.lt_of_lt_of_le V_de.lt p2_39)
  have ne_lm_ed2 : lm ≠ ed2 := Nat.ne_of_lt (Nat.lt_of_lt_of_le L_lm.lt p2_39)
  have ne_b1_ed2 : b1 ≠ ed2 := Nat.ne_of_lt (Nat.lt_of_lt_of_le E_b1.lt p2_39)
  have g_ed2 : n0 ≤ ed2 := Nat.le_trans C1.size p2_39
  have ne_de_ix2 : de ≠ ix2 := Nat.ne_of_lt (Nat.lt_of_lt_of_le V_de.lt p2_40)
  have ne_lm_ix2 : lm ≠ ix2 := Nat.ne_of_lt (Nat.lt_of_lt_of_le L_lm.lt p2_40)
  have ne_b1_ix2 : b1 ≠ ix2 := Nat.ne_of_lt (Nat.lt_of_lt_of_le E_b1.lt p2_40)
  have g_ix2 : n0 ≤ ix2 := Nat.le_trans C1.size p2_40
  have ne_de_al2 : de ≠ al2 := Nat.ne_of_lt (Nat.lt_of_lt_of_le V_de.lt p2_41)
  have ne_lm_al2 : lm ≠ al2 := Nat.ne_of_lt (Nat.lt_of_lt_of_le L_lm.lt p2_41)
  have ne_b1_al2 : b1 ≠ al2 := Nat.ne_of_lt (Nat.lt_of_lt_of_le E_b1.lt p2_41)
  have g_al2 : n0 ≤ al2 := Nat.le_trans C1.size p2_41
  have S_DEFAULTCAPACITY_EMPTY_ELEMENTDATA := own_stak S_DEFAULTCAPACITY_EMPTY_ELEMENTDATA K2 (allS (own_plainE E_b1) (all0))
  have V_de := V_de.keep K2 (ninS ne_de_b1 nin0)
  have L_lm := L_lm.keep K2 (ninS ne_lm_b1 nin0)
  have E_b1 := E_b1.keep K2
  have E_b1 := p2_0
  have F_b1_indexes := p2_1
  have F_b1_arity := p2_2
  have F_b1_cells := p2_3
  have F_b1_unique := p2_4
  have F_b1_size := p2_5
  have F_b1_source := p2_6
  have F_b1_deltaStart := p2_7
  have F_b1_deltaEnd := p2_8
  have E_ix2 := p2_9
  have F_ix2_slots := p2_10
  have F_ix2_firsts := p2_11
  have F_ix2_lasts := p2_12
  have F_ix2_nexts := p2_13
  have F_ix2_relation := p2_14
  have F_ix2_columns := p2_15
  have F_ix2_scratch := p2_16
  have F_ix2_groups := p2_17
  have E_al2 := p2_18
  have F_al2_modCount := p2_19
  have F_al2_elementData := p2_20
  have F_al2_size := p2_21
  have V_sl2 := p2_22
  have V_fi2 := p2_23
  have V_la2 := p2_24
  have V_nx2 := p2_25
  have V_co2 := p2_26
  have V_sc2 := p2_27
  have V_ce2 := p2_28
  have E_ed2 := p2_29
  have V_ed2 := p2_30
  have O_ked2 := p2_31
  have ne_sl2_fi2 := p2_42
  have ne_sl2_la2 := p2_43
  have ne_sl2_nx2 := p2_44
  have ne_sl2_co2 := p2_45
  have ne_sl2_sc2 := p2_46
  have ne_sl2_ce2 := p2_47
  have ne_sl2_ed2 := p2_48
  have ne_fi2_la2 := p2_49
  have ne_fi2_nx2 := p2_50
  have ne_fi2_co2 := p2_51
  have ne_fi2_sc2 := p2_52
  have ne_fi2_ce2 := p2_53
  have ne_fi2_ed2 := p2_54
  have ne_la2_nx2 := p2_55
  have ne_la2_co2 := p2_56
  have ne_la2_sc2 := p2_57
  have ne_la2_ce2 := p2_58
  have ne_la2_ed2 := p2_59
  have ne_nx2_co2 := p2_60
  have ne_nx2_sc2 := p2_61
  have ne_nx2_ce2 := p2_62
  have ne_nx2_ed2 := p2_63
  have ne_co2_sc2 := p2_64
  have ne_co2_ce2 := p2_65
  have ne_co2_ed2 := p2_66
  have ne_sc2_ce2 := p2_67
  have ne_sc2_ed2 := p2_68
  have ne_ce2_ed2 := p2_69
  have hinv_2 := p2_70
  have hC_2 := p2_71
  show Go p e below F n0 (fun v _ => v = some (.int (1 : Int32))) T2 (mkF m 8 #[.val (.int i0), .val (.int i1), .val (.int i2), .val (.int i3), .unset, .unset, .unset, .unset, .unset, .unset, .unset, .unset, .unset, .unset] [(.ref b1)])
  refine C2.astore at_8 rfl rfl (L' := #[.val (.int i0), .val (.int i1), .val (.int i2), .val (.int i3), .val (.ref b1), .unset, .unset, .unset, .unset, .unset, .unset, .unset, .unset, .unset]) rfl ?_
  refine C2.iconst (1 : Int32) at_10 rfl rfl ?_
  refine C2.newarr (hw _ (List.mem_of_getElem? (i := 37) rfl)) 1 (by decide) (by decide) (by decide) (by decide) (by decide) at_11 rfl (fun T3 h3 b3 k3 C3 e3 g_b3 E3 V_b3 => ?_)
  have ne_b1_b3 : b1 ≠ b3 := Nat.ne_of_lt (Nat.lt_of_lt_of_eq E_b1.lt e3.symm)
  have ne_ix2_b3 : ix2 ≠ b3 := Nat.ne_of_lt (Nat.lt_of_lt_of_eq E_ix2.lt e3.symm)
  have ne_al2_b3 : al2 ≠ b3 := Nat.ne_of_lt (Nat.lt_of_lt_of_eq E_al2.lt e3.symm)
  have ne_sl2_b3 : sl2 ≠ b3 := Nat.ne_of_lt (Nat.lt_of_lt_of_eq V_sl2.lt e3.symm)
  have ne_fi2_b3 : fi2 ≠ b3 := Nat.ne_of_lt (Nat.lt_of_lt_of_eq V_fi2.lt e3.symm)
  have ne_la2_b3 : la2 ≠ b3 := Nat.ne_of_lt (Nat.lt_of_lt_of_eq V_la2.lt e3.symm)
  have ne_nx2_b3 : nx2 ≠ b3 := Nat.ne_of_lt (Nat.lt_of_lt_of_eq V_nx2.lt e3.symm)
  have ne_co2_b3 : co2 ≠ b3 := Nat.ne_of_lt (Nat.lt_of_lt_of_eq V_co2.lt e3.symm)
  have ne_sc2_b3 : sc2 ≠ b3 := Nat.ne_of_lt (Nat.lt_of_lt_of_eq V_sc2.lt e3.symm)
  have ne_ce2_b3 : ce2 ≠ b3 := Nat.ne_of_lt (Nat.lt_of_lt_of_eq V_ce2.lt e3.symm)
  have ne_ed2_b3 : ed2 ≠ b3 := Nat.ne_of_lt (Nat.lt_of_lt_of_eq E_ed2.lt e3.symm)
  have E_b1 := E_b1.ext E3
  have F_b1_indexes := F_b1_indexes.ext E3
  have F_b1_arity := F_b1_arity.ext E3
  have F_b1_cells := F_b1_cells.ext E3
  have F_b1_unique := F_b1_unique.ext E3
  have F_b1_size := F_b1_size.ext E3
  have F_b1_source := F_b1_source.ext E3
  have F_b1_deltaStart := F_b1_deltaStart.ext E3
  have F_b1_deltaEnd := F_b1_deltaEnd.ext E3
  have E_ix2 := E_ix2.ext E3
  have F_ix2_slots := F_ix2_slots.ext E3
  have F_ix2_firsts := F_ix2_firsts.ext E3
  have F_ix2_lasts := F_ix2_lasts.ext E3
  have F_ix2_nexts := F_ix2_nexts.ext E3
  have F_ix2_relation := F_ix2_relation.ext E3
  have F_ix2_columns := F_ix2_columns.ext E3
  have F_ix2_scratch := F_ix2_scratch.ext E3
  have F_ix2_groups := F_ix2_groups.ext E3
  have E_al2 := E_al2.ext E3
  have F_al2_modCount := F_al2_modCount.ext E3
  have F_al2_elementData := F_al2_elementData.ext E3
  have F_al2_size := F_al2_size.ext E3
  have V_sl2 := V_sl2.ext E3
  have V_fi2 := V_fi2.ext E3
  have V_la2 := V_la2.ext E3
  have V_nx2 := V_nx2.ext E3
  have V_co2 := V_co2.ext E3
  have V_sc2 := V_sc2.ext E3
  have V_ce2 := V_ce2.ext E3
  have E_ed2 := E_ed2.ext E3
  have V_ed2 := V_ed2.ext E3
  have V_b3 : Arv Z h3 b3 k3 .int (1 : Int32) [(.int (0 : Int32))] (.int (0 : Int32)) := V_b3
  refine C3.dup at_13 rfl rfl ?_
  refine C3.iconst (0 : Int32) at_14 rfl rfl ?_
  refine C3.iloadN at_15 rfl rfl ?_
  refine C3.iastore V_b3 ⟨by decide, by decide⟩ (Nat.le_of_ble_eq_true rfl) g_b3 at_16 rfl (fun T4 h4 C4 W4 Vn4 => ?_)
  have E_b1 := E_b1.wr W4
  have F_b1_indexes := F_b1_indexes.other W4 (Or.inl ne_b1_b3)
  have F_b1_arity := F_b1_arity.other W4 (Or.inl ne_b1_b3)
  have F_b1_cells := F_b1_cells.other W4 (Or.inl ne_b1_b3)
  have F_b1_unique := F_b1_unique.other W4 (Or.inl ne_b1_b3)
  have F_b1_size := F_b1_size.other W4 (Or.inl ne_b1_b3)
  have F_b1_source := F_b1_source.other W4 (Or.inl ne_b1_b3)
  have F_b1_deltaStart := F_b1_deltaStart.other W4 (Or.inl ne_b1_b3)
  have F_b1_deltaEnd := F_b1_deltaEnd.other W4 (Or.inl ne_b1_b3)
  have E_ix2 := E_ix2.wr W4
  have F_ix2_slots := F_ix2_slots.other W4 (Or.inl ne_ix2_b3)
  have F_ix2_firsts := F_ix2_firsts.other W4 (Or.inl ne_ix2_b3)
  have F_ix2_lasts := F_ix2_lasts.other W4 (Or.inl ne_ix2_b3)
  have F_ix2_nexts := F_ix2_nexts.other W4 (Or.inl ne_ix2_b3)
  have F_ix2_relation := F_ix2_relation.other W4 (Or.inl ne_ix2_b3)
  have F_ix2_columns := F_ix2_columns.other W4 (Or.inl ne_ix2_b3)
  have F_ix2_scratch := F_ix2_scratch.other W4 (Or.inl ne_ix2_b3)
  have F_ix2_groups := F_ix2_groups.other W4 (Or.inl ne_ix2_b3)
  have E_al2 := E_al2.wr W4
  have F_al2_modCount := F_al2_modCount.other W4 (Or.inl ne_al2_b3)
  have F_al2_elementData := F_al2_elementData.other W4 (Or.inl ne_al2_b3)
  have F_al2_size := F_al2_size.other W4 (Or.inl ne_al2_b3)
  have V_sl2 := V_sl2.other W4 ne_sl2_b3
  have V_fi2 := V_fi2.other W4 ne_fi2_b3
  have V_la2 := V_la2.other W4 ne_la2_b3
  have V_nx2 := V_nx2.other W4 ne_nx2_b3
  have V_co2 := V_co2.other W4 ne_co2_b3
  have V_sc2 := V_sc2.other W4 ne_sc2_b3
  have V_ce2 := V_ce2.other W4 ne_ce2_b3
  have E_ed2 := E_ed2.wr W4
  have V_ed2 := V_ed2.other W4 ne_ed2_b3
  have V_b3 : Arv Z h4 b3 k3 .int (1 : Int32) [(.int i0)] (.int (0 : Int32)) := Vn4
  refine C4.astore at_17 rfl rfl (L' := #[.val (.int i0), .val (.int i1), .val (.int i2), .val (.int i3), .val (.ref b1), .val (.ref b3), .unset, .unset, .unset, .unset, .unset, .unset, .unset, .unset]) rfl ?_
  refine C4.iconst (1 : Int32) at_19 rfl rfl ?_
  refine C4.newarr (hw _ (List.mem_of_getElem? (i := 37) rfl)) 1 (by decide) (by decide) (by decide) (by decide) (by decide) at_20 rfl (fun T5 h5 b5 k5 C5 e5 g_b5 E5 V_b5 => ?_)
  have ne_b1_b5 : b1 ≠ b5 := Nat.ne_of_lt (Nat.lt_of_lt_of_eq E_b1.lt e5.symm)
  have ne_ix2_b5 : ix2 ≠ b5 := Nat.ne_of_lt (Nat.lt_of_lt_of_eq E_ix2.lt e5.symm)
  have ne_al2_b5 : al2 ≠ b5 := Nat.ne_of_lt (Nat.lt_of_lt_of_eq E_al2.lt e5.symm)
  have ne_sl2_b5 : sl2 ≠ b5 := Nat.ne_of_lt (Nat.lt_of_lt_of_eq V_sl2.lt e5.symm)
  have ne_fi2_b5 : fi2 ≠ b5 := Nat.ne_of_lt (Nat.lt_of_lt_of_eq V_fi2.lt e5.symm)
  have ne_la2_b5 : la2 ≠ b5 := Nat.ne_of_lt (Nat.lt_of_lt_of_eq V_la2.lt e5.symm)
  have ne_nx2_b5 : nx2 ≠ b5 := Nat.ne_of_lt (Nat.lt_of_lt_of_eq V_nx2.lt e5.symm)
  have ne_co2_b5 : co2 ≠ b5 := Nat.ne_of_lt (Nat.lt_of_lt_of_eq V_co2.lt e5.symm)
  have ne_sc2_b5 : sc2 ≠ b5 := Nat.ne_of_lt (Nat.lt_of_lt_of_eq V_sc2.lt e5.symm)
  have ne_ce2_b5 : ce2 ≠ b5 := Nat.ne_of_lt (Nat.lt_of_lt_of_eq V_ce2.lt e5.symm)
  have ne_ed2_b5 : ed2 ≠ b5 := Nat.ne_of_lt (Nat.lt_of_lt_of_eq E_ed2.lt e5.symm)
  have ne_b3_b5 : b3 ≠ b5 := Nat.ne_of_lt (Nat.lt_of_lt_of_eq V_b3.lt e5.symm)
  have E_b1 := E_b1.ext E5
  have F_b1_indexes := F_b1_indexes.ext E5
  have F_b1_arity := F_b1_arity.ext E5
  have F_b1_cells := F_b1_cells.ext E5
  have F_b1_unique := F_b1_unique.ext E5
  have F_b1_size := F_b1_size.ext E5
  have F_b1_source := F_b1_source.ext E5
  have F_b1_deltaStart := F_b1_deltaStart.ext E5
  have F_b1_deltaEnd := F_b1_deltaEnd.ext E5
  have E_ix2 := E_ix2.ext E5
  have F_ix2_slots := F_ix2_slots.ext E5
  have F_ix2_firsts := F_ix2_firsts.ext E5
  have F_ix2_lasts := F_ix2_lasts.ext E5
  have F_ix2_nexts := F_ix2_nexts.ext E5
  have F_ix2_relation := F_ix2_relation.ext E5
  have F_ix2_columns := F_ix2_columns.ext E5
  have F_ix2_scratch := F_ix2_scratch.ext E5
  have F_ix2_groups := F_ix2_groups.ext E5
  have E_al2 := E_al2.ext E5
  have F_al2_modCount := F_al2_modCount.ext E5
  have F_al2_elementData := F_al2_elementData.ext E5
  have F_al2_size := F_al2_size.ext E5
  have V_sl2 := V_sl2.ext E5
  have V_fi2 := V_fi2.ext E5
  have V_la2 := V_la2.ext E5
  have V_nx2 := V_nx2.ext E5
  have V_co2 := V_co2.ext E5
  have V_sc2 := V_sc2.ext E5
  have V_ce2 := V_ce2.ext E5
  have E_ed2 := E_ed2.ext E5
  have V_ed2 := V_ed2.ext E5
  have V_b3 := V_b3.ext E5
  have V_b5 : Arv Z h5 b5 k5 .int (1 : Int32) [(.int (0 : Int32))] (.int (0 : Int32)) := V_b5
  refine C5.dup at_22 rfl rfl ?_
  refine C5.iconst (0 : Int32) at_23 rfl rfl ?_
  refine C5.iloadN at_24 rfl rfl ?_
  refine C5.iastore V_b5 ⟨by decide, by decide⟩ (Nat.le_of_ble_eq_true rfl) g_b5 at_25 rfl (fun T6 h6 C6 W6 Vn6 => ?_)
  have E_b1 := E_b1.wr W6
  have F_b1_indexes := F_b1_indexes.other W6 (Or.inl ne_b1_b5)
  have F_b1_arity := F_b1_arity.other W6 (Or.inl ne_b1_b5)
  have F_b1_cells := F_b1_cells.other W6 (Or.inl ne_b1_b5)
  have F_b1_unique := F_b1_unique.other W6 (Or.inl ne_b1_b5)
  have F_b1_size := F_b1_size.other W6 (Or.inl ne_b1_b5)
  have F_b1_source := F_b1_source.other W6 (Or.inl ne_b1_b5)
  have F_b1_deltaStart := F_b1_deltaStart.other W6 (Or.inl ne_b1_b5)
  have F_b1_deltaEnd := F_b1_deltaEnd.other W6 (Or.inl ne_b1_b5)
  have E_ix2 := E_ix2.wr W6
  have F_ix2_slots := F_ix2_slots.other W6 (Or.inl ne_ix2_b5)
  have F_ix2_firsts := F_ix2_firsts.other W6 (Or.inl ne_ix2_b5)
  have F_ix2_lasts := F_ix2_lasts.other W6 (Or.inl ne_ix2_b5)
  have F_ix2_nexts := F_ix2_nexts.other W6 (Or.inl ne_ix2_b5)
  have F_ix2_relation := F_ix2_relation.other W6 (Or.inl ne_ix2_b5)
  have F_ix2_columns := F_ix2_columns.other W6 (Or.inl ne_ix2_b5)
  have F_ix2_scratch := F_ix2_scratch.other W6 (Or.inl ne_ix2_b5)
  have F_ix2_groups := F_ix2_groups.other W6 (Or.inl ne_ix2_b5)
  have E_al2 := E_al2.wr W6
  have F_al2_modCount := F_al2_modCount.other W6 (Or.inl ne_al2_b5)
  have F_al2_elementData := F_al2_elementData.other W6 (Or.inl ne_al2_b5)
  have F_al2_size := F_al2_size.other W6 (Or.inl ne_al2_b5)
  have V_sl2 := V_sl2.other W6 ne_sl2_b5
  have V_fi2 := V_fi2.other W6 ne_fi2_b5
  have V_la2 := V_la2.other W6 ne_la2_b5
  have V_nx2 := V_nx2.other W6 ne_nx2_b5
  have V_co2 := V_co2.other W6 ne_co2_b5
  have V_sc2 := V_sc2.other W6 ne_sc2_b5
  have V_ce2 := V_ce2.other W6 ne_ce2_b5
  have E_ed2 := E_ed2.wr W6
  have V_ed2 := V_ed2.other W6 ne_ed2_b5
  have V_b3 := V_b3.other W6 ne_b3_b5
  have V_b5 : Arv Z h6 b5 k5 .int (1 : Int32) [(.int i1)] (.int (0 : Int32)) := Vn6
  refine C6.astore at_26 rfl rfl (L' := #[.val (.int i0), .val (.int i1), .val (.int i2), .val (.int i3), .val (.ref b1), .val (.ref b3), .val (.ref b5), .unset, .unset, .unset, .unset, .unset, .unset, .unset]) rfl ?_
  refine C6.iconst (1 : Int32) at_28 rfl rfl ?_
  refine C6.newarr (hw _ (List.mem_of_getElem? (i := 37) rfl)) 1 (by decide) (by decide) (by decide) (by decide) (by decide) at_29 rfl (fun T7 h7 b7 k7 C7 e7 g_b7 E7 V_b7 => ?_)
  have ne_b1_b7 : b1 ≠ b7 := Nat.ne_of_lt (Nat.lt_of_lt_of_eq E_b1.lt e7.symm)
  have ne_ix2_b7 : ix2 ≠ b7 := Nat.ne_of_lt (Nat.lt_of_lt_of_eq E_ix2.lt e7.symm)
  have ne_al2_b7 : al2 ≠ b7 := Nat.ne_of_lt (Nat.lt_of_lt_of_eq E_al2.lt e7.symm)
  have ne_sl2_b7 : sl2 ≠ b7 := Nat.ne_of_lt (Nat.lt_of_lt_of_eq V_sl2.lt e7.symm)
  have ne_fi2_b7 : fi2 ≠ b7 := Nat.ne_of_lt (Nat.lt_of_lt_of_eq V_fi2.lt e7.symm)
  have ne_la2_b7 : la2 ≠ b7 := Nat.ne_of_lt (Nat.lt_of_lt_of_eq V_la2.lt e7.symm)
  have ne_nx2_b7 : nx2 ≠ b7 := Nat.ne_of_lt (Nat.lt_of_lt_of_eq V_nx2.lt e7.symm)
  have ne_co2_b7 : co2 ≠ b7 := Nat.ne_of_lt (Nat.lt_of_lt_of_eq V_co2.lt e7.symm)
  have ne_sc2_b7 : sc2 ≠ b7 := Nat.ne_of_lt (Nat.lt_of_lt_of_eq V_sc2.lt e7.symm)
  have ne_ce2_b7 : ce2 ≠ b7 := Nat.ne_of_lt (Nat.lt_of_lt_of_eq V_ce2.lt e7.symm)
  have ne_ed2_b7 : ed2 ≠ b7 := Nat.ne_of_lt (Nat.lt_of_lt_of_eq E_ed2.lt e7.symm)
  have ne_b3_b7 : b3 ≠ b7 := Nat.ne_of_lt (Nat.lt_of_lt_of_eq V_b3.lt e7.symm)
  have ne_b5_b7 : b5 ≠ b7 := Nat.ne_of_lt (Nat.lt_of_lt_of_eq V_b5.lt e7.symm)
  have E_b1 := E_b1.ext E7
  have F_b1_indexes := F_b1_indexes.ext E7
  have F_b1_arity := F_b1_arity.ext E7
  have F_b1_cells := F_b1_cells.ext E7
  have F_b1_unique := F_b1_unique.ext E7
  have F_b1_size := F_b1_size.ext E7
  have F_b1_source := F_b1_source.ext E7
  have F_b1_deltaStart := F_b1_deltaStart.ext E7
  have F_b1_deltaEnd := F_b1_deltaEnd.ext E7
  have E_ix2 := E_ix2.ext E7
  have F_ix2_slots := F_ix2_slots.ext E7
  have F_ix2_firsts := F_ix2_firsts.ext E7
  have F_ix2_lasts := F_ix2_lasts.ext E7
  have F_ix2_nexts := F_ix2_nexts.ext E7
  have F_ix2_relation := F_ix2_relation.ext E7
  have F_ix2_columns := F_ix2_columns.ext E7
  have F_ix2_scratch := F_ix2_scratch.ext E7
  have F_ix2_groups := F_ix2_groups.ext E7
  have E_al2 := E_al2.ext E7
  have F_al2_modCount := F_al2_modCount.ext E7
  have F_al2_elementData := F_al2_elementData.ext E7
  have F_al2_size := F_al2_size.ext E7
  have V_sl2 := V_sl2.ext E7
  have V_fi2 := V_fi2.ext E7
  have V_la2 := V_la2.ext E7
  have V_nx2 := V_nx2.ext E7
  have V_co2 := V_co2.ext E7
  have V_sc2 := V_sc2.ext E7
  have V_ce2 := V_ce2.ext E7
  have E_ed2 := E_ed2.ext E7
  have V_ed2 := V_ed2.ext E7
  have V_b3 := V_b3.ext E7
  have V_b5 := V_b5.ext E7
  have V_b7 : Arv Z h7 b7 k7 .int (1 : Int32) [(.int (0 : Int32))] (.int (0 : Int32)) := V_b7
  refine C7.dup at_31 rfl rfl ?_
  refine C7.iconst (0 : Int32) at_32 rfl rfl ?_
  refine C7.iloadN at_33 rfl rfl ?_
  refine C7.iastore V_b7 ⟨by decide, by decide⟩ (Nat.le_of_ble_eq_true rfl) g_b7 at_34 rfl (fun T8 h8 C8 W8 Vn8 => ?_)
  have E_b1 := E_b1.wr W8
  have F_b1_indexes := F_b1_indexes.other W8 (Or.inl ne_b1_b7)
  have F_b1_arity := F_b1_arity.other W8 (Or.inl ne_b1_b7)
  have F_b1_cells := F_b1_cells.other W8 (Or.inl ne_b1_b7)
  have F_b1_unique := F_b1_unique.other W8 (Or.inl ne_b1_b7)
  have F_b1_size := F_b1_size.other W8 (Or.inl ne_b1_b7)
  have F_b1_source := F_b1_source.other W8 (Or.inl ne_b1_b7)
  have F_b1_deltaStart := F_b1_deltaStart.other W8 (Or.inl ne_b1_b7)
  have F_b1_deltaEnd := F_b1_deltaEnd.other W8 (Or.inl ne_b1_b7)
  have E_ix2 := E_ix2.wr W8
  have F_ix2_slots := F_ix2_slots.other W8 (Or.inl ne_ix2_b7)
  have F_ix2_firsts := F_ix2_firsts.other W8 (Or.inl ne_ix2_b7)
  have F_ix2_lasts := F_ix2_lasts.other W8 (Or.inl ne_ix2_b7)
  have F_ix2_nexts := F_ix2_nexts.other W8 (Or.inl ne_ix2_b7)
  have F_ix2_relation := F_ix2_relation.other W8 (Or.inl ne_ix2_b7)
  have F_ix2_columns := F_ix2_columns.other W8 (Or.inl ne_ix2_b7)
  have F_ix2_scratch := F_ix2_scratch.other W8 (Or.inl ne_ix2_b7)
  have F_ix2_groups := F_ix2_groups.other W8 (Or.inl ne_ix2_b7)
  have E_al2 := E_al2.wr W8
  have F_al2_modCount := F_al2_modCount.other W8 (Or.inl ne_al2_b7)
  have F_al2_elementData := F_al2_elementData.other W8 (Or.inl ne_al2_b7)
  have F_al2_size := F_al2_size.other W8 (Or.inl ne_al2_b7)
  have V_sl2 := V_sl2.other W8 ne_sl2_b7
  have V_fi2 := V_fi2.other W8 ne_fi2_b7
  have V_la2 := V_la2.other W8 ne_la2_b7
  have V_nx2 := V_nx2.other W8 ne_nx2_b7
  have V_co2 := V_co2.other W8 ne_co2_b7
  have V_sc2 := V_sc2.other W8 ne_sc2_b7
  have V_ce2 := V_ce2.other W8 ne_ce2_b7
  have E_ed2 := E_ed2.wr W8
  have V_ed2 := V_ed2.other W8 ne_ed2_b7
  have V_b3 := V_b3.other W8 ne_b3_b7
  have V_b5 := V_b5.other W8 ne_b5_b7
  have V_b7 : Arv Z h8 b7 k7 .int (1 : Int32) [(.int i2)] (.int (0 : Int32)) := Vn8
  refine C8.astore at_35 rfl rfl (L' := #[.val (.int i0), .val (.int i1), .val (.int i2), .val (.int i3), .val (.ref b1), .val (.ref b3), .val (.ref b5), .val (.ref b7), .unset, .unset, .unset, .unset, .unset, .unset]) rfl ?_
  refine C8.iloadN at_37 rfl rfl ?_
  refine C8.iconst (1 : Int32) at_38 rfl rfl ?_
  refine C8.iand at_39 rfl ?_
  refine C8.if_eq at_40 (by decide) (by decide : _ = 51) rfl (fun c40 => ?_) (fun c40 => ?_)
  · refine C8.iloadN at_51 rfl rfl ?_
    refine C8.iconst (2 : Int32) at_52 rfl rfl ?_
    refine C8.iand at_53 rfl ?_
    refine C8.if_eq at_54 (by decide) (by decide : _ = 65) rfl (fun c54 => ?_) (fun c54 => ?_)
    · refine C8.aload at_65 rfl rfl rfl ?_
      refine C8.callV (hw _ (List.mem_of_getElem? (i := 234) rfl)) (hw _ (List.mem_of_getElem? (i := 91) rfl)) (hw _ (List.mem_of_getElem? (i := 93) rfl)) (hw _ (List.mem_of_getElem? (i := 92) rfl)) (hw _ (List.mem_of_getElem? (i := 2) rfl)) (hw _ (List.mem_of_getElem? (i := 94) rfl)) E_b1 (by decide) (a := b1) (rm11 l Z a0 hw b1 (0 : Int32) h8 n0 C8.size F_b1_size) (argsL := []) pd11 rfl 0 (by decide) (by decide) (by decide) (by decide) (rest := []) rfl rfl (Nat.le_of_eq rfl) at_67 rfl (fun v9 T9 h9 C9 qq9 => ?_)
      obtain ⟨rfl, hh9⟩ := qq9
      have hh9 := hh9.symm; subst hh9
      show Go p e below F n0 (fun v _ => v = some (.int (1 : Int32))) T9 (mkF m 70 #[.val (.int i0), .val (.int i1), .val (.int i2), .val (.int i3), .val (.ref b1), .val (.ref b3), .val (.ref b5), .val (.ref b7), .unset, .unset, .unset, .unset, .unset, .unset] [(.int (0 : Int32))])
      refine C9.istore at_70 rfl (L' := #[.val (.int i0), .val (.int i1), .val (.int i2), .val (.int i3), .val (.ref b1), .val (.ref b3), .val (.ref b5), .val (.ref b7), .val (.int (0 : Int32)), .unset, .unset, .unset, .unset, .unset]) rfl ?_
      refine C9.aload at_72 rfl rfl rfl ?_
      refine C9.callV (hw _ (List.mem_of_getElem? (i := 235) rfl)) (hw _ (List.mem_of_getElem? (i := 236) rfl)) (hw _ (List.mem_of_getElem? (i := 238) rfl)) (hw _ (List.mem_of_getElem? (i := 237) rfl)) (hw _ (List.mem_of_getElem? (i := 2) rfl)) (hw _ (List.mem_of_getElem? (i := 239) rfl)) E_b1 (by decide) (a := b1) (rm31 l Z a0 hw b1 al2 ce2 ix2 (0 : Int32) (0 : Int32) (0 : Int32) h8 n0 C9.size E_b1 F_b1_indexes F_b1_arity F_b1_cells F_b1_unique F_b1_size F_b1_source F_b1_deltaStart F_b1_deltaEnd g_b1) (argsL := []) pd31 rfl 0 (by decide) (by decide) (by decide) (by decide) (rest := []) rfl rfl (Nat.le_of_eq rfl) at_74 rfl (fun v10 T10 h10 C10 qq10 => ?_)
      obtain ⟨rfl, K10, p10_0, p10_1, p10_2, p10_3, p10_4, p10_5, p10_6, p10_7, p10_8⟩ := qq10
      have E_b1 := E_b1.keep K10
      have E_ix2 := E_ix2.keep K10
      have F_ix2_slots := F_ix2_slots.keep K10 (ninS (Ne.symm ne_b1_ix2) nin0)
      have F_ix2_firsts := F_ix2_firsts.keep K10 (ninS (Ne.symm ne_b1_ix2) nin0)
      have F_ix2_lasts := F_ix2_lasts.keep K10 (ninS (Ne.symm ne_b1_ix2) nin0)
      have F_ix2_nexts := F_ix2_nexts.keep K10 (ninS (Ne.symm ne_b1_ix2) nin0)
      have F_ix2_relation := F_ix2_relation.keep K10 (ninS (Ne.symm ne_b1_ix2) nin0)
      have F_ix2_columns := F_ix2_columns.keep K10 (ninS (Ne.symm ne_b1_ix2) nin0)
      have F_ix2_scratch := F_ix2_scratch.keep K10 (ninS (Ne.symm ne_b1_ix2) nin0)
      have F_ix2_groups := F_ix2_groups.keep K10 (ninS (Ne.symm ne_b1_ix2) nin0)
      have E_al2 := E_al2.keep K10
      have F_al2_modCount := F_al2_modCount.keep K10 (ninS (Ne.symm ne_b1_al2) nin0)
      have F_al2_elementData := F_al2_elementData.keep K10 (ninS (Ne.symm ne_b1_al2) nin0)
      have F_al2_size := F_al2_size.keep K10 (ninS (Ne.symm ne_b1_al2) nin0)
      have V_sl2 := V_sl2.keep K10 (ninS (Ne.symm ne_b1_sl2) nin0)
      have V_fi2 := V_fi2.keep K10 (ninS (Ne.symm ne_b1_fi2) nin0)
      have V_la2 := V_la2.keep K10 (ninS (Ne.symm ne_b1_la2) nin0)
      have V_nx2 := V_nx2.keep K10 (ninS (Ne.symm ne_b1_nx2) nin0)
      have V_co2 := V_co2.keep K10 (ninS (Ne.symm ne_b1_co2) nin0)
      have V_sc2 := V_sc2.keep K10 (ninS (Ne.symm ne_b1_sc2) nin0)
      have V_ce2 := V_ce2.keep K10 (ninS (Ne.symm ne_b1_ce2) nin0)
      have E_ed2 := E_ed2.keep K10
      have V_ed2 := V_ed2.keep K10 (ninS (Ne.symm ne_b1_ed2) nin0)
      have V_b3 := V_b3.keep K10 (ninS (Ne.symm ne_b1_b3) nin0)
      have V_b5 := V_b5.keep K10 (ninS (Ne.symm ne_b1_b5) nin0)
      have V_b7 := V_b7.keep K10 (ninS (Ne.symm ne_b1_b7) nin0)
      have E_b1 := p10_0
      have F_b1_indexes := p10_1
      have F_b1_arity := p10_2
      have F_b1_cells := p10_3
      have F_b1_unique := p10_4
      have F_b1_size := p10_5
      have F_b1_source := p10_6
      have F_b1_deltaStart := p10_7
      have F_b1_deltaEnd := p10_8
      show Go p e below F n0 (fun v _ => v = some (.int (1 : Int32))) T10 (mkF m 77 #[.val (.int i0), .val (.int i1), .val (.int i2), .val (.int i3), .val (.ref b1), .val (.ref b3), .val (.ref b5), .val (.ref b7), .val (.int (0 : Int32)), .unset, .unset, .unset, .unset, .unset] [(.int (f31 (0 : Int32) (0 : Int32) (0 : Int32)))])
      refine C10.istore at_77 rfl (L' := #[.val (.int i0), .val (.int i1), .val (.int i2), .val (.int i3), .val (.ref b1), .val (.ref b3), .val (.ref b5), .val (.ref b7), .val (.int (0 : Int32)), .val (.int (f31 (0 : Int32) (0 : Int32) (0 : Int32))), .unset, .unset, .unset, .unset]) rfl ?_
      refine C10.aload at_79 rfl rfl rfl ?_
      refine C10.callV (hw _ (List.mem_of_getElem? (i := 244) rfl)) (hw _ (List.mem_of_getElem? (i := 245) rfl)) (hw _ (List.mem_of_getElem? (i := 247) rfl)) (hw _ (List.mem_of_getElem? (i := 246) rfl)) (hw _ (List.mem_of_getElem? (i := 2) rfl)) (hw _ (List.mem_of_getElem? (i := 248) rfl)) E_b1 (by decide) (a := b1) (rm32 l Z a0 hw b1 (0 : Int32) h10 n0 C10.size F_b1_deltaStart) (argsL := []) pd32 rfl 0 (by decide) (by decide) (by decide) (by decide) (rest := []) rfl rfl (Nat.le_of_eq rfl) at_81 rfl (fun v11 T11 h11 C11 qq11 => ?_)
      obtain ⟨rfl, hh11⟩ := qq11
      have hh11 := hh11.symm; subst hh11
      show Go p e below F n0 (fun v _ => v = some (.int (1 : Int32))) T11 (mkF m 84 #[.val (.int i0), .val (.int i1), .val (.int i2), .val (.int i3), .val (.ref b1), .val (.ref b3), .val (.ref b5), .val (.ref b7), .val (.int (0 : Int32)), .val (.int (f31 (0 : Int32) (0 : Int32) (0 : Int32))), .unset, .unset, .unset, .unset] [(.int (0 : Int32))])
      refine C11.if_ne at_84 (by decide) (by decide : _ = 117) rfl (fun q => absurd (by decide) q) (fun _ => ?_)
      refine C11.aload at_87 rfl rfl rfl ?_
      refine C11.callV (hw _ (List.mem_of_getElem? (i := 249) rfl)) (hw _ (List.mem_of_getElem? (i := 250) rfl)) (hw _ (List.mem_of_getElem? (i := 252) rfl)) (hw _ (List.mem_of_getElem? (i := 251) rfl)) (hw _ (List.mem_of_getElem? (i := 2) rfl)) (hw _ (List.mem_of_getElem? (i := 253) rfl)) E_b1 (by decide) (a := b1) (rm33 l Z a0 hw b1 (0 : Int32) h10 n0 C11.size F_b1_deltaEnd) (argsL := []) pd33 rfl 0 (by decide) (by decide) (by decide) (by decide) (rest := []) rfl rfl (Nat.le_of_eq rfl) at_89 rfl (fun v12 T12 h12 C12 qq12 => ?_)
      obtain ⟨rfl, hh12⟩ := qq12
      have hh12 := hh12.symm; subst hh12
      show Go p e below F n0 (fun v _ => v = some (.int (1 : Int32))) T12 (mkF m 92 #[.val (.int i0), .val (.int i1), .val (.int i2), .val (.int i3), .val (.ref b1), .val (.ref b3), .val (.ref b5), .val (.ref b7), .val (.int (0 : Int32)), .val (.int (f31 (0 : Int32) (0 : Int32) (0 : Int32))), .unset, .unset, .unset, .unset] [(.int (0 : Int32))])
      refine C12.iload at_92 rfl rfl ?_
      refine C12.icmp_ne at_94 (by decide) (by decide : _ = 117) rfl (fun q => absurd (by decide) q) (fun _ => ?_)
      refine C12.iload at_97 rfl rfl ?_
      refine C12.iconst (0 : Int32) at_99 rfl rfl ?_
      refine C12.iload at_100 rfl rfl ?_
      refine C12.icmp_ge at_102 (by decide) (by decide : _ = 109) rfl (fun _ => ?_) (fun q => absurd q (by decide))
      refine C12.iconst (0 : Int32) at_109 rfl rfl ?_
      refine C12.icmp_ne at_110 (by decide) (by decide : _ = 117) rfl (fun q => absurd (by rw [f31, if_neg (by decide)]) q) (fun _ => ?_)
      refine C12.iconst (1 : Int32) at_113 rfl rfl ?_
      refine C12.goto at_114 (by decide) (by decide : _ = 118) ?_
      refine C12.istore at_118 rfl (L' := #[.val (.int i0), .val (.int i1), .val (.int i2), .val (.int i3), .val (.ref b1), .val (.ref b3), .val (.ref b5), .val (.ref b7), .val (.int (0 : Int32)), .val (.int (f31 (0 : Int32) (0 : Int32) (0 : Int32))), .val (.int (1 : Int32)), .unset, .unset, .unset]) rfl ?_
      refine C12.iloadN at_120 rfl rfl ?_
      refine C12.iconst (4 : Int32) at_121 rfl rfl ?_
      refine C12.iand at_122 rfl ?_
      refine C12.if_eq at_123 (by decide) (by decide : _ = 134) rfl (fun c123 => ?_) (fun c123 => ?_)
      · refine C12.aload at_134 rfl rfl rfl ?_
        refine C12.callV (hw _ (List.mem_of_getElem? (i := 234) rfl)) (hw _ (List.mem_of_getElem? (i := 91) rfl)) (hw _ (List.mem_of_getElem? (i := 93) rfl)) (hw _ (List.mem_of_getElem? (i := 92) rfl)) (hw _ (List.mem_of_getElem? (i := 2) rfl)) (hw _ (List.mem_of_getElem? (i := 94) rfl)) E_b1 (by decide) (a := b1) (rm11 l Z a0 hw b1 (0 : Int32) h10 n0 C12.size F_b1_size) (argsL := []) pd11 rfl 0 (by decide) (by decide) (by decide) (by decide) (rest := []) rfl rfl (Nat.le_of_eq rfl) at_136 rfl (fun v13 T13 h13 C13 qq13 => ?_)
        obtain ⟨rfl, hh13⟩ := qq13
        have hh13 := hh13.symm; subst hh13
        show Go p e below F n0 (fun v _ => v = some (.int (1 : Int32))) T13 (mkF m 139 #[.val (.int i0), .val (.int i1), .val (.int i2), .val (.int i3), .val (.ref b1), .val (.ref b3), .val (.ref b5), .val (.ref b7), .val (.int (0 : Int32)), .val (.int (f31 (0 : Int32) (0 : Int32) (0 : Int32))), .val (.int (1 : Int32)), .unset, .unset, .unset] [(.int (0 : Int32))])
        refine C13.istore at_139 rfl (L' := #[.val (.int i0), .val (.int i1), .val (.int i2), .val (.int i3), .val (.ref b1), .val (.ref b3), .val (.ref b5), .val (.ref b7), .val (.int (0 : Int32)), .val (.int (f31 (0 : Int32) (0 : Int32) (0 : Int32))), .val (.int (1 : Int32)), .val (.int (0 : Int32)), .unset, .unset]) rfl ?_
        refine C13.aload at_141 rfl rfl rfl ?_
        refine C13.callV (hw _ (List.mem_of_getElem? (i := 235) rfl)) (hw _ (List.mem_of_getElem? (i := 236) rfl)) (hw _ (List.mem_of_getElem? (i := 238) rfl)) (hw _ (List.mem_of_getElem? (i := 237) rfl)) (hw _ (List.mem_of_getElem? (i := 2) rfl)) (hw _ (List.mem_of_getElem? (i := 239) rfl)) E_b1 (by decide) (a := b1) (rm31 l Z a0 hw b1 al2 ce2 ix2 (0 : Int32) (0 : Int32) (0 : Int32) h10 n0 C13.size E_b1 F_b1_indexes F_b1_arity F_b1_cells F_b1_unique F_b1_size F_b1_source F_b1_deltaStart F_b1_deltaEnd g_b1) (argsL := []) pd31 rfl 0 (by decide) (by decide) (by decide) (by decide) (rest := []) rfl rfl (Nat.le_of_eq rfl) at_143 rfl (fun v14 T14 h14 C14 qq14 => ?_)
        obtain ⟨rfl, K14, p14_0, p14_1, p14_2, p14_3, p14_4, p14_5, p14_6, p14_7, p14_8⟩ := qq14
        have E_b1 := E_b1.keep K14
        have E_ix2 := E_ix2.keep K14
        have F_ix2_slots := F_ix2_slots.keep K14 (ninS (Ne.symm ne_b1_ix2) nin0)
        have F_ix2_firsts := F_ix2_firsts.keep K14 (ninS (Ne.symm ne_b1_ix2) nin0)
        have F_ix2_lasts := F_ix2_lasts.keep K14 (ninS (Ne.symm ne_b1_ix2) nin0)
        have F_ix2_nexts := F_ix2_nexts.keep K14 (ninS (Ne.symm ne_b1_ix2) nin0)
        have F_ix2_relation := F_ix2_relation.keep K14 (ninS (Ne.symm ne_b1_ix2) nin0)
        have F_ix2_columns := F_ix2_columns.keep K14 (ninS (Ne.symm ne_b1_ix2) nin0)
        have F_ix2_scratch := F_ix2_scratch.keep K14 (ninS (Ne.symm ne_b1_ix2) nin0)
        have F_ix2_groups := F_ix2_groups.keep K14 (ninS (Ne.symm ne_b1_ix2) nin0)
        have E_al2 := E_al2.keep K14
        have F_al2_modCount := F_al2_modCount.keep K14 (ninS (Ne.symm ne_b1_al2) nin0)
        have F_al2_elementData := F_al2_elementData.keep K14 (ninS (Ne.symm ne_b1_al2) nin0)
        have F_al2_size := F_al2_size.keep K14 (ninS (Ne.symm ne_b1_al2) nin0)
        have V_sl2 := V_sl2.keep K14 (ninS (Ne.symm ne_b1_sl2) nin0)
        have V_fi2 := V_fi2.keep K14 (ninS (Ne.symm ne_b1_fi2) nin0)
        have V_la2 := V_la2.keep K14 (ninS (Ne.symm ne_b1_la2) nin0)
        have V_nx2 := V_nx2.keep K14 (ninS (Ne.symm ne_b1_nx2) nin0)
        have V_co2 := V_co2.keep K14 (ninS (Ne.symm ne_b1_co2) nin0)
        have V_sc2 := V_sc2.keep K14 (ninS (Ne.symm ne_b1_sc2) nin0)
        have V_ce2 := V_ce2.keep K14 (ninS (Ne.symm ne_b1_ce2) nin0)
        have E_ed2 := E_ed2.keep K14
        have V_ed2 := V_ed2.keep K14 (ninS (Ne.symm ne_b1_ed2) nin0)
        have V_b3 := V_b3.keep K14 (ninS (Ne.symm ne_b1_b3) nin0)
        have V_b5 := V_b5.keep K14 (ninS (Ne.symm ne_b1_b5) nin0)
        have V_b7 := V_b7.keep K14 (ninS (Ne.symm ne_b1_b7) nin0)
        have E_b1 := p14_0
        have F_b1_indexes := p14_1
        have F_b1_arity := p14_2
        have F_b1_cells := p14_3
        have F_b1_unique := p14_4
        have F_b1_size := p14_5
        have F_b1_source := p14_6
        have F_b1_deltaStart := p14_7
        have F_b1_deltaEnd := p14_8
        show Go p e below F n0 (fun v _ => v = some (.int (1 : Int32))) T14 (mkF m 146 #[.val (.int i0), .val (.int i1), .val (.int i2), .val (.int i3), .val (.ref b1), .val (.ref b3), .val (.ref b5), .val (.ref b7), .val (.int (0 : Int32)), .val (.int (f31 (0 : Int32) (0 : Int32) (0 : Int32))), .val (.int (1 : Int32)), .val (.int (0 : Int32)), .unset, .unset] [(.int (f31 (0 : Int32) (0 : Int32) (0 : Int32)))])
        refine C14.istore at_146 rfl (L' := #[.val (.int i0), .val (.int i1), .val (.int i2), .val (.int i3), .val (.ref b1), .val (.ref b3), .val (.ref b5), .val (.ref b7), .val (.int (0 : Int32)), .val (.int (f31 (0 : Int32) (0 : Int32) (0 : Int32))), .val (.int (1 : Int32)), .val (.int (0 : Int32)), .val (.int (f31 (0 : Int32) (0 : Int32) (0 : Int32))), .unset]) rfl ?_
        refine C14.aload at_148 rfl rfl rfl ?_
        refine C14.callV (hw _ (List.mem_of_getElem? (i := 244) rfl)) (hw _ (List.mem_of_getElem? (i := 245) rfl)) (hw _ (List.mem_of_getElem? (i := 247) rfl)) (hw _ (List.mem_of_getElem? (i := 246) rfl)) (hw _ (List.mem_of_getElem? (i := 2) rfl)) (hw _ (List.mem_of_getElem? (i := 248) rfl)) E_b1 (by decide) (a := b1) (rm32 l Z a0 hw b1 (0 : Int32) h14 n0 C14.size F_b1_deltaStart) (argsL := []) pd32 rfl 0 (by decide) (by decide) (by decide) (by decide) (rest := []) rfl rfl (Nat.le_of_eq rfl) at_150 rfl (fun v15 T15 h15 C15 qq15 => ?_)
        obtain ⟨rfl, hh15⟩ := qq15
        have hh15 := hh15.symm; subst hh15
        show Go p e below F n0 (fun v _ => v = some (.int (1 : Int32))) T15 (mkF m 153 #[.val (.int i0), .val (.int i1), .val (.int i2), .val (.int i3), .val (.ref b1), .val (.ref b3), .val (.ref b5), .val (.ref b7), .val (.int (0 : Int32)), .val (.int (f31 (0 : Int32) (0 : Int32) (0 : Int32))), .val (.int (1 : Int32)), .val (.int (0 : Int32)), .val (.int (f31 (0 : Int32) (0 : Int32) (0 : Int32))), .unset] [(.int (0 : Int32))])
        refine C15.iload at_153 rfl rfl ?_
        refine C15.icmp_ne at_155 (by decide) (by decide : _ = 189) rfl (fun q => absurd (by decide) q) (fun _ => ?_)
        refine C15.aload at_158 rfl rfl rfl ?_
        refine C15.callV (hw _ (List.mem_of_getElem? (i := 249) rfl)) (hw _ (List.mem_of_getElem? (i := 250) rfl)) (hw _ (List.mem_of_getElem? (i := 252) rfl)) (hw _ (List.mem_of_getElem? (i := 251) rfl)) (hw _ (List.mem_of_getElem? (i := 2) rfl)) (hw _ (List.mem_of_getElem? (i := 253) rfl)) E_b1 (by decide) (a := b1) (rm33 l Z a0 hw b1 (0 : Int32) h14 n0 C15.size F_b1_deltaEnd) (argsL := []) pd33 rfl 0 (by decide) (by decide) (by decide) (by decide) (rest := []) rfl rfl (Nat.le_of_eq rfl) at_160 rfl (fun v16 T16 h16 C16 qq16 => ?_)
        obtain ⟨rfl, hh16⟩ := qq16
        have hh16 := hh16.symm; subst hh16
        show Go p e below F n0 (fun v _ => v = some (.int (1 : Int32))) T16 (mkF m 163 #[.val (.int i0), .val (.int i1), .val (.int i2), .val (.int i3), .val (.ref b1), .val (.ref b3), .val (.ref b5), .val (.ref b7), .val (.int (0 : Int32)), .val (.int (f31 (0 : Int32) (0 : Int32) (0 : Int32))), .val (.int (1 : Int32)), .val (.int (0 : Int32)), .val (.int (f31 (0 : Int32) (0 : Int32) (0 : Int32))), .unset] [(.int (0 : Int32))])
        refine C16.iload at_163 rfl rfl ?_
        refine C16.icmp_ne at_165 (by decide) (by decide : _ = 189) rfl (fun q => absurd (by decide) q) (fun _ => ?_)
        refine C16.iload at_168 rfl rfl ?_
        refine C16.iload at_170 rfl rfl ?_
        refine C16.iload at_172 rfl rfl ?_
        refine C16.icmp_ge at_174 (by decide) (by decide : _ = 181) rfl (fun _ => ?_) (fun q => absurd q (by decide))
        refine C16.iconst (0 : Int32) at_181 rfl rfl ?_
        refine C16.icmp_ne at_182 (by decide) (by decide : _ = 189) rfl (fun q => absurd (by rw [f31, if_neg (by decide)]) q) (fun _ => ?_)
        refine C16.iconst (1 : Int32) at_185 rfl rfl ?_
        refine C16.goto at_186 (by decide) (by decide : _ = 190) ?_
        refine C16.istore at_190 rfl (L' := #[.val (.int i0), .val (.int i1), .val (.int i2), .val (.int i3), .val (.ref b1), .val (.ref b3), .val (.ref b5), .val (.ref b7), .val (.int (0 : Int32)), .val (.int (f31 (0 : Int32) (0 : Int32) (0 : Int32))), .val (.int (1 : Int32)), .val (.int (0 : Int32)), .val (.int (f31 (0 : Int32) (0 : Int32) (0 : Int32))), .val (.int (1 : Int32))]) rfl ?_
        refine C16.iload at_192 rfl rfl ?_
        refine C16.if_eq at_194 (by decide) (by decide : _ = 206) rfl (fun q => absurd q (by decide)) (fun _ => ?_)
        refine C16.iload at_197 rfl rfl ?_
        refine C16.if_eq at_199 (by decide) (by decide : _ = 206) rfl (fun q => absurd q (by decide)) (fun _ => ?_)
        refine C16.iconst (1 : Int32) at_202 rfl rfl ?_
        refine C16.goto at_203 (by decide) (by decide : _ = 207) ?_
        exact C16.retN (t := .boolean) at_207 rfl (by simp) (by decide) (by decide) (w := (1 : Int32)) rfl rfl
      · refine C12.aload at_126 rfl rfl rfl ?_
        refine C12.aload at_128 rfl rfl rfl ?_
        refine C12.callV (hw _ (List.mem_of_getElem? (i := 134) rfl)) (hw _ (List.mem_of_getElem? (i := 135) rfl)) (hw _ (List.mem_of_getElem? (i := 137) rfl)) (hw _ (List.mem_of_getElem? (i := 136) rfl)) (hw _ (List.mem_of_getElem? (i := 2) rfl)) (hw _ (List.mem_of_getElem? (i := 138) rfl)) E_b1 (by decide) (a := b1) (rm17 l Z a0 hw b1 b7 al2 ce2 ix2 ed2 sl2 fi2 la2 nx2 co2 sc2 kce2 ked2 ksl2 kfi2 kla2 knx2 kco2 ksc2 k7 own_z16 own_z8 own_z8 own_z16 own_z16 (0 : Int32) (0 : Int32) i2 (0 : Int32) (0 : Int32) (0 : Int32) h10 n0 C12.size E_b1 F_b1_indexes F_b1_arity F_b1_cells F_b1_unique F_b1_size F_b1_source F_b1_deltaStart F_b1_deltaEnd E_ix2 F_ix2_slots F_ix2_firsts F_ix2_lasts F_ix2_nexts F_ix2_relation F_ix2_columns F_ix2_scratch F_ix2_groups V_sl2 V_fi2 V_la2 V_nx2 V_co2 V_sc2 V_ce2 E_al2 F_al2_modCount F_al2_elementData F_al2_size E_ed2 V_ed2 O_ked2 V_b7 g_b1 g_ce2 g_ix2 g_sc2 g_nx2 g_fi2 g_la2 g_sl2 hinv_2 (own_pre0 i0 i1 i2 i3 de kde lm al2 ce2 ix2 ed2 sl2 fi2 la2 nx2 co2 sc2 kce2 ked2 ksl2 kfi2 kla2 knx2 kco2 ksc2 hinv_2 hC_2 c40 c54 c123) hC_2 ne_sl2_fi2 ne_sl2_la2 ne_sl2_nx2 ne_sl2_co2 ne_sl2_sc2 ne_sl2_ce2 ne_sl2_ed2 ne_fi2_la2 ne_fi2_nx2 ne_fi2_co2 ne_fi2_sc2 ne_fi2_ce2 ne_fi2_ed2 ne_la2_nx2 ne_la2_co2 ne_la2_sc2 ne_la2_ce2 ne_la2_ed2 ne_nx2_co2 ne_nx2_sc2 ne_nx2_ce2 ne_nx2_ed2 ne_co2_sc2 ne_co2_ce2 ne_co2_ed2 ne_sc2_ce2 ne_sc2_ed2 ne_ce2_ed2 (Ne.symm ne_ce2_b7)) (argsL := [(.ref b7)]) pd17 rfl 0 (by decide) (by decide) (by decide) (by decide) (rest := []) rfl rfl (Nat.le_of_eq rfl) at_130 rfl (fun v17 T17 h17 C17 qq17 => ?_)
        obtain ⟨mS17, mF17, mL17, mN17, mC17, mg17, mk17, my17, rr17, rfl, K17, p17_0, p17_1, p17_2, p17_3, p17_4, p17_5, p17_6, p17_7, p17_8, p17_9, p17_10, p17_11, p17_12, p17_13, p17_14, p17_15, p17_16, p17_17, p17_18, p17_19, p17_20, p17_21, p17_22, p17_23, p17_24, p17_25, p17_26⟩ := qq17
        have ne_al2_ce2 : al2 ≠ ce2 := (own_nea E_al2 (hw _ (List.mem_of_getElem? (i := 10) rfl)) V_ce2)
        have ne_al2_ix2 : al2 ≠ ix2 := (ne_exa E_al2 E_ix2 (by decide))
        have ne_al2_sc2 : al2 ≠ sc2 := (own_nea E_al2 (hw _ (List.mem_of_getElem? (i := 10) rfl)) V_sc2)
        have ne_al2_nx2 : al2 ≠ nx2 := (own_nea E_al2 (hw _ (List.mem_of_getElem? (i := 10) rfl)) V_nx2)
        have ne_al2_fi2 : al2 ≠ fi2 := (own_nea E_al2 (hw _ (List.mem_of_getElem? (i := 10) rfl)) V_fi2)
        have ne_al2_la2 : al2 ≠ la2 := (own_nea E_al2 (hw _ (List.mem_of_getElem? (i := 10) rfl)) V_la2)
        have ne_al2_sl2 : al2 ≠ sl2 := (own_nea E_al2 (hw _ (List.mem_of_getElem? (i := 10) rfl)) V_sl2)
        have ne_co2_ix2 : co2 ≠ ix2 := (Ne.symm (own_nea E_ix2 (hw _ (List.mem_of_getElem? (i := 61) rfl)) V_co2))
        have ne_ed2_ix2 : ed2 ≠ ix2 := (ne_exa E_ed2 E_ix2 (by decide))
        have E_b1 := E_b1.keep K17
        have E_ix2 := E_ix2.keep K17
        have E_al2 := E_al2.keep K17
        have F_al2_modCount := F_al2_modCount.keep K17 (ninS (Ne.symm ne_b1_al2) (ninS ne_al2_ce2 (ninS ne_al2_ix2 (ninS ne_al2_sc2 (ninS ne_al2_nx2 (ninS ne_al2_fi2 (ninS ne_al2_la2 (ninS ne_al2_sl2 nin0))))))))
        have F_al2_elementData := F_al2_elementData.keep K17 (ninS (Ne.symm ne_b1_al2) (ninS ne_al2_ce2 (ninS ne_al2_ix2 (ninS ne_al2_sc2 (ninS ne_al2_nx2 (ninS ne_al2_fi2 (ninS ne_al2_la2 (ninS ne_al2_sl2 nin0))))))))
        have F_al2_size := F_al2_size.keep K17 (ninS (Ne.symm ne_b1_al2) (ninS ne_al2_ce2 (ninS ne_al2_ix2 (ninS ne_al2_sc2 (ninS ne_al2_nx2 (ninS ne_al2_fi2 (ninS ne_al2_la2 (ninS ne_al2_sl2 nin0))))))))
        have V_co2 := V_co2.keep K17 (ninS (Ne.symm ne_b1_co2) (ninS ne_co2_ce2 (ninS ne_co2_ix2 (ninS ne_co2_sc2 (ninS (Ne.symm ne_nx2_co2) (ninS (Ne.symm ne_fi2_co2) (ninS (Ne.symm ne_la2_co2) (ninS (Ne.symm ne_sl2_co2) nin0))))))))
        have E_ed2 := E_ed2.keep K17
        have V_ed2 := V_ed2.keep K17 (ninS (Ne.symm ne_b1_ed2) (ninS (Ne.symm ne_ce2_ed2) (ninS ne_ed2_ix2 (ninS (Ne.symm ne_sc2_ed2) (ninS (Ne.symm ne_nx2_ed2) (ninS (Ne.symm ne_fi2_ed2) (ninS (Ne.symm ne_la2_ed2) (ninS (Ne.symm ne_sl2_ed2) nin0))))))))
        have V_b3 := V_b3.keep K17 (ninS (Ne.symm ne_b1_b3) (ninS (Ne.symm ne_ce2_b3) (ninS (Ne.symm ne_ix2_b3) (ninS (Ne.symm ne_sc2_b3) (ninS (Ne.symm ne_nx2_b3) (ninS (Ne.symm ne_fi2_b3) (ninS (Ne.symm ne_la2_b3) (ninS (Ne.symm ne_sl2_b3) nin0))))))))
        have V_b5 := V_b5.keep K17 (ninS (Ne.symm ne_b1_b5) (ninS (Ne.symm ne_ce2_b5) (ninS (Ne.symm ne_ix2_b5) (ninS (Ne.symm ne_sc2_b5) (ninS (Ne.symm ne_nx2_b5) (ninS (Ne.symm ne_fi2_b5) (ninS (Ne.symm ne_la2_b5) (ninS (Ne.symm ne_sl2_b5) nin0))))))))
        have V_b7 := V_b7.keep K17 (ninS (Ne.symm ne_b1_b7) (ninS (Ne.symm ne_ce2_b7) (ninS (Ne.symm ne_ix2_b7) (ninS (Ne.symm ne_sc2_b7) (ninS (Ne.symm ne_nx2_b7) (ninS (Ne.symm ne_fi2_b7) (ninS (Ne.symm ne_la2_b7) (ninS (Ne.symm ne_sl2_b7) nin0))))))))
        have E_b1 := p17_0
        have F_b1_indexes := p17_1
        have F_b1_arity := p17_2
        have F_b1_cells := p17_3
        have F_b1_unique := p17_4
        have F_b1_size := p17_5
        have F_b1_source := p17_6
        have F_b1_deltaStart := p17_7
        have F_b1_deltaEnd := p17_8
        have E_ix2 := p17_9
        have F_ix2_slots := p17_10
        have F_ix2_firsts := p17_11
        have F_ix2_lasts := p17_12
        have F_ix2_nexts := p17_13
        have F_ix2_relation := p17_14
        have F_ix2_columns := p17_15
        have F_ix2_scratch := p17_16
        have F_ix2_groups := p17_17
        have V_sl2 := p17_18
        have V_fi2 := p17_19
        have V_la2 := p17_20
        have V_nx2 := p17_21
        have V_sc2 := p17_22
        have V_ce2 := p17_23
        have hinv_17 := p17_24
        have hC_17 := p17_25
        have hle_17 := p17_26
        show Go p e below F n0 (fun v _ => v = some (.int (1 : Int32))) T17 (mkF m 133 #[.val (.int i0), .val (.int i1), .val (.int i2), .val (.int i3), .val (.ref b1), .val (.ref b3), .val (.ref b5), .val (.ref b7), .val (.int (0 : Int32)), .val (.int (f31 (0 : Int32) (0 : Int32) (0 : Int32))), .val (.int (1 : Int32)), .unset, .unset, .unset] [(.int rr17)])
        refine C17.pop at_133 rfl rfl ?_
        refine C17.aload at_134 rfl rfl rfl ?_
        refine C17.callV (hw _ (List.mem_of_getElem? (i := 234) rfl)) (hw _ (List.mem_of_getElem? (i := 91) rfl)) (hw _ (List.mem_of_getElem? (i := 93) rfl)) (hw _ (List.mem_of_getElem? (i := 92) rfl)) (hw _ (List.mem_of_getElem? (i := 2) rfl)) (hw _ (List.mem_of_getElem? (i := 94) rfl)) E_b1 (by decide) (a := b1) (rm11 l Z a0 hw b1 my17 h17 n0 C17.size F_b1_size) (argsL := []) pd11 rfl 0 (by decide) (by decide) (by decide) (by decide) (rest := []) rfl rfl (Nat.le_of_eq rfl) at_136 rfl (fun v18 T18 h18 C18 qq18 => ?_)
        obtain ⟨rfl, hh18⟩ := qq18
        have hh18 := hh18.symm; subst hh18
        show Go p e below F n0 (fun v _ => v = some (.int (1 : Int32))) T18 (mkF m 139 #[.val (.int i0), .val (.int i1), .val (.int i2), .val (.int i3), .val (.ref b1), .val (.ref b3), .val (.ref b5), .val (.ref b7), .val (.int (0 : Int32)), .val (.int (f31 (0 : Int32) (0 : Int32) (0 : Int32))), .val (.int (1 : Int32)), .unset, .unset, .unset] [(.int my17)])
        refine C18.istore at_139 rfl (L' := #[.val (.int i0), .val (.int i1), .val (.int i2), .val (.int i3), .val (.ref b1), .val (.ref b3), .val (.ref b5), .val (.ref b7), .val (.int (0 : Int32)), .val (.int (f31 (0 : Int32) (0 : Int32) (0 : Int32))), .val (.int (1 : Int32)), .val (.int my17), .unset, .unset]) rfl ?_
        refine C18.aload at_141 rfl rfl rfl ?_
        refine C18.callV (hw _ (List.mem_of_getElem? (i := 235) rfl)) (hw _ (List.mem_of_getElem? (i := 236) rfl)) (hw _ (List.mem_of_getElem? (i := 238) rfl)) (hw _ (List.mem_of_getElem? (i := 237) rfl)) (hw _ (List.mem_of_getElem? (i := 2) rfl)) (hw _ (List.mem_of_getElem? (i := 239) rfl)) E_b1 (by decide) (a := b1) (rm31 l Z a0 hw b1 al2 ce2 ix2 my17 (0 : Int32) (0 : Int32) h17 n0 C18.size E_b1 F_b1_indexes F_b1_arity F_b1_cells F_b1_unique F_b1_size F_b1_source F_b1_deltaStart F_b1_deltaEnd g_b1) (argsL := []) pd31 rfl 0 (by decide) (by decide) (by decide) (by decide) (rest := []) rfl rfl (Nat.le_of_eq rfl) at_143 rfl (fun v19 T19 h19 C19 qq19 => ?_)
        obtain ⟨rfl, K19, p19_0, p19_1, p19_2, p19_3, p19_4, p19_5, p19_6, p19_7, p19_8⟩ := qq19
        have E_b1 := E_b1.keep K19
        have E_ix2 := E_ix2.keep K19
        have E_al2 := E_al2.keep K19
        have F_al2_modCount := F_al2_modCount.keep K19 (ninS (Ne.symm ne_b1_al2) nin0)
        have F_al2_elementData := F_al2_elementData.keep K19 (ninS (Ne.symm ne_b1_al2) nin0)
        have F_al2_size := F_al2_size.keep K19 (ninS (Ne.symm ne_b1_al2) nin0)
        have V_co2 := V_co2.keep K19 (ninS (Ne.symm ne_b1_co2) nin0)
        have E_ed2 := E_ed2.keep K19
        have V_ed2 := V_ed2.keep K19 (ninS (Ne.symm ne_b1_ed2) nin0)
        have V_b3 := V_b3.keep K19 (ninS (Ne.symm ne_b1_b3) nin0)
        have V_b5 := V_b5.keep K19 (ninS (Ne.symm ne_b1_b5) nin0)
        have V_b7 := V_b7.keep K19 (ninS (Ne.symm ne_b1_b7) nin0)
        have F_ix2_slots := F_ix2_slots.keep K19 (ninS (Ne.symm ne_b1_ix2) nin0)
        have F_ix2_firsts := F_ix2_firsts.keep K19 (ninS (Ne.symm ne_b1_ix2) nin0)
        have F_ix2_lasts := F_ix2_lasts.keep K19 (ninS (Ne.symm ne_b1_ix2) nin0)
        have F_ix2_nexts := F_ix2_nexts.keep K19 (ninS (Ne.symm ne_b1_ix2) nin0)
        have F_ix2_relation := F_ix2_relation.keep K19 (ninS (Ne.symm ne_b1_ix2) nin0)
        have F_ix2_columns := F_ix2_columns.keep K19 (ninS (Ne.symm ne_b1_ix2) nin0)
        have F_ix2_scratch := F_ix2_scratch.keep K19 (ninS (Ne.symm ne_b1_ix2) nin0)
        have F_ix2_groups := F_ix2_groups.keep K19 (ninS (Ne.symm ne_b1_ix2) nin0)
        have V_sl2 := V_sl2.keep K19 (ninS (Ne.symm ne_b1_sl2) nin0)
        have V_fi2 := V_fi2.keep K19 (ninS (Ne.symm ne_b1_fi2) nin0)
        have V_la2 := V_la2.keep K19 (ninS (Ne.symm ne_b1_la2) nin0)
        have V_nx2 := V_nx2.keep K19 (ninS (Ne.symm ne_b1_nx2) nin0)
        have V_sc2 := V_sc2.keep K19 (ninS (Ne.symm ne_b1_sc2) nin0)
        have V_ce2 := V_ce2.keep K19 (ninS (Ne.symm ne_b1_ce2) nin0)
        have E_b1 := p19_0
        have F_b1_indexes := p19_1
        have F_b1_arity := p19_2
        have F_b1_cells := p19_3
        have F_b1_unique := p19_4
        have F_b1_size := p19_5
        have F_b1_source := p19_6
        have F_b1_deltaStart := p19_7
        have F_b1_deltaEnd := p19_8
        show Go p e below F n0 (fun v _ => v = some (.int (1 : Int32))) T19 (mkF m 146 #[.val (.int i0), .val (.int i1), .val (.int i2), .val (.int i3), .val (.ref b1), .val (.ref b3), .val (.ref b5), .val (.ref b7), .val (.int (0 : Int32)), .val (.int (f31 (0 : Int32) (0 : Int32) (0 : Int32))), .val (.int (1 : Int32)), .val (.int my17), .unset, .unset] [(.int (f31 my17 (0 : Int32) (0 : Int32)))])
        refine C19.istore at_146 rfl (L' := #[.val (.int i0), .val (.int i1), .val (.int i2), .val (.int i3), .val (.ref b1), .val (.ref b3), .val (.ref b5), .val (.ref b7), .val (.int (0 : Int32)), .val (.int (f31 (0 : Int32) (0 : Int32) (0 : Int32))), .val (.int (1 : Int32)), .val (.int my17), .val (.int (f31 my17 (0 : Int32) (0 : Int32))), .unset]) rfl ?_
        refine C19.aload at_148 rfl rfl rfl ?_
        refine C19.callV (hw _ (List.mem_of_getElem? (i := 244) rfl)) (hw _ (List.mem_of_getElem? (i := 245) rfl)) (hw _ (List.mem_of_getElem? (i := 247) rfl)) (hw _ (List.mem_of_getElem? (i := 246) rfl)) (hw _ (List.mem_of_getElem? (i := 2) rfl)) (hw _ (List.mem_of_getElem? (i := 248) rfl)) E_b1 (by decide) (a := b1) (rm32 l Z a0 hw b1 (0 : Int32) h19 n0 C19.size F_b1_deltaStart) (argsL := []) pd32 rfl 0 (by decide) (by decide) (by decide) (by decide) (rest := []) rfl rfl (Nat.le_of_eq rfl) at_150 rfl (fun v20 T20 h20 C20 qq20 => ?_)
        obtain ⟨rfl, hh20⟩ := qq20
        have hh20 := hh20.symm; subst hh20
        show Go p e below F n0 (fun v _ => v = some (.int (1 : Int32))) T20 (mkF m 153 #[.val (.int i0), .val (.int i1), .val (.int i2), .val (.int i3), .val (.ref b1), .val (.ref b3), .val (.ref b5), .val (.ref b7), .val (.int (0 : Int32)), .val (.int (f31 (0 : Int32) (0 : Int32) (0 : Int32))), .val (.int (1 : Int32)), .val (.int my17), .val (.int (f31 my17 (0 : Int32) (0 : Int32))), .unset] [(.int (0 : Int32))])
        refine C20.iload at_153 rfl rfl ?_
        refine C20.icmp_ne at_155 (by decide) (by decide : _ = 189) rfl (fun q => absurd (by decide) q) (fun _ => ?_)
        refine C20.aload at_158 rfl rfl rfl ?_
        refine C20.callV (hw _ (List.mem_of_getElem? (i := 249) rfl)) (hw _ (List.mem_of_getElem? (i := 250) rfl)) (hw _ (List.mem_of_getElem? (i := 252) rfl)) (hw _ (List.mem_of_getElem? (i := 251) rfl)) (hw _ (List.mem_of_getElem? (i := 2) rfl)) (hw _ (List.mem_of_getElem? (i := 253) rfl)) E_b1 (by decide) (a := b1) (rm33 l Z a0 hw b1 my17 h19 n0 C20.size F_b1_deltaEnd) (argsL := []) pd33 rfl 0 (by decide) (by decide) (by decide) (by decide) (rest := []) rfl rfl (Nat.le_of_eq rfl) at_160 rfl (fun v21 T21 h21 C21 qq21 => ?_)
        obtain ⟨rfl, hh21⟩ := qq21
        have hh21 := hh21.symm; subst hh21
        show Go p e below F n0 (fun v _ => v = some (.int (1 : Int32))) T21 (mkF m 163 #[.val (.int i0), .val (.int i1), .val (.int i2), .val (.int i3), .val (.ref b1), .val (.ref b3), .val (.ref b5), .val (.ref b7), .val (.int (0 : Int32)), .val (.int (f31 (0 : Int32) (0 : Int32) (0 : Int32))), .val (.int (1 : Int32)), .val (.int my17), .val (.int (f31 my17 (0 : Int32) (0 : Int32))), .unset] [(.int my17)])
        refine C21.iload at_163 rfl rfl ?_
        refine C21.icmp_ne at_165 (by decide) (by decide : _ = 189) rfl (fun q => absurd rfl q) (fun _ => ?_)
        refine C21.iload at_168 rfl rfl ?_
        refine C21.iload at_170 rfl rfl ?_
        refine C21.iload at_172 rfl rfl ?_
        refine C21.icmp_ge at_174 (by decide) (by decide : _ = 181) rfl (fun c174 => ?_) (fun c174 => ?_)
        · refine C21.iconst (0 : Int32) at_181 rfl rfl ?_
          refine C21.icmp_ne at_182 (by decide) (by decide : _ = 189) rfl (fun q => absurd (by rw [f31, if_neg c174]) q) (fun _ => ?_)
          refine C21.iconst (1 : Int32) at_185 rfl rfl ?_
          refine C21.goto at_186 (by decide) (by decide : _ = 190) ?_
          refine C21.istore at_190 rfl (L' := #[.val (.int i0), .val (.int i1), .val (.int i2), .val (.int i3), .val (.ref b1), .val (.ref b3), .val (.ref b5), .val (.ref b7), .val (.int (0 : Int32)), .val (.int (f31 (0 : Int32) (0 : Int32) (0 : Int32))), .val (.int (1 : Int32)), .val (.int my17), .val (.int (f31 my17 (0 : Int32) (0 : Int32))), .val (.int (1 : Int32))]) rfl ?_
          refine C21.iload at_192 rfl rfl ?_
          refine C21.if_eq at_194 (by decide) (by decide : _ = 206) rfl (fun q => absurd q (by decide)) (fun _ => ?_)
          refine C21.iload at_197 rfl rfl ?_
          refine C21.if_eq at_199 (by decide) (by decide : _ = 206) rfl (fun q => absurd q (by decide)) (fun _ => ?_)
          refine C21.iconst (1 : Int32) at_202 rfl rfl ?_
          refine C21.goto at_203 (by decide) (by decide : _ = 207) ?_
          exact C21.retN (t := .boolean) at_207 rfl (by simp) (by decide) (by decide) (w := (1 : Int32)) rfl rfl
        · refine C21.iconst (1 : Int32) at_177 rfl rfl ?_
          refine C21.goto at_178 (by decide) (by decide : _ = 182) ?_
          refine C21.icmp_ne at_182 (by decide) (by decide : _ = 189) rfl (fun q => absurd (by rw [f31, if_pos c174]) q) (fun _ => ?_)
          refine C21.iconst (1 : Int32) at_185 rfl rfl ?_
          refine C21.goto at_186 (by decide) (by decide : _ = 190) ?_
          refine C21.istore at_190 rfl (L' := #[.val (.int i0), .val (.int i1), .val (.int i2), .val (.int i3), .val (.ref b1), .val (.ref b3), .val (.ref b5), .val (.ref b7), .val (.int (0 : Int32)), .val (.int (f31 (0 : Int32) (0 : Int32) (0 : Int32))), .val (.int (1 : Int32)), .val (.int my17), .val (.int (f31 my17 (0 : Int32) (0 : Int32))), .val (.int (1 : Int32))]) rfl ?_
          refine C21.iload at_192 rfl rfl ?_
          refine C21.if_eq at_194 (by decide) (by decide : _ = 206) rfl (fun q => absurd q (by decide)) (fun _ => ?_)
          refine C21.iload at_197 rfl rfl ?_
          refine C21.if_eq at_199 (by decide) (by decide : _ = 206) rfl (fun q => absurd q (by decide)) (fun _ => ?_)
          refine C21.iconst (1 : Int32) at_202 rfl rfl ?_
          refine C21.goto at_203 (by decide) (by decide : _ = 207) ?_
          exact C21.retN (t := .boolean) at_207 rfl (by simp) (by decide) (by decide) (w := (1 : Int32)) rfl rfl
    · refine C8.aload at_57 rfl rfl rfl ?_
      refine C8.aload at_59 rfl rfl rfl ?_
      refine C8.callV (hw _ (List.mem_of_getElem? (i := 134) rfl)) (hw _ (List.mem_of_getElem? (i := 135) rfl)) (hw _ (List.mem_of_getElem? (i := 137) rfl)) (hw _ (List.mem_of_getElem? (i := 136) rfl)) (hw _ (List.mem_of_getElem? (i := 2) rfl)) (hw _ (List.mem_of_getElem? (i := 138) rfl)) E_b1 (by decide) (a := b1) (rm17 l Z a0 hw b1 b5 al2 ce2 ix2 ed2 sl2 fi2 la2 nx2 co2 sc2 kce2 ked2 ksl2 kfi2 kla2 knx2 kco2 ksc2 k5 own_z16 own_z8 own_z8 own_z16 own_z16 (0 : Int32) (0 : Int32) i1 (0 : Int32) (0 : Int32) (0 : Int32) h8 n0 C8.size E_b1 F_b1_indexes F_b1_arity F_b1_cells F_b1_unique F_b1_size F_b1_source F_b1_deltaStart F_b1_deltaEnd E_ix2 F_ix2_slots F_ix2_firsts F_ix2_lasts F_ix2_nexts F_ix2_relation F_ix2_columns F_ix2_scratch F_ix2_groups V_sl2 V_fi2 V_la2 V_nx2 V_co2 V_sc2 V_ce2 E_al2 F_al2_modCount F_al2_elementData F_al2_size E_ed2 V_ed2 O_ked2 V_b5 g_b1 g_ce2 g_ix2 g_sc2 g_nx2 g_fi2 g_la2 g_sl2 hinv_2 (own_pre1 i0 i1 i2 i3 de kde lm al2 ce2 ix2 ed2 sl2 fi2 la2 nx2 co2 sc2 kce2 ked2 ksl2 kfi2 kla2 knx2 kco2 ksc2 hinv_2 hC_2 c40 c54) hC_2 ne_sl2_fi2 ne_sl2_la2 ne_sl2_nx2 ne_sl2_co2 ne_sl2_sc2 ne_sl2_ce2 ne_sl2_ed2 ne_fi2_la2 ne_fi2_nx2 ne_fi2_co2 ne_fi2_sc2 ne_fi2_ce2 ne_fi2_ed2 ne_la2_nx2 ne_la2_co2 ne_la2_sc2 ne_la2_ce2 ne_la2_ed2 ne_nx2_co2 ne_nx2_sc2 ne_nx2_ce2 ne_nx2_ed2 ne_co2_sc2 ne_co2_ce2 ne_co2_ed2 ne_sc2_ce2 ne_sc2_ed2 ne_ce2_ed2 (Ne.symm ne_ce2_b5)) (argsL := [(.ref b5)]) pd17 rfl 0 (by decide) (by decide) (by decide) (by decide) (rest := []) rfl rfl (Nat.le_of_eq rfl) at_61 rfl (fun v22 T22 h22 C22 qq22 => ?_)
      obtain ⟨mS22, mF22, mL22, mN22, mC22, mg22, mk22, my22, rr22, rfl, K22, p22_0, p22_1, p22_2, p22_3, p22_4, p22_5, p22_6, p22_7, p22_8, p22_9, p22_10, p22_11, p22_12, p22_13, p22_14, p22_15, p22_16, p22_17, p22_18, p22_19, p22_20, p22_21, p22_22, p22_23, p22_24, p22_25, p22_26⟩ := qq22
      have ne_al2_ce2 : al2 ≠ ce2 := (own_nea E_al2 (hw _ (List.mem_of_getElem? (i := 10) rfl)) V_ce2)
      have ne_al2_ix2 : al2 ≠ ix2 := (ne_exa E_al2 E_ix2 (by decide))
      have ne_al2_sc2 : al2 ≠ sc2 := (own_nea E_al2 (hw _ (List.mem_of_getElem? (i := 10) rfl)) V_sc2)
      have ne_al2_nx2 : al2 ≠ nx2 := (own_nea E_al2 (hw _ (List.mem_of_getElem? (i := 10) rfl)) V_nx2)
      have ne_al2_fi2 : al2 ≠ fi2 := (own_nea E_al2 (hw _ (List.mem_of_getElem? (i := 10) rfl)) V_fi2)
      have ne_al2_la2 : al2 ≠ la2 := (own_nea E_al2 (hw _ (List.mem_of_getElem? (i := 10) rfl)) V_la2)
      have ne_al2_sl2 : al2 ≠ sl2 := (own_nea E_al2 (hw _ (List.mem_of_getElem? (i := 10) rfl)) V_sl2)
      have ne_co2_ix2 : co2 ≠ ix2 := (Ne.symm (own_nea E_ix2 (hw _ (List.mem_of_getElem? (i := 61) rfl)) V_co2))
      have ne_ed2_ix2 : ed2 ≠ ix2 := (ne_exa E_ed2 E_ix2 (by decide))
      have E_b1 := E_b1.keep K22
      have E_ix2 := E_ix2.keep K22
      have E_al2 := E_al2.keep K22
      have F_al2_modCount := F_al2_modCount.keep K22 (ninS (Ne.symm ne_b1_al2) (ninS ne_al2_ce2 (ninS ne_al2_ix2 (ninS ne_al2_sc2 (ninS ne_al2_nx2 (ninS ne_al2_fi2 (ninS ne_al2_la2 (ninS ne_al2_sl2 nin0))))))))
      have F_al2_elementData := F_al2_elementData.keep K22 (ninS (Ne.symm ne_b1_al2) (ninS ne_al2_ce2 (ninS ne_al2_ix2 (ninS ne_al2_sc2 (ninS ne_al2_nx2 (ninS ne_al2_fi2 (ninS ne_al2_la2 (ninS ne_al2_sl2 nin0))))))))
      have F_al2_size := F_al2_size.keep K22 (ninS (Ne.symm ne_b1_al2) (ninS ne_al2_ce2 (ninS ne_al2_ix2 (ninS ne_al2_sc2 (ninS ne_al2_nx2 (ninS ne_al2_fi2 (ninS ne_al2_la2 (ninS ne_al2_sl2 nin0))))))))
      have V_co2 := V_co2.keep K22 (ninS (Ne.symm ne_b1_co2) (ninS ne_co2_ce2 (ninS ne_co2_ix2 (ninS ne_co2_sc2 (ninS (Ne.symm ne_nx2_co2) (ninS (Ne.symm ne_fi2_co2) (ninS (Ne.symm ne_la2_co2) (ninS (Ne.symm ne_sl2_co2) nin0))))))))
      have E_ed2 := E_ed2.keep K22
      have V_ed2 := V_ed2.keep K22 (ninS (Ne.symm ne_b1_ed2) (ninS (Ne.symm ne_ce2_ed2) (ninS ne_ed2_ix2 (ninS (Ne.symm ne_sc2_ed2) (ninS (Ne.symm ne_nx2_ed2) (ninS (Ne.symm ne_fi2_ed2) (ninS (Ne.symm ne_la2_ed2) (ninS (Ne.symm ne_sl2_ed2) nin0))))))))
      have V_b3 := V_b3.keep K22 (ninS (Ne.symm ne_b1_b3) (ninS (Ne.symm ne_ce2_b3) (ninS (Ne.symm ne_ix2_b3) (ninS (Ne.symm ne_sc2_b3) (ninS (Ne.symm ne_nx2_b3) (ninS (Ne.symm ne_fi2_b3) (ninS (Ne.symm ne_la2_b3) (ninS (Ne.symm ne_sl2_b3) nin0))))))))
      have V_b5 := V_b5.keep K22 (ninS (Ne.symm ne_b1_b5) (ninS (Ne.symm ne_ce2_b5) (ninS (Ne.symm ne_ix2_b5) (ninS (Ne.symm ne_sc2_b5) (ninS (Ne.symm ne_nx2_b5) (ninS (Ne.symm ne_fi2_b5) (ninS (Ne.symm ne_la2_b5) (ninS (Ne.symm ne_sl2_b5) nin0))))))))
      have V_b7 := V_b7.keep K22 (ninS (Ne.symm ne_b1_b7) (ninS (Ne.symm ne_ce2_b7) (ninS (Ne.symm ne_ix2_b7) (ninS (Ne.symm ne_sc2_b7) (ninS (Ne.symm ne_nx2_b7) (ninS (Ne.symm ne_fi2_b7) (ninS (Ne.symm ne_la2_b7) (ninS (Ne.symm ne_sl2_b7) nin0))))))))
      have E_b1 := p22_0
      have F_b1_indexes := p22_1
      have F_b1_arity := p22_2
      have F_b1_cells := p22_3
      have F_b1_unique := p22_4
      have F_b1_size := p22_5
      have F_b1_source := p22_6
      have F_b1_deltaStart := p22_7
      have F_b1_deltaEnd := p22_8
      have E_ix2 := p22_9
      have F_ix2_slots := p22_10
      have F_ix2_firsts := p22_11
      have F_ix2_lasts := p22_12
      have F_ix2_nexts := p22_13
      have F_ix2_relation := p22_14
      have F_ix2_columns := p22_15
      have F_ix2_scratch := p22_16
      have F_ix2_groups := p22_17
      have V_sl2 := p22_18
      have V_fi2 := p22_19
      have V_la2 := p22_20
      have V_nx2 := p22_21
      have V_sc2 := p22_22
      have V_ce2 := p22_23
      have hinv_22 := p22_24
      have hC_22 := p22_25
      have hle_22 := p22_26
      show Go p e below F n0 (fun v _ => v = some (.int (1 : Int32))) T22 (mkF m 64 #[.val (.int i0), .val (.int i1), .val (.int i2), .val (.int i3), .val (.ref b1), .val (.ref b3), .val (.ref b5), .val (.ref b7), .unset, .unset, .unset, .unset, .unset, .unset] [(.int rr22)])
      refine C22.pop at_64 rfl rfl ?_
      refine C22.aload at_65 rfl rfl rfl ?_
      refine C22.callV (hw _ (List.mem_of_getElem? (i := 234) rfl)) (hw _ (List.mem_of_getElem? (i := 91) rfl)) (hw _ (List.mem_of_getElem? (i := 93) rfl)) (hw _ (List.mem_of_getElem? (i := 92) rfl)) (hw _ (List.mem_of_getElem? (i := 2) rfl)) (hw _ (List.mem_of_getElem? (i := 94) rfl)) E_b1 (by decide) (a := b1) (rm11 l Z a0 hw b1 my22 h22 n0 C22.size F_b1_size) (argsL := []) pd11 rfl 0 (by decide) (by decide) (by decide) (by decide) (rest := []) rfl rfl (Nat.le_of_eq rfl) at_67 rfl (fun v23 T23 h23 C23 qq23 => ?_)
      obtain ⟨rfl, hh23⟩ := qq23
      have hh23 := hh23.symm; subst hh23
      show Go p e below F n0 (fun v _ => v = some (.int (1 : Int32))) T23 (mkF m 70 #[.val (.int i0), .val (.int i1), .val (.int i2), .val (.int i3), .val (.ref b1), .val (.ref b3), .val (.ref b5), .val (.ref b7), .unset, .unset, .unset, .unset, .unset, .unset] [(.int my22)])
      refine C23.istore at_70 rfl (L' := #[.val (.int i0), .val (.int i1), .val (.int i2), .val (.int i3), .val (.ref b1), .val (.ref b3), .val (.ref b5), .val (.ref b7), .val (.int my22), .unset, .unset, .unset, .unset, .unset]) rfl ?_
      refine C23.aload at_72 rfl rfl rfl ?_
      refine C23.callV (hw _ (List.mem_of_getElem? (i := 235) rfl)) (hw _ (List.mem_of_getElem? (i := 236) rfl)) (hw _ (List.mem_of_getElem? (i := 238) rfl)) (hw _ (List.mem_of_getElem? (i := 237) rfl)) (hw _ (List.mem_of_getElem? (i := 2) rfl)) (hw _ (List.mem_of_getElem? (i := 239) rfl)) E_b1 (by decide) (a := b1) (rm31 l Z a0 hw b1 al2 ce2 ix2 my22 (0 : Int32) (0 : Int32) h22 n0 C23.size E_b1 F_b1_indexes F_b1_arity F_b1_cells F_b1_unique F_b1_size F_b1_source F_b1_deltaStart F_b1_deltaEnd g_b1) (argsL := []) pd31 rfl 0 (by decide) (by decide) (by decide) (by decide) (rest := []) rfl rfl (Nat.le_of_eq rfl) at_74 rfl (fun v24 T24 h24 C24 qq24 => ?_)
      obtain ⟨rfl, K24, p24_0, p24_1, p24_2, p24_3, p24_4, p24_5, p24_6, p24_7, p24_8⟩ := qq24
      have E_b1 := E_b1.keep K24
      have E_ix2 := E_ix2.keep K24
      have E_al2 := E_al2.keep K24
      have F_al2_modCount := F_al2_modCount.keep K24 (ninS (Ne.symm ne_b1_al2) nin0)
      have F_al2_elementData := F_al2_elementData.keep K24 (ninS (Ne.symm ne_b1_al2) nin0)
      have F_al2_size := F_al2_size.keep K24 (ninS (Ne.symm ne_b1_al2) nin0)
      have V_co2 := V_co2.keep K24 (ninS (Ne.symm ne_b1_co2) nin0)
      have E_ed2 := E_ed2.keep K24
      have V_ed2 := V_ed2.keep K24 (ninS (Ne.symm ne_b1_ed2) nin0)
      have V_b3 := V_b3.keep K24 (ninS (Ne.symm ne_b1_b3) nin0)
      have V_b5 := V_b5.keep K24 (ninS (Ne.symm ne_b1_b5) nin0)
      have V_b7 := V_b7.keep K24 (ninS (Ne.symm ne_b1_b7) nin0)
      have F_ix2_slots := F_ix2_slots.keep K24 (ninS (Ne.symm ne_b1_ix2) nin0)
      have F_ix2_firsts := F_ix2_firsts.keep K24 (ninS (Ne.symm ne_b1_ix2) nin0)
      have F_ix2_lasts := F_ix2_lasts.keep K24 (ninS (Ne.symm ne_b1_ix2) nin0)
      have F_ix2_nexts := F_ix2_nexts.keep K24 (ninS (Ne.symm ne_b1_ix2) nin0)
      have F_ix2_relation := F_ix2_relation.keep K24 (ninS (Ne.symm ne_b1_ix2) nin0)
      have F_ix2_columns := F_ix2_columns.keep K24 (ninS (Ne.symm ne_b1_ix2) nin0)
      have F_ix2_scratch := F_ix2_scratch.keep K24 (ninS (Ne.symm ne_b1_ix2) nin0)
      have F_ix2_groups := F_ix2_groups.keep K24 (ninS (Ne.symm ne_b1_ix2) nin0)
      have V_sl2 := V_sl2.keep K24 (ninS (Ne.symm ne_b1_sl2) nin0)
      have V_fi2 := V_fi2.keep K24 (ninS (Ne.symm ne_b1_fi2) nin0)
      have V_la2 := V_la2.keep K24 (ninS (Ne.symm ne_b1_la2) nin0)
      have V_nx2 := V_nx2.keep K24 (ninS (Ne.symm ne_b1_nx2) nin0)
      have V_sc2 := V_sc2.keep K24 (ninS (Ne.symm ne_b1_sc2) nin0)
      have V_ce2 := V_ce2.keep K24 (ninS (Ne.symm ne_b1_ce2) nin0)
      have E_b1 := p24_0
      have F_b1_indexes := p24_1
      have F_b1_arity := p24_2
      have F_b1_cells := p24_3
      have F_b1_unique := p24_4
      have F_b1_size := p24_5
      have F_b1_source := p24_6
      have F_b1_deltaStart := p24_7
      have F_b1_deltaEnd := p24_8
      show Go p e below F n0 (fun v _ => v = some (.int (1 : Int32))) T24 (mkF m 77 #[.val (.int i0), .val (.int i1), .val (.int i2), .val (.int i3), .val (.ref b1), .val (.ref b3), .val (.ref b5), .val (.ref b7), .val (.int my22), .unset, .unset, .unset, .unset, .unset] [(.int (f31 my22 (0 : Int32) (0 : Int32)))])
      refine C24.istore at_77 rfl (L' := #[.val (.int i0), .val (.int i1), .val (.int i2), .val (.int i3), .val (.ref b1), .val (.ref b3), .val (.ref b5), .val (.ref b7), .val (.int my22), .val (.int (f31 my22 (0 : Int32) (0 : Int32))), .unset, .unset, .unset, .unset]) rfl ?_
      refine C24.aload at_79 rfl rfl rfl ?_
      refine C24.callV (hw _ (List.mem_of_getElem? (i := 244) rfl)) (hw _ (List.mem_of_getElem? (i := 245) rfl)) (hw _ (List.mem_of_getElem? (i := 247) rfl)) (hw _ (List.mem_of_getElem? (i := 246) rfl)) (hw _ (List.mem_of_getElem? (i := 2) rfl)) (hw _ (List.mem_of_getElem? (i := 248) rfl)) E_b1 (by decide) (a := b1) (rm32 l Z a0 hw b1 (0 : Int32) h24 n0 C24.size F_b1_deltaStart) (argsL := []) pd32 rfl 0 (by decide) (by decide) (by decide) (by decide) (rest := []) rfl rfl (Nat.le_of_eq rfl) at_81 rfl (fun v25 T25 h25 C25 qq25 => ?_)
      obtain ⟨rfl, hh25⟩ := qq25
      have hh25 := hh25.symm; subst hh25
      show Go p e below F n0 (fun v _ => v = some (.int (1 : Int32))) T25 (mkF m 84 #[.val (.int i0), .val (.int i1), .val (.int i2), .val (.int i3), .val (.ref b1), .val (.ref b3), .val (.ref b5), .val (.ref b7), .val (.int my22), .val (.int (f31 my22 (0 : Int32) (0 : Int32))), .unset, .unset, .unset, .unset] [(.int (0 : Int32))])
      refine C25.if_ne at_84 (by decide) (by decide : _ = 117) rfl (fun q => absurd (by decide) q) (fun _ => ?_)
      refine C25.aload at_87 rfl rfl rfl ?_
      refine C25.callV (hw _ (List.mem_of_getElem? (i := 249) rfl)) (hw _ (List.mem_of_getElem? (i := 250) rfl)) (hw _ (List.mem_of_getElem? (i := 252) rfl)) (hw _ (List.mem_of_getElem? (i := 251) rfl)) (hw _ (List.mem_of_getElem? (i := 2) rfl)) (hw _ (List.mem_of_getElem? (i := 253) rfl)) E_b1 (by decide) (a := b1) (rm33 l Z a0 hw b1 my22 h24 n0 C25.size F_b1_deltaEnd) (argsL := []) pd33 rfl 0 (by decide) (by decide) (by decide) (by decide) (rest := []) rfl rfl (Nat.le_of_eq rfl) at_89 rfl (fun v26 T26 h26 C26 qq26 => ?_)
      obtain ⟨rfl, hh26⟩ := qq26
      have hh26 := hh26.symm; subst hh26
      show Go p e below F n0 (fun v _ => v = some (.int (1 : Int32))) T26 (mkF m 92 #[.val (.int i0), .val (.int i1), .val (.int i2), .val (.int i3), .val (.ref b1), .val (.ref b3), .val (.ref b5), .val (.ref b7), .val (.int my22), .val (.int (f31 my22 (0 : Int32) (0 : Int32))), .unset, .unset, .unset, .unset] [(.int my22)])
      refine C26.iload at_92 rfl rfl ?_
      refine C26.icmp_ne at_94 (by decide) (by decide : _ = 117) rfl (fun q => absurd rfl q) (fun _ => ?_)
      refine C26.iload at_97 rfl rfl ?_
      refine C26.iconst (0 : Int32) at_99 rfl rfl ?_
      refine C26.iload at_100 rfl rfl ?_
      refine C26.icmp_ge at_102 (by decide) (by decide : _ = 109) rfl (fun c102 => ?_) (fun c102 => ?_)
      · refine C26.iconst (0 : Int32) at_109 rfl rfl ?_
        refine C26.icmp_ne at_110 (by decide) (by decide : _ = 117) rfl (fun q => absurd (by rw [f31, if_neg c102]) q) (fun _ => ?_)
        refine C26.iconst (1 : Int32) at_113 rfl rfl ?_
        refine C26.goto at_114 (by decide) (by decide : _ = 118) ?_
        refine C26.istore at_118 rfl (L' := #[.val (.int i0), .val (.int i1), .val (.int i2), .val (.int i3), .val (.ref b1), .val (.ref b3), .val (.ref b5), .val (.ref b7), .val (.int my22), .val (.int (f31 my22 (0 : Int32) (0 : Int32))), .val (.int (1 : Int32)), .unset, .unset, .unset]) rfl ?_
        refine C26.iloadN at_120 rfl rfl ?_
        refine C26.iconst (4 : Int32) at_121 rfl rfl ?_
        refine C26.iand at_122 rfl ?_
        refine C26.if_eq at_123 (by decide) (by decide : _ = 134) rfl (fun c123 => ?_) (fun c123 => ?_)
        · refine C26.aload at_134 rfl rfl rfl ?_
          refine C26.callV (hw _ (List.mem_of_getElem? (i := 234) rfl)) (hw _ (List.mem_of_getElem? (i := 91) rfl)) (hw _ (List.mem_of_getElem? (i := 93) rfl)) (hw _ (List.mem_of_getElem? (i := 92) rfl)) (hw _ (List.mem_of_getElem? (i := 2) rfl)) (hw _ (List.mem_of_getElem? (i := 94) rfl)) E_b1 (by decide) (a := b1) (rm11 l Z a0 hw b1 my22 h24 n0 C26.size F_b1_size) (argsL := []) pd11 rfl 0 (by decide) (by decide) (by decide) (by decide) (rest := []) rfl rfl (Nat.le_of_eq rfl) at_136 rfl (fun v27 T27 h27 C27 qq27 => ?_)
          obtain ⟨rfl, hh27⟩ := qq27
          have hh27 := hh27.symm; subst hh27
          show Go p e below F n0 (fun v _ => v = some (.int (1 : Int32))) T27 (mkF m 139 #[.val (.int i0), .val (.int i1), .val (.int i2), .val (.int i3), .val (.ref b1), .val (.ref b3), .val (.ref b5), .val (.ref b7), .val (.int my22), .val (.int (f31 my22 (0 : Int32) (0 : Int32))), .val (.int (1 : Int32)), .unset, .unset, .unset] [(.int my22)])
          refine C27.istore at_139 rfl (L' := #[.val (.int i0), .val (.int i1), .val (.int i2), .val (.int i3), .val (.ref b1), .val (.ref b3), .val (.ref b5), .val (.ref b7), .val (.int my22), .val (.int (f31 my22 (0 : Int32) (0 : Int32))), .val (.int (1 : Int32)), .val (.int my22), .unset, .unset]) rfl ?_
          refine C27.aload at_141 rfl rfl rfl ?_
          refine C27.callV (hw _ (List.mem_of_getElem? (i := 235) rfl)) (hw _ (List.mem_of_getElem? (i := 236) rfl)) (hw _ (List.mem_of_getElem? (i := 238) rfl)) (hw _ (List.mem_of_getElem? (i := 237) rfl)) (hw _ (List.mem_of_getElem? (i := 2) rfl)) (hw _ (List.mem_of_getElem? (i := 239) rfl)) E_b1 (by decide) (a := b1) (rm31 l Z a0 hw b1 al2 ce2 ix2 my22 (0 : Int32) my22 h24 n0 C27.size E_b1 F_b1_indexes F_b1_arity F_b1_cells F_b1_unique F_b1_size F_b1_source F_b1_deltaStart F_b1_deltaEnd g_b1) (argsL := []) pd31 rfl 0 (by decide) (by decide) (by decide) (by decide) (rest := []) rfl rfl (Nat.le_of_eq rfl) at_143 rfl (fun v28 T28 h28 C28 qq28 => ?_)
          obtain ⟨rfl, K28, p28_0, p28_1, p28_2, p28_3, p28_4, p28_5, p28_6, p28_7, p28_8⟩ := qq28
          have E_b1 := E_b1.keep K28
          have E_ix2 := E_ix2.keep K28
          have E_al2 := E_al2.keep K28
          have F_al2_modCount := F_al2_modCount.keep K28 (ninS (Ne.symm ne_b1_al2) nin0)
          have F_al2_elementData := F_al2_elementData.keep K28 (ninS (Ne.symm ne_b1_al2) nin0)
          have F_al2_size := F_al2_size.keep K28 (ninS (Ne.symm ne_b1_al2) nin0)
          have V_co2 := V_co2.keep K28 (ninS (Ne.symm ne_b1_co2) nin0)
          have E_ed2 := E_ed2.keep K28
          have V_ed2 := V_ed2.keep K28 (ninS (Ne.symm ne_b1_ed2) nin0)
          have V_b3 := V_b3.keep K28 (ninS (Ne.symm ne_b1_b3) nin0)
          have V_b5 := V_b5.keep K28 (ninS (Ne.symm ne_b1_b5) nin0)
          have V_b7 := V_b7.keep K28 (ninS (Ne.symm ne_b1_b7) nin0)
          have F_ix2_slots := F_ix2_slots.keep K28 (ninS (Ne.symm ne_b1_ix2) nin0)
          have F_ix2_firsts := F_ix2_firsts.keep K28 (ninS (Ne.symm ne_b1_ix2) nin0)
          have F_ix2_lasts := F_ix2_lasts.keep K28 (ninS (Ne.symm ne_b1_ix2) nin0)
          have F_ix2_nexts := F_ix2_nexts.keep K28 (ninS (Ne.symm ne_b1_ix2) nin0)
          have F_ix2_relation := F_ix2_relation.keep K28 (ninS (Ne.symm ne_b1_ix2) nin0)
          have F_ix2_columns := F_ix2_columns.keep K28 (ninS (Ne.symm ne_b1_ix2) nin0)
          have F_ix2_scratch := F_ix2_scratch.keep K28 (ninS (Ne.symm ne_b1_ix2) nin0)
          have F_ix2_groups := F_ix2_groups.keep K28 (ninS (Ne.symm ne_b1_ix2) nin0)
          have V_sl2 := V_sl2.keep K28 (ninS (Ne.symm ne_b1_sl2) nin0)
          have V_fi2 := V_fi2.keep K28 (ninS (Ne.symm ne_b1_fi2) nin0)
          have V_la2 := V_la2.keep K28 (ninS (Ne.symm ne_b1_la2) nin0)
          have V_nx2 := V_nx2.keep K28 (ninS (Ne.symm ne_b1_nx2) nin0)
          have V_sc2 := V_sc2.keep K28 (ninS (Ne.symm ne_b1_sc2) nin0)
          have V_ce2 := V_ce2.keep K28 (ninS (Ne.symm ne_b1_ce2) nin0)
          have E_b1 := p28_0
          have F_b1_indexes := p28_1
          have F_b1_arity := p28_2
          have F_b1_cells := p28_3
          have F_b1_unique := p28_4
          have F_b1_size := p28_5
          have F_b1_source := p28_6
          have F_b1_deltaStart := p28_7
          have F_b1_deltaEnd := p28_8
          show Go p e below F n0 (fun v _ => v = some (.int (1 : Int32))) T28 (mkF m 146 #[.val (.int i0), .val (.int i1), .val (.int i2), .val (.int i3), .val (.ref b1), .val (.ref b3), .val (.ref b5), .val (.ref b7), .val (.int my22), .val (.int (f31 my22 (0 : Int32) (0 : Int32))), .val (.int (1 : Int32)), .val (.int my22), .unset, .unset] [(.int (f31 my22 (0 : Int32) my22))])
          refine C28.istore at_146 rfl (L' := #[.val (.int i0), .val (.int i1), .val (.int i2), .val (.int i3), .val (.ref b1), .val (.ref b3), .val (.ref b5), .val (.ref b7), .val (.int my22), .val (.int (f31 my22 (0 : Int32) (0 : Int32))), .val (.int (1 : Int32)), .val (.int my22), .val (.int (f31 my22 (0 : Int32) my22)), .unset]) rfl ?_
          refine C28.aload at_148 rfl rfl rfl ?_
          refine C28.callV (hw _ (List.mem_of_getElem? (i := 244) rfl)) (hw _ (List.mem_of_getElem? (i := 245) rfl)) (hw _ (List.mem_of_getElem? (i := 247) rfl)) (hw _ (List.mem_of_getElem? (i := 246) rfl)) (hw _ (List.mem_of_getElem? (i := 2) rfl)) (hw _ (List.mem_of_getElem? (i := 248) rfl)) E_b1 (by decide) (a := b1) (rm32 l Z a0 hw b1 my22 h28 n0 C28.size F_b1_deltaStart) (argsL := []) pd32 rfl 0 (by decide) (by decide) (by decide) (by decide) (rest := []) rfl rfl (Nat.le_of_eq rfl) at_150 rfl (fun v29 T29 h29 C29 qq29 => ?_)
          obtain ⟨rfl, hh29⟩ := qq29
          have hh29 := hh29.symm; subst hh29
          show Go p e below F n0 (fun v _ => v = some (.int (1 : Int32))) T29 (mkF m 153 #[.val (.int i0), .val (.int i1), .val (.int i2), .val (.int i3), .val (.ref b1), .val (.ref b3), .val (.ref b5), .val (.ref b7), .val (.int my22), .val (.int (f31 my22 (0 : Int32) (0 : Int32))), .val (.int (1 : Int32)), .val (.int my22), .val (.int (f31 my22 (0 : Int32) my22)), .unset] [(.int my22)])
          refine C29.iload at_153 rfl rfl ?_
          refine C29.icmp_ne at_155 (by decide) (by decide : _ = 189) rfl (fun q => absurd rfl q) (fun _ => ?_)
          refine C29.aload at_158 rfl rfl rfl ?_
          refine C29.callV (hw _ (List.mem_of_getElem? (i := 249) rfl)) (hw _ (List.mem_of_getElem? (i := 250) rfl)) (hw _ (List.mem_of_getElem? (i := 252) rfl)) (hw _ (List.mem_of_getElem? (i := 251) rfl)) (hw _ (List.mem_of_getElem? (i := 2) rfl)) (hw _ (List.mem_of_getElem? (i := 253) rfl)) E_b1 (by decide) (a := b1) (rm33 l Z a0 hw b1 my22 h28 n0 C29.size F_b1_deltaEnd) (argsL := []) pd33 rfl 0 (by decide) (by decide) (by decide) (by decide) (rest := []) rfl rfl (Nat.le_of_eq rfl) at_160 rfl (fun v30 T30 h30 C30 qq30 => ?_)
          obtain ⟨rfl, hh30⟩ := qq30
          have hh30 := hh30.symm; subst hh30
          show Go p e below F n0 (fun v _ => v = some (.int (1 : Int32))) T30 (mkF m 163 #[.val (.int i0), .val (.int i1), .val (.int i2), .val (.int i3), .val (.ref b1), .val (.ref b3), .val (.ref b5), .val (.ref b7), .val (.int my22), .val (.int (f31 my22 (0 : Int32) (0 : Int32))), .val (.int (1 : Int32)), .val (.int my22), .val (.int (f31 my22 (0 : Int32) my22)), .unset] [(.int my22)])
          refine C30.iload at_163 rfl rfl ?_
          refine C30.icmp_ne at_165 (by decide) (by decide : _ = 189) rfl (fun q => absurd rfl q) (fun _ => ?_)
          refine C30.iload at_168 rfl rfl ?_
          refine C30.iload at_170 rfl rfl ?_
          refine C30.iload at_172 rfl rfl ?_
          refine C30.icmp_ge at_174 (by decide) (by decide : _ = 181) rfl (fun c174 => ?_) (fun c174 => ?_)
          · refine C30.iconst (0 : Int32) at_181 rfl rfl ?_
            refine C30.icmp_ne at_182 (by decide) (by decide : _ = 189) rfl (fun q => absurd (by rw [f31, if_neg c174]) q) (fun _ => ?_)
            refine C30.iconst (1 : Int32) at_185 rfl rfl ?_
            refine C30.goto at_186 (by decide) (by decide : _ = 190) ?_
            refine C30.istore at_190 rfl (L' := #[.val (.int i0), .val (.int i1), .val (.int i2), .val (.int i3), .val (.ref b1), .val (.ref b3), .val (.ref b5), .val (.ref b7), .val (.int my22), .val (.int (f31 my22 (0 : Int32) (0 : Int32))), .val (.int (1 : Int32)), .val (.int my22), .val (.int (f31 my22 (0 : Int32) my22)), .val (.int (1 : Int32))]) rfl ?_
            refine C30.iload at_192 rfl rfl ?_
            refine C30.if_eq at_194 (by decide) (by decide : _ = 206) rfl (fun q => absurd q (by decide)) (fun _ => ?_)
            refine C30.iload at_197 rfl rfl ?_
            refine C30.if_eq at_199 (by decide) (by decide : _ = 206) rfl (fun q => absurd q (by decide)) (fun _ => ?_)
            refine C30.iconst (1 : Int32) at_202 rfl rfl ?_
            refine C30.goto at_203 (by decide) (by decide : _ = 207) ?_
            exact C30.retN (t := .boolean) at_207 rfl (by simp) (by decide) (by decide) (w := (1 : Int32)) rfl rfl
          · refine C30.iconst (1 : Int32) at_177 rfl rfl ?_
            refine C30.goto at_178 (by decide) (by decide : _ = 182) ?_
            refine C30.icmp_ne at_182 (by decide) (by decide : _ = 189) rfl (fun q => absurd (by rw [f31, if_pos c174]) q) (fun _ => ?_)
            refine C30.iconst (1 : Int32) at_185 rfl rfl ?_
            refine C30.goto at_186 (by decide) (by decide : _ = 190) ?_
            refine C30.istore at_190 rfl (L' := #[.val (.int i0), .val (.int i1), .val (.int i2), .val (.int i3), .val (.ref b1), .val (.ref b3), .val (.ref b5), .val (.ref b7), .val (.int my22), .val (.int (f31 my22 (0 : Int32) (0 : Int32))), .val (.int (1 : Int32)), .val (.int my22), .val (.int (f31 my22 (0 : Int32) my22)), .val (.int (1 : Int32))]) rfl ?_
            refine C30.iload at_192 rfl rfl ?_
            refine C30.if_eq at_194 (by decide) (by decide : _ = 206) rfl (fun q => absurd q (by decide)) (fun _ => ?_)
            refine C30.iload at_197 rfl rfl ?_
            refine C30.if_eq at_199 (by decide) (by decide : _ = 206) rfl (fun q => absurd q (by decide)) (fun _ => ?_)
            refine C30.iconst (1 : Int32) at_202 rfl rfl ?_
            refine C30.goto at_203 (by decide) (by decide : _ = 207) ?_
            exact C30.retN (t := .boolean) at_207 rfl (by simp) (by decide) (by decide) (w := (1 : Int32)) rfl rfl
        · refine C26.aload at_126 rfl rfl rfl ?_
          refine C26.aload at_128 rfl rfl rfl ?_
          refine C26.callV (hw _ (List.mem_of_getElem? (i := 134) rfl)) (hw _ (List.mem_of_getElem? (i := 135) rfl)) (hw _ (List.mem_of_getElem? (i := 137) rfl)) (hw _ (List.mem_of_getElem? (i := 136) rfl)) (hw _ (List.mem_of_getElem? (i := 2) rfl)) (hw _ (List.mem_of_getElem? (i := 138) rfl)) E_b1 (by decide) (a := b1) (rm17 l Z a0 hw b1 b7 al2 ce2 ix2 ed2 sl2 fi2 la2 nx2 co2 sc2 kce2 ked2 ksl2 kfi2 kla2 knx2 kco2 ksc2 k7 mS22 mF22 mL22 mN22 mC22 mg22 mk22 i2 my22 (0 : Int32) my22 h24 n0 C26.size E_b1 F_b1_indexes F_b1_arity F_b1_cells F_b1_unique F_b1_size F_b1_source F_b1_deltaStart F_b1_deltaEnd E_ix2 F_ix2_slots F_ix2_firsts F_ix2_lasts F_ix2_nexts F_ix2_relation F_ix2_columns F_ix2_scratch F_ix2_groups V_sl2 V_fi2 V_la2 V_nx2 V_co2 V_sc2 V_ce2 E_al2 F_al2_modCount F_al2_elementData F_al2_size E_ed2 V_ed2 O_ked2 V_b7 g_b1 g_ce2 g_ix2 g_sc2 g_nx2 g_fi2 g_la2 g_sl2 hinv_22 (own_pre2 i0 i1 i2 i3 de kde lm al2 ce2 ix2 ed2 sl2 fi2 la2 nx2 co2 sc2 kce2 ked2 ksl2 kfi2 kla2 knx2 kco2 ksc2 mS22 mF22 mL22 mN22 mC22 mg22 mk22 my22 rr22 hinv_2 hC_2 hinv_22 hC_22 hle_22 c40 c54 c102 c123) hC_22 ne_sl2_fi2 ne_sl2_la2 ne_sl2_nx2 ne_sl2_co2 ne_sl2_sc2 ne_sl2_ce2 ne_sl2_ed2 ne_fi2_la2 ne_fi2_nx2 ne_fi2_co2 ne_fi2_sc2 ne_fi2_ce2 ne_fi2_ed2 ne_la2_nx2 ne_la2_co2 ne_la2_sc2 ne_la2_ce2 ne_la2_ed2 ne_nx2_co2 ne_nx2_sc2 ne_nx2_ce2 ne_nx2_ed2 ne_co2_sc2 ne_co2_ce2 ne_co2_ed2 ne_sc2_ce2 ne_sc2_ed2 ne_ce2_ed2 (Ne.symm ne_ce2_b7)) (argsL := [(.ref b7)]) pd17 rfl 0 (by decide) (by decide) (by decide) (by decide) (rest := []) rfl rfl (Nat.le_of_eq rfl) at_130 rfl (fun v31 T31 h31 C31 qq31 => ?_)
          obtain ⟨mS31, mF31, mL31, mN31, mC31, mg31, mk31, my31, rr31, rfl, K31, p31_0, p31_1, p31_2, p31_3, p31_4, p31_5, p31_6, p31_7, p31_8, p31_9, p31_10, p31_11, p31_12, p31_13, p31_14, p31_15, p31_16, p31_17, p31_18, p31_19, p31_20, p31_21, p31_22, p31_23, p31_24, p31_25, p31_26⟩ := qq31
          have E_b1 := E_b1.keep K31
          have E_ix2 := E_ix2.keep K31
          have E_al2 := E_al2.keep K31
          have F_al2_modCount := F_al2_modCount.keep K31 (ninS (Ne.symm ne_b1_al2) (ninS ne_al2_ce2 (ninS ne_al2_ix2 (ninS ne_al2_sc2 (ninS ne_al2_nx2 (ninS ne_al2_fi2 (ninS ne_al2_la2 (ninS ne_al2_sl2 nin0))))))))
          have F_al2_elementData := F_al2_elementData.keep K31 (ninS (Ne.symm ne_b1_al2) (ninS ne_al2_ce2 (ninS ne_al2_ix2 (ninS ne_al2_sc2 (ninS ne_al2_nx2 (ninS ne_al2_fi2 (ninS ne_al2_la2 (ninS ne_al2_sl2 nin0))))))))
          have F_al2_size := F_al2_size.keep K31 (ninS (Ne.symm ne_b1_al2) (ninS ne_al2_ce2 (ninS ne_al2_ix2 (ninS ne_al2_sc2 (ninS ne_al2_nx2 (ninS ne_al2_fi2 (ninS ne_al2_la2 (ninS ne_al2_sl2 nin0))))))))
          have V_co2 := V_co2.keep K31 (ninS (Ne.symm ne_b1_co2) (ninS ne_co2_ce2 (ninS ne_co2_ix2 (ninS ne_co2_sc2 (ninS (Ne.symm ne_nx2_co2) (ninS (Ne.symm ne_fi2_co2) (ninS (Ne.symm ne_la2_co2) (ninS (Ne.symm ne_sl2_co2) nin0))))))))
          have E_ed2 := E_ed2.keep K31
          have V_ed2 := V_ed2.keep K31 (ninS (Ne.symm ne_b1_ed2) (ninS (Ne.symm ne_ce2_ed2) (ninS ne_ed2_ix2 (ninS (Ne.symm ne_sc2_ed2) (ninS (Ne.symm ne_nx2_ed2) (ninS (Ne.symm ne_fi2_ed2) (ninS (Ne.symm ne_la2_ed2) (ninS (Ne.symm ne_sl2_ed2) nin0))))))))
          have V_b3 := V_b3.keep K31 (ninS (Ne.symm ne_b1_b3) (ninS (Ne.symm ne_ce2_b3) (ninS (Ne.symm ne_ix2_b3) (ninS (Ne.symm ne_sc2_b3) (ninS (Ne.symm ne_nx2_b3) (ninS (Ne.symm ne_fi2_b3) (ninS (Ne.symm ne_la2_b3) (ninS (Ne.symm ne_sl2_b3) nin0))))))))
          have V_b5 := V_b5.keep K31 (ninS (Ne.symm ne_b1_b5) (ninS (Ne.symm ne_ce2_b5) (ninS (Ne.symm ne_ix2_b5) (ninS (Ne.symm ne_sc2_b5) (ninS (Ne.symm ne_nx2_b5) (ninS (Ne.symm ne_fi2_b5) (ninS (Ne.symm ne_la2_b5) (ninS (Ne.symm ne_sl2_b5) nin0))))))))
          have V_b7 := V_b7.keep K31 (ninS (Ne.symm ne_b1_b7) (ninS (Ne.symm ne_ce2_b7) (ninS (Ne.symm ne_ix2_b7) (ninS (Ne.symm ne_sc2_b7) (ninS (Ne.symm ne_nx2_b7) (ninS (Ne.symm ne_fi2_b7) (ninS (Ne.symm ne_la2_b7) (ninS (Ne.symm ne_sl2_b7) nin0))))))))
          have E_b1 := p31_0
          have F_b1_indexes := p31_1
          have F_b1_arity := p31_2
          have F_b1_cells := p31_3
          have F_b1_unique := p31_4
          have F_b1_size := p31_5
          have F_b1_source := p31_6
          have F_b1_deltaStart := p31_7
          have F_b1_deltaEnd := p31_8
          have E_ix2 := p31_9
          have F_ix2_slots := p31_10
          have F_ix2_firsts := p31_11
          have F_ix2_lasts := p31_12
          have F_ix2_nexts := p31_13
          have F_ix2_relation := p31_14
          have F_ix2_columns := p31_15
          have F_ix2_scratch := p31_16
          have F_ix2_groups := p31_17
          have V_sl2 := p31_18
          have V_fi2 := p31_19
          have V_la2 := p31_20
          have V_nx2 := p31_21
          have V_sc2 := p31_22
          have V_ce2 := p31_23
          have hinv_31 := p31_24
          have hC_31 := p31_25
          have hle_31 := p31_26
          show Go p e below F n0 (fun v _ => v = some (.int (1 : Int32))) T31 (mkF m 133 #[.val (.int i0), .val (.int i1), .val (.int i2), .val (.int i3), .val (.ref b1), .val (.ref b3), .val (.ref b5), .val (.ref b7), .val (.int my22), .val (.int (f31 my22 (0 : Int32) (0 : Int32))), .val (.int (1 : Int32)), .unset, .unset, .unset] [(.int rr31)])
          refine C31.pop at_133 rfl rfl ?_
          refine C31.aload at_134 rfl rfl rfl ?_
          refine C31.callV (hw _ (List.mem_of_getElem? (i := 234) rfl)) (hw _ (List.mem_of_getElem? (i := 91) rfl)) (hw _ (List.mem_of_getElem? (i := 93) rfl)) (hw _ (List.mem_of_getElem? (i := 92) rfl)) (hw _ (List.mem_of_getElem? (i := 2) rfl)) (hw _ (List.mem_of_getElem? (i := 94) rfl)) E_b1 (by decide) (a := b1) (rm11 l Z a0 hw b1 my31 h31 n0 C31.size F_b1_size) (argsL := []) pd11 rfl 0 (by decide) (by decide) (by decide) (by decide) (rest := []) rfl rfl (Nat.le_of_eq rfl) at_136 rfl (fun v32 T32 h32 C32 qq32 => ?_)
          obtain ⟨rfl, hh32⟩ := qq32
          have hh32 := hh32.symm; subst hh32
          show Go p e below F n0 (fun v _ => v = some (.int (1 : Int32))) T32 (mkF m 139 #[.val (.int i0), .val (.int i1), .val (.int i2), .val (.int i3), .val (.ref b1), .val (.ref b3), .val (.ref b5), .val (.ref b7), .val (.int my22), .val (.int (f31 my22 (0 : Int32) (0 : Int32))), .val (.int (1 : Int32)), .unset, .unset, .unset] [(.int my31)])
          refine C32.istore at_139 rfl (L' := #[.val (.int i0), .val (.int i1), .val (.int i2), .val (.int i3), .val (.ref b1), .val (.ref b3), .val (.ref b5), .val (.ref b7), .val (.int my22), .val (.int (f31 my22 (0 : Int32) (0 : Int32))), .val (.int (1 : Int32)), .val (.int my31), .unset, .unset]) rfl ?_
          refine C32.aload at_141 rfl rfl rfl ?_
          refine C32.callV (hw _ (List.mem_of_getElem? (i := 235) rfl)) (hw _ (List.mem_of_getElem? (i := 236) rfl)) (hw _ (List.mem_of_getElem? (i := 238) rfl)) (hw _ (List.mem_of_getElem? (i := 237) rfl)) (hw _ (List.mem_of_getElem? (i := 2) rfl)) (hw _ (List.mem_of_getElem? (i := 239) rfl)) E_b1 (by decide) (a := b1) (rm31 l Z a0 hw b1 al2 ce2 ix2 my31 (0 : Int32) my22 h31 n0 C32.size E_b1 F_b1_indexes F_b1_arity F_b1_cells F_b1_unique F_b1_size F_b1_source F_b1_deltaStart F_b1_deltaEnd g_b1) (argsL := []) pd31 rfl 0 (by decide) (by decide) (by decide) (by decide) (rest := []) rfl rfl (Nat.le_of_eq rfl) at_143 rfl (fun v33 T33 h33 C33 qq33 => ?_)
          obtain ⟨rfl, K33, p33_0, p33_1, p33_2, p33_3, p33_4, p33_5, p33_6, p33_7, p33_8⟩ := qq33
          have E_b1 := E_b1.keep K33
          have E_ix2 := E_ix2.keep K33
          have E_al2 := E_al2.keep K33
          have F_al2_modCount := F_al2_modCount.keep K33 (ninS (Ne.symm ne_b1_al2) nin0)
          have F_al2_elementData := F_al2_elementData.keep K33 (ninS (Ne.symm ne_b1_al2) nin0)
          have F_al2_size := F_al2_size.keep K33 (ninS (Ne.symm ne_b1_al2) nin0)
          have V_co2 := V_co2.keep K33 (ninS (Ne.symm ne_b1_co2) nin0)
          have E_ed2 := E_ed2.keep K33
          have V_ed2 := V_ed2.keep K33 (ninS (Ne.symm ne_b1_ed2) nin0)
          have V_b3 := V_b3.keep K33 (ninS (Ne.symm ne_b1_b3) nin0)
          have V_b5 := V_b5.keep K33 (ninS (Ne.symm ne_b1_b5) nin0)
          have V_b7 := V_b7.keep K33 (ninS (Ne.symm ne_b1_b7) nin0)
          have F_ix2_slots := F_ix2_slots.keep K33 (ninS (Ne.symm ne_b1_ix2) nin0)
          have F_ix2_firsts := F_ix2_firsts.keep K33 (ninS (Ne.symm ne_b1_ix2) nin0)
          have F_ix2_lasts := F_ix2_lasts.keep K33 (ninS (Ne.symm ne_b1_ix2) nin0)
          have F_ix2_nexts := F_ix2_nexts.keep K33 (ninS (Ne.symm ne_b1_ix2) nin0)
          have F_ix2_relation := F_ix2_relation.keep K33 (ninS (Ne.symm ne_b1_ix2) nin0)
          have F_ix2_columns := F_ix2_columns.keep K33 (ninS (Ne.symm ne_b1_ix2) nin0)
          have F_ix2_scratch := F_ix2_scratch.keep K33 (ninS (Ne.symm ne_b1_ix2) nin0)
          have F_ix2_groups := F_ix2_groups.keep K33 (ninS (Ne.symm ne_b1_ix2) nin0)
          have V_sl2 := V_sl2.keep K33 (ninS (Ne.symm ne_b1_sl2) nin0)
          have V_fi2 := V_fi2.keep K33 (ninS (Ne.symm ne_b1_fi2) nin0)
          have V_la2 := V_la2.keep K33 (ninS (Ne.symm ne_b1_la2) nin0)
          have V_nx2 := V_nx2.keep K33 (ninS (Ne.symm ne_b1_nx2) nin0)
          have V_sc2 := V_sc2.keep K33 (ninS (Ne.symm ne_b1_sc2) nin0)
          have V_ce2 := V_ce2.keep K33 (ninS (Ne.symm ne_b1_ce2) nin0)
          have E_b1 := p33_0
          have F_b1_indexes := p33_1
          have F_b1_arity := p33_2
          have F_b1_cells := p33_3
          have F_b1_unique := p33_4
          have F_b1_size := p33_5
          have F_b1_source := p33_6
          have F_b1_deltaStart := p33_7
          have F_b1_deltaEnd := p33_8
          show Go p e below F n0 (fun v _ => v = some (.int (1 : Int32))) T33 (mkF m 146 #[.val (.int i0), .val (.int i1), .val (.int i2), .val (.int i3), .val (.ref b1), .val (.ref b3), .val (.ref b5), .val (.ref b7), .val (.int my22), .val (.int (f31 my22 (0 : Int32) (0 : Int32))), .val (.int (1 : Int32)), .val (.int my31), .unset, .unset] [(.int (f31 my31 (0 : Int32) my22))])
          refine C33.istore at_146 rfl (L' := #[.val (.int i0), .val (.int i1), .val (.int i2), .val (.int i3), .val (.ref b1), .val (.ref b3), .val (.ref b5), .val (.ref b7), .val (.int my22), .val (.int (f31 my22 (0 : Int32) (0 : Int32))), .val (.int (1 : Int32)), .val (.int my31), .val (.int (f31 my31 (0 : Int32) my22)), .unset]) rfl ?_
          refine C33.aload at_148 rfl rfl rfl ?_
          refine C33.callV (hw _ (List.mem_of_getElem? (i := 244) rfl)) (hw _ (List.mem_of_getElem? (i := 245) rfl)) (hw _ (List.mem_of_getElem? (i := 247) rfl)) (hw _ (List.mem_of_getElem? (i := 246) rfl)) (hw _ (List.mem_of_getElem? (i := 2) rfl)) (hw _ (List.mem_of_getElem? (i := 248) rfl)) E_b1 (by decide) (a := b1) (rm32 l Z a0 hw b1 my22 h33 n0 C33.size F_b1_deltaStart) (argsL := []) pd32 rfl 0 (by decide) (by decide) (by decide) (by decide) (rest := []) rfl rfl (Nat.le_of_eq rfl) at_150 rfl (fun v34 T34 h34 C34 qq34 => ?_)
          obtain ⟨rfl, hh34⟩ := qq34
          have hh34 := hh34.symm; subst hh34
          show Go p e below F n0 (fun v _ => v = some (.int (1 : Int32))) T34 (mkF m 153 #[.val (.int i0), .val (.int i1), .val (.int i2), .val (.int i3), .val (.ref b1), .val (.ref b3), .val (.ref b5), .val (.ref b7), .val (.int my22), .val (.int (f31 my22 (0 : Int32) (0 : Int32))), .val (.int (1 : Int32)), .val (.int my31), .val (.int (f31 my31 (0 : Int32) my22)), .unset] [(.int my22)])
          refine C34.iload at_153 rfl rfl ?_
          refine C34.icmp_ne at_155 (by decide) (by decide : _ = 189) rfl (fun q => absurd rfl q) (fun _ => ?_)
          refine C34.aload at_158 rfl rfl rfl ?_
          refine C34.callV (hw _ (List.mem_of_getElem? (i := 249) rfl)) (hw _ (List.mem_of_getElem? (i := 250) rfl)) (hw _ (List.mem_of_getElem? (i := 252) rfl)) (hw _ (List.mem_of_getElem? (i := 251) rfl)) (hw _ (List.mem_of_getElem? (i := 2) rfl)) (hw _ (List.mem_of_getElem? (i := 253) rfl)) E_b1 (by decide) (a := b1) (rm33 l Z a0 hw b1 my31 h33 n0 C34.size F_b1_deltaEnd) (argsL := []) pd33 rfl 0 (by decide) (by decide) (by decide) (by decide) (rest := []) rfl rfl (Nat.le_of_eq rfl) at_160 rfl (fun v35 T35 h35 C35 qq35 => ?_)
          obtain ⟨rfl, hh35⟩ := qq35
          have hh35 := hh35.symm; subst hh35
          show Go p e below F n0 (fun v _ => v = some (.int (1 : Int32))) T35 (mkF m 163 #[.val (.int i0), .val (.int i1), .val (.int i2), .val (.int i3), .val (.ref b1), .val (.ref b3), .val (.ref b5), .val (.ref b7), .val (.int my22), .val (.int (f31 my22 (0 : Int32) (0 : Int32))), .val (.int (1 : Int32)), .val (.int my31), .val (.int (f31 my31 (0 : Int32) my22)), .unset] [(.int my31)])
          refine C35.iload at_163 rfl rfl ?_
          refine C35.icmp_ne at_165 (by decide) (by decide : _ = 189) rfl (fun q => absurd rfl q) (fun _ => ?_)
          refine C35.iload at_168 rfl rfl ?_
          refine C35.iload at_170 rfl rfl ?_
          refine C35.iload at_172 rfl rfl ?_
          refine C35.icmp_ge at_174 (by decide) (by decide : _ = 181) rfl (fun c174 => ?_) (fun c174 => ?_)
          · refine C35.iconst (0 : Int32) at_181 rfl rfl ?_
            refine C35.icmp_ne at_182 (by decide) (by decide : _ = 189) rfl (fun q => absurd (by rw [f31, if_neg c174]) q) (fun _ => ?_)
            refine C35.iconst (1 : Int32) at_185 rfl rfl ?_
            refine C35.goto at_186 (by decide) (by decide : _ = 190) ?_
            refine C35.istore at_190 rfl (L' := #[.val (.int i0), .val (.int i1), .val (.int i2), .val (.int i3), .val (.ref b1), .val (.ref b3), .val (.ref b5), .val (.ref b7), .val (.int my22), .val (.int (f31 my22 (0 : Int32) (0 : Int32))), .val (.int (1 : Int32)), .val (.int my31), .val (.int (f31 my31 (0 : Int32) my22)), .val (.int (1 : Int32))]) rfl ?_
            refine C35.iload at_192 rfl rfl ?_
            refine C35.if_eq at_194 (by decide) (by decide : _ = 206) rfl (fun q => absurd q (by decide)) (fun _ => ?_)
            refine C35.iload at_197 rfl rfl ?_
            refine C35.if_eq at_199 (by decide) (by decide : _ = 206) rfl (fun q => absurd q (by decide)) (fun _ => ?_)
            refine C35.iconst (1 : Int32) at_202 rfl rfl ?_
            refine C35.goto at_203 (by decide) (by decide : _ = 207) ?_
            exact C35.retN (t := .boolean) at_207 rfl (by simp) (by decide) (by decide) (w := (1 : Int32)) rfl rfl
          · refine C35.iconst (1 : Int32) at_177 rfl rfl ?_
            refine C35.goto at_178 (by decide) (by decide : _ = 182) ?_
            refine C35.icmp_ne at_182 (by decide) (by decide : _ = 189) rfl (fun q => absurd (by rw [f31, if_pos c174]) q) (fun _ => ?_)
            refine C35.iconst (1 : Int32) at_185 rfl rfl ?_
            refine C35.goto at_186 (by decide) (by decide : _ = 190) ?_
            refine C35.istore at_190 rfl (L' := #[.val (.int i0), .val (.int i1), .val (.int i2), .val (.int i3), .val (.ref b1), .val (.ref b3), .val (.ref b5), .val (.ref b7), .val (.int my22), .val (.int (f31 my22 (0 : Int32) (0 : Int32))), .val (.int (1 : Int32)), .val (.int my31), .val (.int (f31 my31 (0 : Int32) my22)), .val (.int (1 : Int32))]) rfl ?_
            refine C35.iload at_192 rfl rfl ?_
            refine C35.if_eq at_194 (by decide) (by decide : _ = 206) rfl (fun q => absurd q (by decide)) (fun _ => ?_)
            refine C35.iload at_197 rfl rfl ?_
            refine C35.if_eq at_199 (by decide) (by decide : _ = 206) rfl (fun q => absurd q (by decide)) (fun _ => ?_)
            refine C35.iconst (1 : Int32) at_202 rfl rfl ?_
            refine C35.goto at_203 (by decide) (by decide : _ = 207) ?_
            exact C35.retN (t := .boolean) at_207 rfl (by simp) (by decide) (by decide) (w := (1 : Int32)) rfl rfl
      · refine C26.iconst (1 : Int32) at_105 rfl rfl ?_
        refine C26.goto at_106 (by decide) (by decide : _ = 110) ?_
        refine C26.icmp_ne at_110 (by decide) (by decide : _ = 117) rfl (fun q => absurd (by rw [f31, if_pos c102]) q) (fun _ => ?_)
        refine C26.iconst (1 : Int32) at_113 rfl rfl ?_
        refine C26.goto at_114 (by decide) (by decide : _ = 118) ?_
        refine C26.istore at_118 rfl (L' := #[.val (.int i0), .val (.int i1), .val (.int i2), .val (.int i3), .val (.ref b1), .val (.ref b3), .val (.ref b5), .val (.ref b7), .val (.int my22), .val (.int (f31 my22 (0 : Int32) (0 : Int32))), .val (.int (1 : Int32)), .unset, .unset, .unset]) rfl ?_
        refine C26.iloadN at_120 rfl rfl ?_
        refine C26.iconst (4 : Int32) at_121 rfl rfl ?_
        refine C26.iand at_122 rfl ?_
        refine C26.if_eq at_123 (by decide) (by decide : _ = 134) rfl (fun c123 => ?_) (fun c123 => ?_)
        · refine C26.aload at_134 rfl rfl rfl ?_
          refine C26.callV (hw _ (List.mem_of_getElem? (i := 234) rfl)) (hw _ (List.mem_of_getElem? (i := 91) rfl)) (hw _ (List.mem_of_getElem? (i := 93) rfl)) (hw _ (List.mem_of_getElem? (i := 92) rfl)) (hw _ (List.mem_of_getElem? (i := 2) rfl)) (hw _ (List.mem_of_getElem? (i := 94) rfl)) E_b1 (by decide) (a := b1) (rm11 l Z a0 hw b1 my22 h24 n0 C26.size F_b1_size) (argsL := []) pd11 rfl 0 (by decide) (by decide) (by decide) (by decide) (rest := []) rfl rfl (Nat.le_of_eq rfl) at_136 rfl (fun v36 T36 h36 C36 qq36 => ?_)
          obtain ⟨rfl, hh36⟩ := qq36
          have hh36 := hh36.symm; subst hh36
          show Go p e below F n0 (fun v _ => v = some (.int (1 : Int32))) T36 (mkF m 139 #[.val (.int i0), .val (.int i1), .val (.int i2), .val (.int i3), .val (.ref b1), .val (.ref b3), .val (.ref b5), .val (.ref b7), .val (.int my22), .val (.int (f31 my22 (0 : Int32) (0 : Int32))), .val (.int (1 : Int32)), .unset, .unset, .unset] [(.int my22)])
          refine C36.istore at_139 rfl (L' := #[.val (.int i0), .val (.int i1), .val (.int i2), .val (.int i3), .val (.ref b1), .val (.ref b3), .val (.ref b5), .val (.ref b7), .val (.int my22), .val (.int (f31 my22 (0 : Int32) (0 : Int32))), .val (.int (1 : Int32)), .val (.int my22), .unset, .unset]) rfl ?_
          refine C36.aload at_141 rfl rfl rfl ?_
          refine C36.callV (hw _ (List.mem_of_getElem? (i := 235) rfl)) (hw _ (List.mem_of_getElem? (i := 236) rfl)) (hw _ (List.mem_of_getElem? (i := 238) rfl)) (hw _ (List.mem_of_getElem? (i := 237) rfl)) (hw _ (List.mem_of_getElem? (i := 2) rfl)) (hw _ (List.mem_of_getElem? (i := 239) rfl)) E_b1 (by decide) (a := b1) (rm31 l Z a0 hw b1 al2 ce2 ix2 my22 (0 : Int32) my22 h24 n0 C36.size E_b1 F_b1_indexes F_b1_arity F_b1_cells F_b1_unique F_b1_size F_b1_source F_b1_deltaStart F_b1_deltaEnd g_b1) (argsL := []) pd31 rfl 0 (by decide) (by decide) (by decide) (by decide) (rest := []) rfl rfl (Nat.le_of_eq rfl) at_143 rfl (fun v37 T37 h37 C37 qq37 => ?_)
          obtain ⟨rfl, K37, p37_0, p37_1, p37_2, p37_3, p37_4, p37_5, p37_6, p37_7, p37_8⟩ := qq37
          have E_b1 := E_b1.keep K37
          have E_ix2 := E_ix2.keep K37
          have E_al2 := E_al2.keep K37
          have F_al2_modCount := F_al2_modCount.keep K37 (ninS (Ne.symm ne_b1_al2) nin0)
          have F_al2_elementData := F_al2_elementData.keep K37 (ninS (Ne.symm ne_b1_al2) nin0)
          have F_al2_size := F_al2_size.keep K37 (ninS (Ne.symm ne_b1_al2) nin0)
          have V_co2 := V_co2.keep K37 (ninS (Ne.symm ne_b1_co2) nin0)
          have E_ed2 := E_ed2.keep K37
          have V_ed2 := V_ed2.keep K37 (ninS (Ne.symm ne_b1_ed2) nin0)
          have V_b3 := V_b3.keep K37 (ninS (Ne.symm ne_b1_b3) nin0)
          have V_b5 := V_b5.keep K37 (ninS (Ne.symm ne_b1_b5) nin0)
          have V_b7 := V_b7.keep K37 (ninS (Ne.symm ne_b1_b7) nin0)
          have F_ix2_slots := F_ix2_slots.keep K37 (ninS (Ne.symm ne_b1_ix2) nin0)
          have F_ix2_firsts := F_ix2_firsts.keep K37 (ninS (Ne.symm ne_b1_ix2) nin0)
          have F_ix2_lasts := F_ix2_lasts.keep K37 (ninS (Ne.symm ne_b1_ix2) nin0)
          have F_ix2_nexts := F_ix2_nexts.keep K37 (ninS (Ne.symm ne_b1_ix2) nin0)
          have F_ix2_relation := F_ix2_relation.keep K37 (ninS (Ne.symm ne_b1_ix2) nin0)
          have F_ix2_columns := F_ix2_columns.keep K37 (ninS (Ne.symm ne_b1_ix2) nin0)
          have F_ix2_scratch := F_ix2_scratch.keep K37 (ninS (Ne.symm ne_b1_ix2) nin0)
          have F_ix2_groups := F_ix2_groups.keep K37 (ninS (Ne.symm ne_b1_ix2) nin0)
          have V_sl2 := V_sl2.keep K37 (ninS (Ne.symm ne_b1_sl2) nin0)
          have V_fi2 := V_fi2.keep K37 (ninS (Ne.symm ne_b1_fi2) nin0)
          have V_la2 := V_la2.keep K37 (ninS (Ne.symm ne_b1_la2) nin0)
          have V_nx2 := V_nx2.keep K37 (ninS (Ne.symm ne_b1_nx2) nin0)
          have V_sc2 := V_sc2.keep K37 (ninS (Ne.symm ne_b1_sc2) nin0)
          have V_ce2 := V_ce2.keep K37 (ninS (Ne.symm ne_b1_ce2) nin0)
          have E_b1 := p37_0
          have F_b1_indexes := p37_1
          have F_b1_arity := p37_2
          have F_b1_cells := p37_3
          have F_b1_unique := p37_4
          have F_b1_size := p37_5
          have F_b1_source := p37_6
          have F_b1_deltaStart := p37_7
          have F_b1_deltaEnd := p37_8
          show Go p e below F n0 (fun v _ => v = some (.int (1 : Int32))) T37 (mkF m 146 #[.val (.int i0), .val (.int i1), .val (.int i2), .val (.int i3), .val (.ref b1), .val (.ref b3), .val (.ref b5), .val (.ref b7), .val (.int my22), .val (.int (f31 my22 (0 : Int32) (0 : Int32))), .val (.int (1 : Int32)), .val (.int my22), .unset, .unset] [(.int (f31 my22 (0 : Int32) my22))])
          refine C37.istore at_146 rfl (L' := #[.val (.int i0), .val (.int i1), .val (.int i2), .val (.int i3), .val (.ref b1), .val (.ref b3), .val (.ref b5), .val (.ref b7), .val (.int my22), .val (.int (f31 my22 (0 : Int32) (0 : Int32))), .val (.int (1 : Int32)), .val (.int my22), .val (.int (f31 my22 (0 : Int32) my22)), .unset]) rfl ?_
          refine C37.aload at_148 rfl rfl rfl ?_
          refine C37.callV (hw _ (List.mem_of_getElem? (i := 244) rfl)) (hw _ (List.mem_of_getElem? (i := 245) rfl)) (hw _ (List.mem_of_getElem? (i := 247) rfl)) (hw _ (List.mem_of_getElem? (i := 246) rfl)) (hw _ (List.mem_of_getElem? (i := 2) rfl)) (hw _ (List.mem_of_getElem? (i := 248) rfl)) E_b1 (by decide) (a := b1) (rm32 l Z a0 hw b1 my22 h37 n0 C37.size F_b1_deltaStart) (argsL := []) pd32 rfl 0 (by decide) (by decide) (by decide) (by decide) (rest := []) rfl rfl (Nat.le_of_eq rfl) at_150 rfl (fun v38 T38 h38 C38 qq38 => ?_)
          obtain ⟨rfl, hh38⟩ := qq38
          have hh38 := hh38.symm; subst hh38
          show Go p e below F n0 (fun v _ => v = some (.int (1 : Int32))) T38 (mkF m 153 #[.val (.int i0), .val (.int i1), .val (.int i2), .val (.int i3), .val (.ref b1), .val (.ref b3), .val (.ref b5), .val (.ref b7), .val (.int my22), .val (.int (f31 my22 (0 : Int32) (0 : Int32))), .val (.int (1 : Int32)), .val (.int my22), .val (.int (f31 my22 (0 : Int32) my22)), .unset] [(.int my22)])
          refine C38.iload at_153 rfl rfl ?_
          refine C38.icmp_ne at_155 (by decide) (by decide : _ = 189) rfl (fun q => absurd rfl q) (fun _ => ?_)
          refine C38.aload at_158 rfl rfl rfl ?_
          refine C38.callV (hw _ (List.mem_of_getElem? (i := 249) rfl)) (hw _ (List.mem_of_getElem? (i := 250) rfl)) (hw _ (List.mem_of_getElem? (i := 252) rfl)) (hw _ (List.mem_of_getElem? (i := 251) rfl)) (hw _ (List.mem_of_getElem? (i := 2) rfl)) (hw _ (List.mem_of_getElem? (i := 253) rfl)) E_b1 (by decide) (a := b1) (rm33 l Z a0 hw b1 my22 h37 n0 C38.size F_b1_deltaEnd) (argsL := []) pd33 rfl 0 (by decide) (by decide) (by decide) (by decide) (rest := []) rfl rfl (Nat.le_of_eq rfl) at_160 rfl (fun v39 T39 h39 C39 qq39 => ?_)
          obtain ⟨rfl, hh39⟩ := qq39
          have hh39 := hh39.symm; subst hh39
          show Go p e below F n0 (fun v _ => v = some (.int (1 : Int32))) T39 (mkF m 163 #[.val (.int i0), .val (.int i1), .val (.int i2), .val (.int i3), .val (.ref b1), .val (.ref b3), .val (.ref b5), .val (.ref b7), .val (.int my22), .val (.int (f31 my22 (0 : Int32) (0 : Int32))), .val (.int (1 : Int32)), .val (.int my22), .val (.int (f31 my22 (0 : Int32) my22)), .unset] [(.int my22)])
          refine C39.iload at_163 rfl rfl ?_
          refine C39.icmp_ne at_165 (by decide) (by decide : _ = 189) rfl (fun q => absurd rfl q) (fun _ => ?_)
          refine C39.iload at_168 rfl rfl ?_
          refine C39.iload at_170 rfl rfl ?_
          refine C39.iload at_172 rfl rfl ?_
          refine C39.icmp_ge at_174 (by decide) (by decide : _ = 181) rfl (fun c174 => ?_) (fun c174 => ?_)
          · refine C39.iconst (0 : Int32) at_181 rfl rfl ?_
            refine C39.icmp_ne at_182 (by decide) (by decide : _ = 189) rfl (fun q => absurd (by rw [f31, if_neg c174]) q) (fun _ => ?_)
            refine C39.iconst (1 : Int32) at_185 rfl rfl ?_
            refine C39.goto at_186 (by decide) (by decide : _ = 190) ?_
            refine C39.istore at_190 rfl (L' := #[.val (.int i0), .val (.int i1), .val (.int i2), .val (.int i3), .val (.ref b1), .val (.ref b3), .val (.ref b5), .val (.ref b7), .val (.int my22), .val (.int (f31 my22 (0 : Int32) (0 : Int32))), .val (.int (1 : Int32)), .val (.int my22), .val (.int (f31 my22 (0 : Int32) my22)), .val (.int (1 : Int32))]) rfl ?_
            refine C39.iload at_192 rfl rfl ?_
            refine C39.if_eq at_194 (by decide) (by decide : _ = 206) rfl (fun q => absurd q (by decide)) (fun _ => ?_)
            refine C39.iload at_197 rfl rfl ?_
            refine C39.if_eq at_199 (by decide) (by decide : _ = 206) rfl (fun q => absurd q (by decide)) (fun _ => ?_)
            refine C39.iconst (1 : Int32) at_202 rfl rfl ?_
            refine C39.goto at_203 (by decide) (by decide : _ = 207) ?_
            exact C39.retN (t := .boolean) at_207 rfl (by simp) (by decide) (by decide) (w := (1 : Int32)) rfl rfl
          · refine C39.iconst (1 : Int32) at_177 rfl rfl ?_
            refine C39.goto at_178 (by decide) (by decide : _ = 182) ?_
            refine C39.icmp_ne at_182 (by decide) (by decide : _ = 189) rfl (fun q => absurd (by rw [f31, if_pos c174]) q) (fun _ => ?_)
            refine C39.iconst (1 : Int32) at_185 rfl rfl ?_
            refine C39.goto at_186 (by decide) (by decide : _ = 190) ?_
            refine C39.istore at_190 rfl (L' := #[.val (.int i0), .val (.int i1), .val (.int i2), .val (.int i3), .val (.ref b1), .val (.ref b3), .val (.ref b5), .val (.ref b7), .val (.int my22), .val (.int (f31 my22 (0 : Int32) (0 : Int32))), .val (.int (1 : Int32)), .val (.int my22), .val (.int (f31 my22 (0 : Int32) my22)), .val (.int (1 : Int32))]) rfl ?_
            refine C39.iload at_192 rfl rfl ?_
            refine C39.if_eq at_194 (by decide) (by decide : _ = 206) rfl (fun q => absurd q (by decide)) (fun _ => ?_)
            refine C39.iload at_197 rfl rfl ?_
            refine C39.if_eq at_199 (by decide) (by decide : _ = 206) rfl (fun q => absurd q (by decide)) (fun _ => ?_)
            refine C39.iconst (1 : Int32) at_202 rfl rfl ?_
            refine C39.goto at_203 (by decide) (by decide : _ = 207) ?_
            exact C39.retN (t := .boolean) at_207 rfl (by simp) (by decide) (by decide) (w := (1 : Int32)) rfl rfl
        · refine C26.aload at_126 rfl rfl rfl ?_
          refine C26.aload at_128 rfl rfl rfl ?_
          refine C26.callV (hw _ (List.mem_of_getElem? (i := 134) rfl)) (hw _ (List.mem_of_getElem? (i := 135) rfl)) (hw _ (List.mem_of_getElem? (i := 137) rfl)) (hw _ (List.mem_of_getElem? (i := 136) rfl)) (hw _ (List.mem_of_getElem? (i := 2) rfl)) (hw _ (List.mem_of_getElem? (i := 138) rfl)) E_b1 (by decide) (a := b1) (rm17 l Z a0 hw b1 b7 al2 ce2 ix2 ed2 sl2 fi2 la2 nx2 co2 sc2 kce2 ked2 ksl2 kfi2 kla2 knx2 kco2 ksc2 k7 mS22 mF22 mL22 mN22 mC22 mg22 mk22 i2 my22 (0 : Int32) my22 h24 n0 C26.size E_b1 F_b1_indexes F_b1_arity F_b1_cells F_b1_unique F_b1_size F_b1_source F_b1_deltaStart F_b1_deltaEnd E_ix2 F_ix2_slots F_ix2_firsts F_ix2_lasts F_ix2_nexts F_ix2_relation F_ix2_columns F_ix2_scratch F_ix2_groups V_sl2 V_fi2 V_la2 V_nx2 V_co2 V_sc2 V_ce2 E_al2 F_al2_modCount F_al2_elementData F_al2_size E_ed2 V_ed2 O_ked2 V_b7 g_b1 g_ce2 g_ix2 g_sc2 g_nx2 g_fi2 g_la2 g_sl2 hinv_22 (own_pre3 i0 i1 i2 i3 de kde lm al2 ce2 ix2 ed2 sl2 fi2 la2 nx2 co2 sc2 kce2 ked2 ksl2 kfi2 kla2 knx2 kco2 ksc2 mS22 mF22 mL22 mN22 mC22 mg22 mk22 my22 rr22 hinv_2 hC_2 hinv_22 hC_22 hle_22 c40 c54 c102 c123) hC_22 ne_sl2_fi2 ne_sl2_la2 ne_sl2_nx2 ne_sl2_co2 ne_sl2_sc2 ne_sl2_ce2 ne_sl2_ed2 ne_fi2_la2 ne_fi2_nx2 ne_fi2_co2 ne_fi2_sc2 ne_fi2_ce2 ne_fi2_ed2 ne_la2_nx2 ne_la2_co2 ne_la2_sc2 ne_la2_ce2 ne_la2_ed2 ne_nx2_co2 ne_nx2_sc2 ne_nx2_ce2 ne_nx2_ed2 ne_co2_sc2 ne_co2_ce2 ne_co2_ed2 ne_sc2_ce2 ne_sc2_ed2 ne_ce2_ed2 (Ne.symm ne_ce2_b7)) (argsL := [(.ref b7)]) pd17 rfl 0 (by decide) (by decide) (by decide) (by decide) (rest := []) rfl rfl (Nat.le_of_eq rfl) at_130 rfl (fun v40 T40 h40 C40 qq40 => ?_)
          obtain ⟨mS40, mF40, mL40, mN40, mC40, mg40, mk40, my40, rr40, rfl, K40, p40_0, p40_1, p40_2, p40_3, p40_4, p40_5, p40_6, p40_7, p40_8, p40_9, p40_10, p40_11, p40_12, p40_13, p40_14, p40_15, p40_16, p40_17, p40_18, p40_19, p40_20, p40_21, p40_22, p40_23, p40_24, p40_25, p40_26⟩ := qq40
          have E_b1 := E_b1.keep K40
          have E_ix2 := E_ix2.keep K40
          have E_al2 := E_al2.keep K40
          have F_al2_modCount := F_al2_modCount.keep K40 (ninS (Ne.symm ne_b1_al2) (ninS ne_al2_ce2 (ninS ne_al2_ix2 (ninS ne_al2_sc2 (ninS ne_al2_nx2 (ninS ne_al2_fi2 (ninS ne_al2_la2 (ninS ne_al2_sl2 nin0))))))))
          have F_al2_elementData := F_al2_elementData.keep K40 (ninS (Ne.symm ne_b1_al2) (ninS ne_al2_ce2 (ninS ne_al2_ix2 (ninS ne_al2_sc2 (ninS ne_al2_nx2 (ninS ne_al2_fi2 (ninS ne_al2_la2 (ninS ne_al2_sl2 nin0))))))))
          have F_al2_size := F_al2_size.keep K40 (ninS (Ne.symm ne_b1_al2) (ninS ne_al2_ce2 (ninS ne_al2_ix2 (ninS ne_al2_sc2 (ninS ne_al2_nx2 (ninS ne_al2_fi2 (ninS ne_al2_la2 (ninS ne_al2_sl2 nin0))))))))
          have V_co2 := V_co2.keep K40 (ninS (Ne.symm ne_b1_co2) (ninS ne_co2_ce2 (ninS ne_co2_ix2 (ninS ne_co2_sc2 (ninS (Ne.symm ne_nx2_co2) (ninS (Ne.symm ne_fi2_co2) (ninS (Ne.symm ne_la2_co2) (ninS (Ne.symm ne_sl2_co2) nin0))))))))
          have E_ed2 := E_ed2.keep K40
          have V_ed2 := V_ed2.keep K40 (ninS (Ne.symm ne_b1_ed2) (ninS (Ne.symm ne_ce2_ed2) (ninS ne_ed2_ix2 (ninS (Ne.symm ne_sc2_ed2) (ninS (Ne.symm ne_nx2_ed2) (ninS (Ne.symm ne_fi2_ed2) (ninS (Ne.symm ne_la2_ed2) (ninS (Ne.symm ne_sl2_ed2) nin0))))))))
          have V_b3 := V_b3.keep K40 (ninS (Ne.symm ne_b1_b3) (ninS (Ne.symm ne_ce2_b3) (ninS (Ne.symm ne_ix2_b3) (ninS (Ne.symm ne_sc2_b3) (ninS (Ne.symm ne_nx2_b3) (ninS (Ne.symm ne_fi2_b3) (ninS (Ne.symm ne_la2_b3) (ninS (Ne.symm ne_sl2_b3) nin0))))))))
          have V_b5 := V_b5.keep K40 (ninS (Ne.symm ne_b1_b5) (ninS (Ne.symm ne_ce2_b5) (ninS (Ne.symm ne_ix2_b5) (ninS (Ne.symm ne_sc2_b5) (ninS (Ne.symm ne_nx2_b5) (ninS (Ne.symm ne_fi2_b5) (ninS (Ne.symm ne_la2_b5) (ninS (Ne.symm ne_sl2_b5) nin0))))))))
          have V_b7 := V_b7.keep K40 (ninS (Ne.symm ne_b1_b7) (ninS (Ne.symm ne_ce2_b7) (ninS (Ne.symm ne_ix2_b7) (ninS (Ne.symm ne_sc2_b7) (ninS (Ne.symm ne_nx2_b7) (ninS (Ne.symm ne_fi2_b7) (ninS (Ne.symm ne_la2_b7) (ninS (Ne.symm ne_sl2_b7) nin0))))))))
          have E_b1 := p40_0
          have F_b1_indexes := p40_1
          have F_b1_arity := p40_2
          have F_b1_cells := p40_3
          have F_b1_unique := p40_4
          have F_b1_size := p40_5
          have F_b1_source := p40_6
          have F_b1_deltaStart := p40_7
          have F_b1_deltaEnd := p40_8
          have E_ix2 := p40_9
          have F_ix2_slots := p40_10
          have F_ix2_firsts := p40_11
          have F_ix2_lasts := p40_12
          have F_ix2_nexts := p40_13
          have F_ix2_relation := p40_14
          have F_ix2_columns := p40_15
          have F_ix2_scratch := p40_16
          have F_ix2_groups := p40_17
          have V_sl2 := p40_18
          have V_fi2 := p40_19
          have V_la2 := p40_20
          have V_nx2 := p40_21
          have V_sc2 := p40_22
          have V_ce2 := p40_23
          have hinv_40 := p40_24
          have hC_40 := p40_25
          have hle_40 := p40_26
          show Go p e below F n0 (fun v _ => v = some (.int (1 : Int32))) T40 (mkF m 133 #[.val (.int i0), .val (.int i1), .val (.int i2), .val (.int i3), .val (.ref b1), .val (.ref b3), .val (.ref b5), .val (.ref b7), .val (.int my22), .val (.int (f31 my22 (0 : Int32) (0 : Int32))), .val (.int (1 : Int32)), .unset, .unset, .unset] [(.int rr40)])
          refine C40.pop at_133 rfl rfl ?_
          refine C40.aload at_134 rfl rfl rfl ?_
          refine C40.callV (hw _ (List.mem_of_getElem? (i := 234) rfl)) (hw _ (List.mem_of_getElem? (i := 91) rfl)) (hw _ (List.mem_of_getElem? (i := 93) rfl)) (hw _ (List.mem_of_getElem? (i := 92) rfl)) (hw _ (List.mem_of_getElem? (i := 2) rfl)) (hw _ (List.mem_of_getElem? (i := 94) rfl)) E_b1 (by decide) (a := b1) (rm11 l Z a0 hw b1 my40 h40 n0 C40.size F_b1_size) (argsL := []) pd11 rfl 0 (by decide) (by decide) (by decide) (by decide) (rest := []) rfl rfl (Nat.le_of_eq rfl) at_136 rfl (fun v41 T41 h41 C41 qq41 => ?_)
          obtain ⟨rfl, hh41⟩ := qq41
          have hh41 := hh41.symm; subst hh41
          show Go p e below F n0 (fun v _ => v = some (.int (1 : Int32))) T41 (mkF m 139 #[.val (.int i0), .val (.int i1), .val (.int i2), .val (.int i3), .val (.ref b1), .val (.ref b3), .val (.ref b5), .val (.ref b7), .val (.int my22), .val (.int (f31 my22 (0 : Int32) (0 : Int32))), .val (.int (1 : Int32)), .unset, .unset, .unset] [(.int my40)])
          refine C41.istore at_139 rfl (L' := #[.val (.int i0), .val (.int i1), .val (.int i2), .val (.int i3), .val (.ref b1), .val (.ref b3), .val (.ref b5), .val (.ref b7), .val (.int my22), .val (.int (f31 my22 (0 : Int32) (0 : Int32))), .val (.int (1 : Int32)), .val (.int my40), .unset, .unset]) rfl ?_
          refine C41.aload at_141 rfl rfl rfl ?_
          refine C41.callV (hw _ (List.mem_of_getElem? (i := 235) rfl)) (hw _ (List.mem_of_getElem? (i := 236) rfl)) (hw _ (List.mem_of_getElem? (i := 238) rfl)) (hw _ (List.mem_of_getElem? (i := 237) rfl)) (hw _ (List.mem_of_getElem? (i := 2) rfl)) (hw _ (List.mem_of_getElem? (i := 239) rfl)) E_b1 (by decide) (a := b1) (rm31 l Z a0 hw b1 al2 ce2 ix2 my40 (0 : Int32) my22 h40 n0 C41.size E_b1 F_b1_indexes F_b1_arity F_b1_cells F_b1_unique F_b1_size F_b1_source F_b1_deltaStart F_b1_deltaEnd g_b1) (argsL := []) pd31 rfl 0 (by decide) (by decide) (by decide) (by decide) (rest := []) rfl rfl (Nat.le_of_eq rfl) at_143 rfl (fun v42 T42 h42 C42 qq42 => ?_)
          obtain ⟨rfl, K42, p42_0, p42_1, p42_2, p42_3, p42_4, p42_5, p42_6, p42_7, p42_8⟩ := qq42
          have E_b1 := E_b1.keep K42
          have E_ix2 := E_ix2.keep K42
          have E_al2 := E_al2.keep K42
          have F_al2_modCount := F_al2_modCount.keep K42 (ninS (Ne.symm ne_b1_al2) nin0)
          have F_al2_elementData := F_al2_elementData.keep K42 (ninS (Ne.symm ne_b1_al2) nin0)
          have F_al2_size := F_al2_size.keep K42 (ninS (Ne.symm ne_b1_al2) nin0)
          have V_co2 := V_co2.keep K42 (ninS (Ne.symm ne_b1_co2) nin0)
          have E_ed2 := E_ed2.keep K42
          have V_ed2 := V_ed2.keep K42 (ninS (Ne.symm ne_b1_ed2) nin0)
          have V_b3 := V_b3.keep K42 (ninS (Ne.symm ne_b1_b3) nin0)
          have V_b5 := V_b5.keep K42 (ninS (Ne.symm ne_b1_b5) nin0)
          have V_b7 := V_b7.keep K42 (ninS (Ne.symm ne_b1_b7) nin0)
          have F_ix2_slots := F_ix2_slots.keep K42 (ninS (Ne.symm ne_b1_ix2) nin0)
          have F_ix2_firsts := F_ix2_firsts.keep K42 (ninS (Ne.symm ne_b1_ix2) nin0)
          have F_ix2_lasts := F_ix2_lasts.keep K42 (ninS (Ne.symm ne_b1_ix2) nin0)
          have F_ix2_nexts := F_ix2_nexts.keep K42 (ninS (Ne.symm ne_b1_ix2) nin0)
          have F_ix2_relation := F_ix2_relation.keep K42 (ninS (Ne.symm ne_b1_ix2) nin0)
          have F_ix2_columns := F_ix2_columns.keep K42 (ninS (Ne.symm ne_b1_ix2) nin0)
          have F_ix2_scratch := F_ix2_scratch.keep K42 (ninS (Ne.symm ne_b1_ix2) nin0)
          have F_ix2_groups := F_ix2_groups.keep K42 (ninS (Ne.symm ne_b1_ix2) nin0)
          have V_sl2 := V_sl2.keep K42 (ninS (Ne.symm ne_b1_sl2) nin0)
          have V_fi2 := V_fi2.keep K42 (ninS (Ne.symm ne_b1_fi2) nin0)
          have V_la2 := V_la2.keep K42 (ninS (Ne.symm ne_b1_la2) nin0)
          have V_nx2 := V_nx2.keep K42 (ninS (Ne.symm ne_b1_nx2) nin0)
          have V_sc2 := V_sc2.keep K42 (ninS (Ne.symm ne_b1_sc2) nin0)
          have V_ce2 := V_ce2.keep K42 (ninS (Ne.symm ne_b1_ce2) nin0)
          have E_b1 := p42_0
          have F_b1_indexes := p42_1
          have F_b1_arity := p42_2
          have F_b1_cells := p42_3
          have F_b1_unique := p42_4
          have F_b1_size := p42_5
          have F_b1_source := p42_6
          have F_b1_deltaStart := p42_7
          have F_b1_deltaEnd := p42_8
          show Go p e below F n0 (fun v _ => v = some (.int (1 : Int32))) T42 (mkF m 146 #[.val (.int i0), .val (.int i1), .val (.int i2), .val (.int i3), .val (.ref b1), .val (.ref b3), .val (.ref b5), .val (.ref b7), .val (.int my22), .val (.int (f31 my22 (0 : Int32) (0 : Int32))), .val (.int (1 : Int32)), .val (.int my40), .unset, .unset] [(.int (f31 my40 (0 : Int32) my22))])
          refine C42.istore at_146 rfl (L' := #[.val (.int i0), .val (.int i1), .val (.int i2), .val (.int i3), .val (.ref b1), .val (.ref b3), .val (.ref b5), .val (.ref b7), .val (.int my22), .val (.int (f31 my22 (0 : Int32) (0 : Int32))), .val (.int (1 : Int32)), .val (.int my40), .val (.int (f31 my40 (0 : Int32) my22)), .unset]) rfl ?_
          refine C42.aload at_148 rfl rfl rfl ?_
          refine C42.callV (hw _ (List.mem_of_getElem? (i := 244) rfl)) (hw _ (List.mem_of_getElem? (i := 245) rfl)) (hw _ (List.mem_of_getElem? (i := 247) rfl)) (hw _ (List.mem_of_getElem? (i := 246) rfl)) (hw _ (List.mem_of_getElem? (i := 2) rfl)) (hw _ (List.mem_of_getElem? (i := 248) rfl)) E_b1 (by decide) (a := b1) (rm32 l Z a0 hw b1 my22 h42 n0 C42.size F_b1_deltaStart) (argsL := []) pd32 rfl 0 (by decide) (by decide) (by decide) (by decide) (rest := []) rfl rfl (Nat.le_of_eq rfl) at_150 rfl (fun v43 T43 h43 C43 qq43 => ?_)
          obtain ⟨rfl, hh43⟩ := qq43
          have hh43 := hh43.symm; subst hh43
          show Go p e below F n0 (fun v _ => v = some (.int (1 : Int32))) T43 (mkF m 153 #[.val (.int i0), .val (.int i1), .val (.int i2), .val (.int i3), .val (.ref b1), .val (.ref b3), .val (.ref b5), .val (.ref b7), .val (.int my22), .val (.int (f31 my22 (0 : Int32) (0 : Int32))), .val (.int (1 : Int32)), .val (.int my40), .val (.int (f31 my40 (0 : Int32) my22)), .unset] [(.int my22)])
          refine C43.iload at_153 rfl rfl ?_
          refine C43.icmp_ne at_155 (by decide) (by decide : _ = 189) rfl (fun q => absurd rfl q) (fun _ => ?_)
          refine C43.aload at_158 rfl rfl rfl ?_
          refine C43.callV (hw _ (List.mem_of_getElem? (i := 249) rfl)) (hw _ (List.mem_of_getElem? (i := 250) rfl)) (hw _ (List.mem_of_getElem? (i := 252) rfl)) (hw _ (List.mem_of_getElem? (i := 251) rfl)) (hw _ (List.mem_of_getElem? (i := 2) rfl)) (hw _ (List.mem_of_getElem? (i := 253) rfl)) E_b1 (by decide) (a := b1) (rm33 l Z a0 hw b1 my40 h42 n0 C43.size F_b1_deltaEnd) (argsL := []) pd33 rfl 0 (by decide) (by decide) (by decide) (by decide) (rest := []) rfl rfl (Nat.le_of_eq rfl) at_160 rfl (fun v44 T44 h44 C44 qq44 => ?_)
          obtain ⟨rfl, hh44⟩ := qq44
          have hh44 := hh44.symm; subst hh44
          show Go p e below F n0 (fun v _ => v = some (.int (1 : Int32))) T44 (mkF m 163 #[.val (.int i0), .val (.int i1), .val (.int i2), .val (.int i3), .val (.ref b1), .val (.ref b3), .val (.ref b5), .val (.ref b7), .val (.int my22), .val (.int (f31 my22 (0 : Int32) (0 : Int32))), .val (.int (1 : Int32)), .val (.int my40), .val (.int (f31 my40 (0 : Int32) my22)), .unset] [(.int my40)])
          refine C44.iload at_163 rfl rfl ?_
          refine C44.icmp_ne at_165 (by decide) (by decide : _ = 189) rfl (fun q => absurd rfl q) (fun _ => ?_)
          refine C44.iload at_168 rfl rfl ?_
          refine C44.iload at_170 rfl rfl ?_
          refine C44.iload at_172 rfl rfl ?_
          refine C44.icmp_ge at_174 (by decide) (by decide : _ = 181) rfl (fun c174 => ?_) (fun c174 => ?_)
          · refine C44.iconst (0 : Int32) at_181 rfl rfl ?_
            refine C44.icmp_ne at_182 (by decide) (by decide : _ = 189) rfl (fun q => absurd (by rw [f31, if_neg c174]) q) (fun _ => ?_)
            refine C44.iconst (1 : Int32) at_185 rfl rfl ?_
            refine C44.goto at_186 (by decide) (by decide : _ = 190) ?_
            refine C44.istore at_190 rfl (L' := #[.val (.int i0), .val (.int i1), .val (.int i2), .val (.int i3), .val (.ref b1), .val (.ref b3), .val (.ref b5), .val (.ref b7), .val (.int my22), .val (.int (f31 my22 (0 : Int32) (0 : Int32))), .val (.int (1 : Int32)), .val (.int my40), .val (.int (f31 my40 (0 : Int32) my22)), .val (.int (1 : Int32))]) rfl ?_
            refine C44.iload at_192 rfl rfl ?_
            refine C44.if_eq at_194 (by decide) (by decide : _ = 206) rfl (fun q => absurd q (by decide)) (fun _ => ?_)
            refine C44.iload at_197 rfl rfl ?_
            refine C44.if_eq at_199 (by decide) (by decide : _ = 206) rfl (fun q => absurd q (by decide)) (fun _ => ?_)
            refine C44.iconst (1 : Int32) at_202 rfl rfl ?_
            refine C44.goto at_203 (by decide) (by decide : _ = 207) ?_
            exact C44.retN (t := .boolean) at_207 rfl (by simp) (by decide) (by decide) (w := (1 : Int32)) rfl rfl
          · refine C44.iconst (1 : Int32) at_177 rfl rfl ?_
            refine C44.goto at_178 (by decide) (by decide : _ = 182) ?_
            refine C44.icmp_ne at_182 (by decide) (by decide : _ = 189) rfl (fun q => absurd (by rw [f31, if_pos c174]) q) (fun _ => ?_)
            refine C44.iconst (1 : Int32) at_185 rfl rfl ?_
            refine C44.goto at_186 (by decide) (by decide : _ = 190) ?_
            refine C44.istore at_190 rfl (L' := #[.val (.int i0), .val (.int i1), .val (.int i2), .val (.int i3), .val (.ref b1), .val (.ref b3), .val (.ref b5), .val (.ref b7), .val (.int my22), .val (.int (f31 my22 (0 : Int32) (0 : Int32))), .val (.int (1 : Int32)), .val (.int my40), .val (.int (f31 my40 (0 : Int32) my22)), .val (.int (1 : Int32))]) rfl ?_
            refine C44.iload at_192 rfl rfl ?_
            refine C44.if_eq at_194 (by decide) (by decide : _ = 206) rfl (fun q => absurd q (by decide)) (fun _ => ?_)
            refine C44.iload at_197 rfl rfl ?_
            refine C44.if_eq at_199 (by decide) (by decide : _ = 206) rfl (fun q => absurd q (by decide)) (fun _ => ?_)
            refine C44.iconst (1 : Int32) at_202 rfl rfl ?_
            refine C44.goto at_203 (by decide) (by decide : _ = 207) ?_
            exact C44.retN (t := .boolean) at_207 rfl (by simp) (by decide) (by decide) (w := (1 : Int32)) rfl rfl
  · refine C8.aload at_43 rfl rfl rfl ?_
    refine C8.aload at_45 rfl rfl rfl ?_
    refine C8.callV (hw _ (List.mem_of_getElem? (i := 134) rfl)) (hw _ (List.mem_of_getElem? (i := 135) rfl)) (hw _ (List.mem_of_getElem? (i := 137) rfl)) (hw _ (List.mem_of_getElem? (i := 136) rfl)) (hw _ (List.mem_of_getElem? (i := 2) rfl)) (hw _ (List.mem_of_getElem? (i := 138) rfl)) E_b1 (by decide) (a := b1) (rm17 l Z a0 hw b1 b3 al2 ce2 ix2 ed2 sl2 fi2 la2 nx2 co2 sc2 kce2 ked2 ksl2 kfi2 kla2 knx2 kco2 ksc2 k3 own_z16 own_z8 own_z8 own_z16 own_z16 (0 : Int32) (0 : Int32) i0 (0 : Int32) (0 : Int32) (0 : Int32) h8 n0 C8.size E_b1 F_b1_indexes F_b1_arity F_b1_cells F_b1_unique F_b1_size F_b1_source F_b1_deltaStart F_b1_deltaEnd E_ix2 F_ix2_slots F_ix2_firsts F_ix2_lasts F_ix2_nexts F_ix2_relation F_ix2_columns F_ix2_scratch F_ix2_groups V_sl2 V_fi2 V_la2 V_nx2 V_co2 V_sc2 V_ce2 E_al2 F_al2_modCount F_al2_elementData F_al2_size E_ed2 V_ed2 O_ked2 V_b3 g_b1 g_ce2 g_ix2 g_sc2 g_nx2 g_fi2 g_la2 g_sl2 hinv_2 (own_pre4 i0 i1 i2 i3 de kde lm al2 ce2 ix2 ed2 sl2 fi2 la2 nx2 co2 sc2 kce2 ked2 ksl2 kfi2 kla2 knx2 kco2 ksc2 hinv_2 hC_2 c40) hC_2 ne_sl2_fi2 ne_sl2_la2 ne_sl2_nx2 ne_sl2_co2 ne_sl2_sc2 ne_sl2_ce2 ne_sl2_ed2 ne_fi2_la2 ne_fi2_nx2 ne_fi2_co2 ne_fi2_sc2 ne_fi2_ce2 ne_fi2_ed2 ne_la2_nx2 ne_la2_co2 ne_la2_sc2 ne_la2_ce2 ne_la2_ed2 ne_nx2_co2 ne_nx2_sc2 ne_nx2_ce2 ne_nx2_ed2 ne_co2_sc2 ne_co2_ce2 ne_co2_ed2 ne_sc2_ce2 ne_sc2_ed2 ne_ce2_ed2 (Ne.symm ne_ce2_b3)) (argsL := [(.ref b3)]) pd17 rfl 0 (by decide) (by decide) (by decide) (by decide) (rest := []) rfl rfl (Nat.le_of_eq rfl) at_47 rfl (fun v45 T45 h45 C45 qq45 => ?_)
    obtain ⟨mS45, mF45, mL45, mN45, mC45, mg45, mk45, my45, rr45, rfl, K45, p45_0, p45_1, p45_2, p45_3, p45_4, p45_5, p45_6, p45_7, p45_8, p45_9, p45_10, p45_11, p45_12, p45_13, p45_14, p45_15, p45_16, p45_17, p45_18, p45_19, p45_20, p45_21, p45_22, p45_23, p45_24, p45_25, p45_26⟩ := qq45
    have ne_al2_ce2 : al2 ≠ ce2 := (own_nea E_al2 (hw _ (List.mem_of_getElem? (i := 10) rfl)) V_ce2)
    have ne_al2_ix2 : al2 ≠ ix2 := (ne_exa E_al2 E_ix2 (by decide))
    have ne_al2_sc2 : al2 ≠ sc2 := (own_nea E_al2 (hw _ (List.mem_of_getElem? (i := 10) rfl)) V_sc2)
    have ne_al2_nx2 : al2 ≠ nx2 := (own_nea E_al2 (hw _ (List.mem_of_getElem? (i := 10) rfl)) V_nx2)
    have ne_al2_fi2 : al2 ≠ fi2 := (own_nea E_al2 (hw _ (List.mem_of_getElem? (i := 10) rfl)) V_fi2)
    have ne_al2_la2 : al2 ≠ la2 := (own_nea E_al2 (hw _ (List.mem_of_getElem? (i := 10) rfl)) V_la2)
    have ne_al2_sl2 : al2 ≠ sl2 := (own_nea E_al2 (hw _ (List.mem_of_getElem? (i := 10) rfl)) V_sl2)
    have ne_co2_ix2 : co2 ≠ ix2 := (Ne.symm (own_nea E_ix2 (hw _ (List.mem_of_getElem? (i := 61) rfl)) V_co2))
    have ne_ed2_ix2 : ed2 ≠ ix2 := (ne_exa E_ed2 E_ix2 (by decide))
    have E_b1 := E_b1.keep K45
    have E_ix2 := E_ix2.keep K45
    have E_al2 := E_al2.keep K45
    have F_al2_modCount := F_al2_modCount.keep K45 (ninS (Ne.symm ne_b1_al2) (ninS ne_al2_ce2 (ninS ne_al2_ix2 (ninS ne_al2_sc2 (ninS ne_al2_nx2 (ninS ne_al2_fi2 (ninS ne_al2_la2 (ninS ne_al2_sl2 nin0))))))))
    have F_al2_elementData := F_al2_elementData.keep K45 (ninS (Ne.symm ne_b1_al2) (ninS ne_al2_ce2 (ninS ne_al2_ix2 (ninS ne_al2_sc2 (ninS ne_al2_nx2 (ninS ne_al2_fi2 (ninS ne_al2_la2 (ninS ne_al2_sl2 nin0))))))))
    have F_al2_size := F_al2_size.keep K45 (ninS (Ne.symm ne_b1_al2) (ninS ne_al2_ce2 (ninS ne_al2_ix2 (ninS ne_al2_sc2 (ninS ne_al2_nx2 (ninS ne_al2_fi2 (ninS ne_al2_la2 (ninS ne_al2_sl2 nin0))))))))
    have V_co2 := V_co2.keep K45 (ninS (Ne.symm ne_b1_co2) (ninS ne_co2_ce2 (ninS ne_co2_ix2 (ninS ne_co2_sc2 (ninS (Ne.symm ne_nx2_co2) (ninS (Ne.symm ne_fi2_co2) (ninS (Ne.symm ne_la2_co2) (ninS (Ne.symm ne_sl2_co2) nin0))))))))
    have E_ed2 := E_ed2.keep K45
    have V_ed2 := V_ed2.keep K45 (ninS (Ne.symm ne_b1_ed2) (ninS (Ne.symm ne_ce2_ed2) (ninS ne_ed2_ix2 (ninS (Ne.symm ne_sc2_ed2) (ninS (Ne.symm ne_nx2_ed2) (ninS (Ne.symm ne_fi2_ed2) (ninS (Ne.symm ne_la2_ed2) (ninS (Ne.symm ne_sl2_ed2) nin0))))))))
    have V_b3 := V_b3.keep K45 (ninS (Ne.symm ne_b1_b3) (ninS (Ne.symm ne_ce2_b3) (ninS (Ne.symm ne_ix2_b3) (ninS (Ne.symm ne_sc2_b3) (ninS (Ne.symm ne_nx2_b3) (ninS (Ne.symm ne_fi2_b3) (ninS (Ne.symm ne_la2_b3) (ninS (Ne.symm ne_sl2_b3) nin0))))))))
    have V_b5 := V_b5.keep K45 (ninS (Ne.symm ne_b1_b5) (ninS (Ne.symm ne_ce2_b5) (ninS (Ne.symm ne_ix2_b5) (ninS (Ne.symm ne_sc2_b5) (ninS (Ne.symm ne_nx2_b5) (ninS (Ne.symm ne_fi2_b5) (ninS (Ne.symm ne_la2_b5) (ninS (Ne.symm ne_sl2_b5) nin0))))))))
    have V_b7 := V_b7.keep K45 (ninS (Ne.symm ne_b1_b7) (ninS (Ne.symm ne_ce2_b7) (ninS (Ne.symm ne_ix2_b7) (ninS (Ne.symm ne_sc2_b7) (ninS (Ne.symm ne_nx2_b7) (ninS (Ne.symm ne_fi2_b7) (ninS (Ne.symm ne_la2_b7) (ninS (Ne.symm ne_sl2_b7) nin0))))))))
    have E_b1 := p45_0
    have F_b1_indexes := p45_1
    have F_b1_arity := p45_2
    have F_b1_cells := p45_3
    have F_b1_unique := p45_4
    have F_b1_size := p45_5
    have F_b1_source := p45_6
    have F_b1_deltaStart := p45_7
    have F_b1_deltaEnd := p45_8
    have E_ix2 := p45_9
    have F_ix2_slots := p45_10
    have F_ix2_firsts := p45_11
    have F_ix2_lasts := p45_12
    have F_ix2_nexts := p45_13
    have F_ix2_relation := p45_14
    have F_ix2_columns := p45_15
    have F_ix2_scratch := p45_16
    have F_ix2_groups := p45_17
    have V_sl2 := p45_18
    have V_fi2 := p45_19
    have V_la2 := p45_20
    have V_nx2 := p45_21
    have V_sc2 := p45_22
    have V_ce2 := p45_23
    have hinv_45 := p45_24
    have hC_45 := p45_25
    have hle_45 := p45_26
    show Go p e below F n0 (fun v _ => v = some (.int (1 : Int32))) T45 (mkF m 50 #[.val (.int i0), .val (.int i1), .val (.int i2), .val (.int i3), .val (.ref b1), .val (.ref b3), .val (.ref b5), .val (.ref b7), .unset, .unset, .unset, .unset, .unset, .unset] [(.int rr45)])
    refine C45.pop at_50 rfl rfl ?_
    refine C45.iloadN at_51 rfl rfl ?_
    refine C45.iconst (2 : Int32) at_52 rfl rfl ?_
    refine C45.iand at_53 rfl ?_
    refine C45.if_eq at_54 (by decide) (by decide : _ = 65) rfl (fun c54 => ?_) (fun c54 => ?_)
    · refine C45.aload at_65 rfl rfl rfl ?_
      refine C45.callV (hw _ (List.mem_of_getElem? (i := 234) rfl)) (hw _ (List.mem_of_getElem? (i := 91) rfl)) (hw _ (List.mem_of_getElem? (i := 93) rfl)) (hw _ (List.mem_of_getElem? (i := 92) rfl)) (hw _ (List.mem_of_getElem? (i := 2) rfl)) (hw _ (List.mem_of_getElem? (i := 94) rfl)) E_b1 (by decide) (a := b1) (rm11 l Z a0 hw b1 my45 h45 n0 C45.size F_b1_size) (argsL := []) pd11 rfl 0 (by decide) (by decide) (by decide) (by decide) (rest := []) rfl rfl (Nat.le_of_eq rfl) at_67 rfl (fun v46 T46 h46 C46 qq46 => ?_)
      obtain ⟨rfl, hh46⟩ := qq46
      have hh46 := hh46.symm; subst hh46
      show Go p e below F n0 (fun v _ => v = some (.int (1 : Int32))) T46 (mkF m 70 #[.val (.int i0), .val (.int i1), .val (.int i2), .val (.int i3), .val (.ref b1), .val (.ref b3), .val (.ref b5), .val (.ref b7), .unset, .unset, .unset, .unset, .unset, .unset] [(.int my45)])
      refine C46.istore at_70 rfl (L' := #[.val (.int i0), .val (.int i1), .val (.int i2), .val (.int i3), .val (.ref b1), .val (.ref b3), .val (.ref b5), .val (.ref b7), .val (.int my45), .unset, .unset, .unset, .unset, .unset]) rfl ?_
      refine C46.aload at_72 rfl rfl rfl ?_
      refine C46.callV (hw _ (List.mem_of_getElem? (i := 235) rfl)) (hw _ (List.mem_of_getElem? (i := 236) rfl)) (hw _ (List.mem_of_getElem? (i := 238) rfl)) (hw _ (List.mem_of_getElem? (i := 237) rfl)) (hw _ (List.mem_of_getElem? (i := 2) rfl)) (hw _ (List.mem_of_getElem? (i := 239) rfl)) E_b1 (by decide) (a := b1) (rm31 l Z a0 hw b1 al2 ce2 ix2 my45 (0 : Int32) (0 : Int32) h45 n0 C46.size E_b1 F_b1_indexes F_b1_arity F_b1_cells F_b1_unique F_b1_size F_b1_source F_b1_deltaStart F_b1_deltaEnd g_b1) (argsL := []) pd31 rfl 0 (by decide) (by decide) (by decide) (by decide) (rest := []) rfl rfl (Nat.le_of_eq rfl) at_74 rfl (fun v47 T47 h47 C47 qq47 => ?_)
      obtain ⟨rfl, K47, p47_0, p47_1, p47_2, p47_3, p47_4, p47_5, p47_6, p47_7, p47_8⟩ := qq47
      have E_b1 := E_b1.keep K47
      have E_ix2 := E_ix2.keep K47
      have E_al2 := E_al2.keep K47
      have F_al2_modCount := F_al2_modCount.keep K47 (ninS (Ne.symm ne_b1_al2) nin0)
      have F_al2_elementData := F_al2_elementData.keep K47 (ninS (Ne.symm ne_b1_al2) nin0)
      have F_al2_size := F_al2_size.keep K47 (ninS (Ne.symm ne_b1_al2) nin0)
      have V_co2 := V_co2.keep K47 (ninS (Ne.symm ne_b1_co2) nin0)
      have E_ed2 := E_ed2.keep K47
      have V_ed2 := V_ed2.keep K47 (ninS (Ne.symm ne_b1_ed2) nin0)
      have V_b3 := V_b3.keep K47 (ninS (Ne.symm ne_b1_b3) nin0)
      have V_b5 := V_b5.keep K47 (ninS (Ne.symm ne_b1_b5) nin0)
      have V_b7 := V_b7.keep K47 (ninS (Ne.symm ne_b1_b7) nin0)
      have F_ix2_slots := F_ix2_slots.keep K47 (ninS (Ne.symm ne_b1_ix2) nin0)
      have F_ix2_firsts := F_ix2_firsts.keep K47 (ninS (Ne.symm ne_b1_ix2) nin0)
      have F_ix2_lasts := F_ix2_lasts.keep K47 (ninS (Ne.symm ne_b1_ix2) nin0)
      have F_ix2_nexts := F_ix2_nexts.keep K47 (ninS (Ne.symm ne_b1_ix2) nin0)
      have F_ix2_relation := F_ix2_relation.keep K47 (ninS (Ne.symm ne_b1_ix2) nin0)
      have F_ix2_columns := F_ix2_columns.keep K47 (ninS (Ne.symm ne_b1_ix2) nin0)
      have F_ix2_scratch := F_ix2_scratch.keep K47 (ninS (Ne.symm ne_b1_ix2) nin0)
      have F_ix2_groups := F_ix2_groups.keep K47 (ninS (Ne.symm ne_b1_ix2) nin0)
      have V_sl2 := V_sl2.keep K47 (ninS (Ne.symm ne_b1_sl2) nin0)
      have V_fi2 := V_fi2.keep K47 (ninS (Ne.symm ne_b1_fi2) nin0)
      have V_la2 := V_la2.keep K47 (ninS (Ne.symm ne_b1_la2) nin0)
      have V_nx2 := V_nx2.keep K47 (ninS (Ne.symm ne_b1_nx2) nin0)
      have V_sc2 := V_sc2.keep K47 (ninS (Ne.symm ne_b1_sc2) nin0)
      have V_ce2 := V_ce2.keep K47 (ninS (Ne.symm ne_b1_ce2) nin0)
      have E_b1 := p47_0
      have F_b1_indexes := p47_1
      have F_b1_arity := p47_2
      have F_b1_cells := p47_3
      have F_b1_unique := p47_4
      have F_b1_size := p47_5
      have F_b1_source := p47_6
      have F_b1_deltaStart := p47_7
      have F_b1_deltaEnd := p47_8
      show Go p e below F n0 (fun v _ => v = some (.int (1 : Int32))) T47 (mkF m 77 #[.val (.int i0), .val (.int i1), .val (.int i2), .val (.int i3), .val (.ref b1), .val (.ref b3), .val (.ref b5), .val (.ref b7), .val (.int my45), .unset, .unset, .unset, .unset, .unset] [(.int (f31 my45 (0 : Int32) (0 : Int32)))])
      refine C47.istore at_77 rfl (L' := #[.val (.int i0), .val (.int i1), .val (.int i2), .val (.int i3), .val (.ref b1), .val (.ref b3), .val (.ref b5), .val (.ref b7), .val (.int my45), .val (.int (f31 my45 (0 : Int32) (0 : Int32))), .unset, .unset, .unset, .unset]) rfl ?_
      refine C47.aload at_79 rfl rfl rfl ?_
      refine C47.callV (hw _ (List.mem_of_getElem? (i := 244) rfl)) (hw _ (List.mem_of_getElem? (i := 245) rfl)) (hw _ (List.mem_of_getElem? (i := 247) rfl)) (hw _ (List.mem_of_getElem? (i := 246) rfl)) (hw _ (List.mem_of_getElem? (i := 2) rfl)) (hw _ (List.mem_of_getElem? (i := 248) rfl)) E_b1 (by decide) (a := b1) (rm32 l Z a0 hw b1 (0 : Int32) h47 n0 C47.size F_b1_deltaStart) (argsL := []) pd32 rfl 0 (by decide) (by decide) (by decide) (by decide) (rest := []) rfl rfl (Nat.le_of_eq rfl) at_81 rfl (fun v48 T48 h48 C48 qq48 => ?_)
      obtain ⟨rfl, hh48⟩ := qq48
      have hh48 := hh48.symm; subst hh48
      show Go p e below F n0 (fun v _ => v = some (.int (1 : Int32))) T48 (mkF m 84 #[.val (.int i0), .val (.int i1), .val (.int i2), .val (.int i3), .val (.ref b1), .val (.ref b3), .val (.ref b5), .val (.ref b7), .val (.int my45), .val (.int (f31 my45 (0 : Int32) (0 : Int32))), .unset, .unset, .unset, .unset] [(.int (0 : Int32))])
      refine C48.if_ne at_84 (by decide) (by decide : _ = 117) rfl (fun q => absurd (by decide) q) (fun _ => ?_)
      refine C48.aload at_87 rfl rfl rfl ?_
      refine C48.callV (hw _ (List.mem_of_getElem? (i := 249) rfl)) (hw _ (List.mem_of_getElem? (i := 250) rfl)) (hw _ (List.mem_of_getElem? (i := 252) rfl)) (hw _ (List.mem_of_getElem? (i := 251) rfl)) (hw _ (List.mem_of_getElem? (i := 2) rfl)) (hw _ (List.mem_of_getElem? (i := 253) rfl)) E_b1 (by decide) (a := b1) (rm33 l Z a0 hw b1 my45 h47 n0 C48.size F_b1_deltaEnd) (argsL := []) pd33 rfl 0 (by decide) (by decide) (by decide) (by decide) (rest := []) rfl rfl (Nat.le_of_eq rfl) at_89 rfl (fun v49 T49 h49 C49 qq49 => ?_)
      obtain ⟨rfl, hh49⟩ := qq49
      have hh49 := hh49.symm; subst hh49
      show Go p e below F n0 (fun v _ => v = some (.int (1 : Int32))) T49 (mkF m 92 #[.val (.int i0), .val (.int i1), .val (.int i2), .val (.int i3), .val (.ref b1), .val (.ref b3), .val (.ref b5), .val (.ref b7), .val (.int my45), .val (.int (f31 my45 (0 : Int32) (0 : Int32))), .unset, .unset, .unset, .unset] [(.int my45)])
      refine C49.iload at_92 rfl rfl ?_
      refine C49.icmp_ne at_94 (by decide) (by decide : _ = 117) rfl (fun q => absurd rfl q) (fun _ => ?_)
      refine C49.iload at_97 rfl rfl ?_
      refine C49.iconst (0 : Int32) at_99 rfl rfl ?_
      refine C49.iload at_100 rfl rfl ?_
      refine C49.icmp_ge at_102 (by decide) (by decide : _ = 109) rfl (fun c102 => ?_) (fun c102 => ?_)
      · refine C49.iconst (0 : Int32) at_109 rfl rfl ?_
        refine C49.icmp_ne at_110 (by decide) (by decide : _ = 117) rfl (fun q => absurd (by rw [f31, if_neg c102]) q) (fun _ => ?_)
        refine C49.iconst (1 : Int32) at_113 rfl rfl ?_
        refine C49.goto at_114 (by decide) (by decide : _ = 118) ?_
        refine C49.istore at_118 rfl (L' := #[.val (.int i0), .val (.int i1), .val (.int i2), .val (.int i3), .val (.ref b1), .val (.ref b3), .val (.ref b5), .val (.ref b7), .val (.int my45), .val (.int (f31 my45 (0 : Int32) (0 : Int32))), .val (.int (1 : Int32)), .unset, .unset, .unset]) rfl ?_
        refine C49.iloadN at_120 rfl rfl ?_
        refine C49.iconst (4 : Int32) at_121 rfl rfl ?_
        refine C49.iand at_122 rfl ?_
        refine C49.if_eq at_123 (by decide) (by decide : _ = 134) rfl (fun c123 => ?_) (fun c123 => ?_)
        · refine C49.aload at_134 rfl rfl rfl ?_
          refine C49.callV (hw _ (List.mem_of_getElem? (i := 234) rfl)) (hw _ (List.mem_of_getElem? (i := 91) rfl)) (hw _ (List.mem_of_getElem? (i := 93) rfl)) (hw _ (List.mem_of_getElem? (i := 92) rfl)) (hw _ (List.mem_of_getElem? (i := 2) rfl)) (hw _ (List.mem_of_getElem? (i := 94) rfl)) E_b1 (by decide) (a := b1) (rm11 l Z a0 hw b1 my45 h47 n0 C49.size F_b1_size) (argsL := []) pd11 rfl 0 (by decide) (by decide) (by decide) (by decide) (rest := []) rfl rfl (Nat.le_of_eq rfl) at_136 rfl (fun v50 T50 h50 C50 qq50 => ?_)
          obtain ⟨rfl, hh50⟩ := qq50
          have hh50 := hh50.symm; subst hh50
          show Go p e below F n0 (fun v _ => v = some (.int (1 : Int32))) T50 (mkF m 139 #[.val (.int i0), .val (.int i1), .val (.int i2), .val (.int i3), .val (.ref b1), .val (.ref b3), .val (.ref b5), .val (.ref b7), .val (.int my45), .val (.int (f31 my45 (0 : Int32) (0 : Int32))), .val (.int (1 : Int32)), .unset, .unset, .unset] [(.int my45)])
          refine C50.istore at_139 rfl (L' := #[.val (.int i0), .val (.int i1), .val (.int i2), .val (.int i3), .val (.ref b1), .val (.ref b3), .val (.ref b5), .val (.ref b7), .val (.int my45), .val (.int (f31 my45 (0 : Int32) (0 : Int32))), .val (.int (1 : Int32)), .val (.int my45), .unset, .unset]) rfl ?_
          refine C50.aload at_141 rfl rfl rfl ?_
          refine C50.callV (hw _ (List.mem_of_getElem? (i := 235) rfl)) (hw _ (List.mem_of_getElem? (i := 236) rfl)) (hw _ (List.mem_of_getElem? (i := 238) rfl)) (hw _ (List.mem_of_getElem? (i := 237) rfl)) (hw _ (List.mem_of_getElem? (i := 2) rfl)) (hw _ (List.mem_of_getElem? (i := 239) rfl)) E_b1 (by decide) (a := b1) (rm31 l Z a0 hw b1 al2 ce2 ix2 my45 (0 : Int32) my45 h47 n0 C50.size E_b1 F_b1_indexes F_b1_arity F_b1_cells F_b1_unique F_b1_size F_b1_source F_b1_deltaStart F_b1_deltaEnd g_b1) (argsL := []) pd31 rfl 0 (by decide) (by decide) (by decide) (by decide) (rest := []) rfl rfl (Nat.le_of_eq rfl) at_143 rfl (fun v51 T51 h51 C51 qq51 => ?_)
          obtain ⟨rfl, K51, p51_0, p51_1, p51_2, p51_3, p51_4, p51_5, p51_6, p51_7, p51_8⟩ := qq51
          have E_b1 := E_b1.keep K51
          have E_ix2 := E_ix2.keep K51
          have E_al2 := E_al2.keep K51
          have F_al2_modCount := F_al2_modCount.keep K51 (ninS (Ne.symm ne_b1_al2) nin0)
          have F_al2_elementData := F_al2_elementData.keep K51 (ninS (Ne.symm ne_b1_al2) nin0)
          have F_al2_size := F_al2_size.keep K51 (ninS (Ne.symm ne_b1_al2) nin0)
          have V_co2 := V_co2.keep K51 (ninS (Ne.symm ne_b1_co2) nin0)
          have E_ed2 := E_ed2.keep K51
          have V_ed2 := V_ed2.keep K51 (ninS (Ne.symm ne_b1_ed2) nin0)
          have V_b3 := V_b3.keep K51 (ninS (Ne.symm ne_b1_b3) nin0)
          have V_b5 := V_b5.keep K51 (ninS (Ne.symm ne_b1_b5) nin0)
          have V_b7 := V_b7.keep K51 (ninS (Ne.symm ne_b1_b7) nin0)
          have F_ix2_slots := F_ix2_slots.keep K51 (ninS (Ne.symm ne_b1_ix2) nin0)
          have F_ix2_firsts := F_ix2_firsts.keep K51 (ninS (Ne.symm ne_b1_ix2) nin0)
          have F_ix2_lasts := F_ix2_lasts.keep K51 (ninS (Ne.symm ne_b1_ix2) nin0)
          have F_ix2_nexts := F_ix2_nexts.keep K51 (ninS (Ne.symm ne_b1_ix2) nin0)
          have F_ix2_relation := F_ix2_relation.keep K51 (ninS (Ne.symm ne_b1_ix2) nin0)
          have F_ix2_columns := F_ix2_columns.keep K51 (ninS (Ne.symm ne_b1_ix2) nin0)
          have F_ix2_scratch := F_ix2_scratch.keep K51 (ninS (Ne.symm ne_b1_ix2) nin0)
          have F_ix2_groups := F_ix2_groups.keep K51 (ninS (Ne.symm ne_b1_ix2) nin0)
          have V_sl2 := V_sl2.keep K51 (ninS (Ne.symm ne_b1_sl2) nin0)
          have V_fi2 := V_fi2.keep K51 (ninS (Ne.symm ne_b1_fi2) nin0)
          have V_la2 := V_la2.keep K51 (ninS (Ne.symm ne_b1_la2) nin0)
          have V_nx2 := V_nx2.keep K51 (ninS (Ne.symm ne_b1_nx2) nin0)
          have V_sc2 := V_sc2.keep K51 (ninS (Ne.symm ne_b1_sc2) nin0)
          have V_ce2 := V_ce2.keep K51 (ninS (Ne.symm ne_b1_ce2) nin0)
          have E_b1 := p51_0
          have F_b1_indexes := p51_1
          have F_b1_arity := p51_2
          have F_b1_cells := p51_3
          have F_b1_unique := p51_4
          have F_b1_size := p51_5
          have F_b1_source := p51_6
          have F_b1_deltaStart := p51_7
          have F_b1_deltaEnd := p51_8
          show Go p e below F n0 (fun v _ => v = some (.int (1 : Int32))) T51 (mkF m 146 #[.val (.int i0), .val (.int i1), .val (.int i2), .val (.int i3), .val (.ref b1), .val (.ref b3), .val (.ref b5), .val (.ref b7), .val (.int my45), .val (.int (f31 my45 (0 : Int32) (0 : Int32))), .val (.int (1 : Int32)), .val (.int my45), .unset, .unset] [(.int (f31 my45 (0 : Int32) my45))])
          refine C51.istore at_146 rfl (L' := #[.val (.int i0), .val (.int i1), .val (.int i2), .val (.int i3), .val (.ref b1), .val (.ref b3), .val (.ref b5), .val (.ref b7), .val (.int my45), .val (.int (f31 my45 (0 : Int32) (0 : Int32))), .val (.int (1 : Int32)), .val (.int my45), .val (.int (f31 my45 (0 : Int32) my45)), .unset]) rfl ?_
          refine C51.aload at_148 rfl rfl rfl ?_
          refine C51.callV (hw _ (List.mem_of_getElem? (i := 244) rfl)) (hw _ (List.mem_of_getElem? (i := 245) rfl)) (hw _ (List.mem_of_getElem? (i := 247) rfl)) (hw _ (List.mem_of_getElem? (i := 246) rfl)) (hw _ (List.mem_of_getElem? (i := 2) rfl)) (hw _ (List.mem_of_getElem? (i := 248) rfl)) E_b1 (by decide) (a := b1) (rm32 l Z a0 hw b1 my45 h51 n0 C51.size F_b1_deltaStart) (argsL := []) pd32 rfl 0 (by decide) (by decide) (by decide) (by decide) (rest := []) rfl rfl (Nat.le_of_eq rfl) at_150 rfl (fun v52 T52 h52 C52 qq52 => ?_)
          obtain ⟨rfl, hh52⟩ := qq52
          have hh52 := hh52.symm; subst hh52
          show Go p e below F n0 (fun v _ => v = some (.int (1 : Int32))) T52 (mkF m 153 #[.val (.int i0), .val (.int i1), .val (.int i2), .val (.int i3), .val (.ref b1), .val (.ref b3), .val (.ref b5), .val (.ref b7), .val (.int my45), .val (.int (f31 my45 (0 : Int32) (0 : Int32))), .val (.int (1 : Int32)), .val (.int my45), .val (.int (f31 my45 (0 : Int32) my45)), .unset] [(.int my45)])
          refine C52.iload at_153 rfl rfl ?_
          refine C52.icmp_ne at_155 (by decide) (by decide : _ = 189) rfl (fun q => absurd rfl q) (fun _ => ?_)
          refine C52.aload at_158 rfl rfl rfl ?_
          refine C52.callV (hw _ (List.mem_of_getElem? (i := 249) rfl)) (hw _ (List.mem_of_getElem? (i := 250) rfl)) (hw _ (List.mem_of_getElem? (i := 252) rfl)) (hw _ (List.mem_of_getElem? (i := 251) rfl)) (hw _ (List.mem_of_getElem? (i := 2) rfl)) (hw _ (List.mem_of_getElem? (i := 253) rfl)) E_b1 (by decide) (a := b1) (rm33 l Z a0 hw b1 my45 h51 n0 C52.size F_b1_deltaEnd) (argsL := []) pd33 rfl 0 (by decide) (by decide) (by decide) (by decide) (rest := []) rfl rfl (Nat.le_of_eq rfl) at_160 rfl (fun v53 T53 h53 C53 qq53 => ?_)
          obtain ⟨rfl, hh53⟩ := qq53
          have hh53 := hh53.symm; subst hh53
          show Go p e below F n0 (fun v _ => v = some (.int (1 : Int32))) T53 (mkF m 163 #[.val (.int i0), .val (.int i1), .val (.int i2), .val (.int i3), .val (.ref b1), .val (.ref b3), .val (.ref b5), .val (.ref b7), .val (.int my45), .val (.int (f31 my45 (0 : Int32) (0 : Int32))), .val (.int (1 : Int32)), .val (.int my45), .val (.int (f31 my45 (0 : Int32) my45)), .unset] [(.int my45)])
          refine C53.iload at_163 rfl rfl ?_
          refine C53.icmp_ne at_165 (by decide) (by decide : _ = 189) rfl (fun q => absurd rfl q) (fun _ => ?_)
          refine C53.iload at_168 rfl rfl ?_
          refine C53.iload at_170 rfl rfl ?_
          refine C53.iload at_172 rfl rfl ?_
          refine C53.icmp_ge at_174 (by decide) (by decide : _ = 181) rfl (fun c174 => ?_) (fun c174 => ?_)
          · refine C53.iconst (0 : Int32) at_181 rfl rfl ?_
            refine C53.icmp_ne at_182 (by decide) (by decide : _ = 189) rfl (fun q => absurd (by rw [f31, if_neg c174]) q) (fun _ => ?_)
            refine C53.iconst (1 : Int32) at_185 rfl rfl ?_
            refine C53.goto at_186 (by decide) (by decide : _ = 190) ?_
            refine C53.istore at_190 rfl (L' := #[.val (.int i0), .val (.int i1), .val (.int i2), .val (.int i3), .val (.ref b1), .val (.ref b3), .val (.ref b5), .val (.ref b7), .val (.int my45), .val (.int (f31 my45 (0 : Int32) (0 : Int32))), .val (.int (1 : Int32)), .val (.int my45), .val (.int (f31 my45 (0 : Int32) my45)), .val (.int (1 : Int32))]) rfl ?_
            refine C53.iload at_192 rfl rfl ?_
            refine C53.if_eq at_194 (by decide) (by decide : _ = 206) rfl (fun q => absurd q (by decide)) (fun _ => ?_)
            refine C53.iload at_197 rfl rfl ?_
            refine C53.if_eq at_199 (by decide) (by decide : _ = 206) rfl (fun q => absurd q (by decide)) (fun _ => ?_)
            refine C53.iconst (1 : Int32) at_202 rfl rfl ?_
            refine C53.goto at_203 (by decide) (by decide : _ = 207) ?_
            exact C53.retN (t := .boolean) at_207 rfl (by simp) (by decide) (by decide) (w := (1 : Int32)) rfl rfl
          · refine C53.iconst (1 : Int32) at_177 rfl rfl ?_
            refine C53.goto at_178 (by decide) (by decide : _ = 182) ?_
            refine C53.icmp_ne at_182 (by decide) (by decide : _ = 189) rfl (fun q => absurd (by rw [f31, if_pos c174]) q) (fun _ => ?_)
            refine C53.iconst (1 : Int32) at_185 rfl rfl ?_
            refine C53.goto at_186 (by decide) (by decide : _ = 190) ?_
            refine C53.istore at_190 rfl (L' := #[.val (.int i0), .val (.int i1), .val (.int i2), .val (.int i3), .val (.ref b1), .val (.ref b3), .val (.ref b5), .val (.ref b7), .val (.int my45), .val (.int (f31 my45 (0 : Int32) (0 : Int32))), .val (.int (1 : Int32)), .val (.int my45), .val (.int (f31 my45 (0 : Int32) my45)), .val (.int (1 : Int32))]) rfl ?_
            refine C53.iload at_192 rfl rfl ?_
            refine C53.if_eq at_194 (by decide) (by decide : _ = 206) rfl (fun q => absurd q (by decide)) (fun _ => ?_)
            refine C53.iload at_197 rfl rfl ?_
            refine C53.if_eq at_199 (by decide) (by decide : _ = 206) rfl (fun q => absurd q (by decide)) (fun _ => ?_)
            refine C53.iconst (1 : Int32) at_202 rfl rfl ?_
            refine C53.goto at_203 (by decide) (by decide : _ = 207) ?_
            exact C53.retN (t := .boolean) at_207 rfl (by simp) (by decide) (by decide) (w := (1 : Int32)) rfl rfl
        · refine C49.aload at_126 rfl rfl rfl ?_
          refine C49.aload at_128 rfl rfl rfl ?_
          refine C49.callV (hw _ (List.mem_of_getElem? (i := 134) rfl)) (hw _ (List.mem_of_getElem? (i := 135) rfl)) (hw _ (List.mem_of_getElem? (i := 137) rfl)) (hw _ (List.mem_of_getElem? (i := 136) rfl)) (hw _ (List.mem_of_getElem? (i := 2) rfl)) (hw _ (List.mem_of_getElem? (i := 138) rfl)) E_b1 (by decide) (a := b1) (rm17 l Z a0 hw b1 b7 al2 ce2 ix2 ed2 sl2 fi2 la2 nx2 co2 sc2 kce2 ked2 ksl2 kfi2 kla2 knx2 kco2 ksc2 k7 mS45 mF45 mL45 mN45 mC45 mg45 mk45 i2 my45 (0 : Int32) my45 h47 n0 C49.size E_b1 F_b1_indexes F_b1_arity F_b1_cells F_b1_unique F_b1_size F_b1_source F_b1_deltaStart F_b1_deltaEnd E_ix2 F_ix2_slots F_ix2_firsts F_ix2_lasts F_ix2_nexts F_ix2_relation F_ix2_columns F_ix2_scratch F_ix2_groups V_sl2 V_fi2 V_la2 V_nx2 V_co2 V_sc2 V_ce2 E_al2 F_al2_modCount F_al2_elementData F_al2_size E_ed2 V_ed2 O_ked2 V_b7 g_b1 g_ce2 g_ix2 g_sc2 g_nx2 g_fi2 g_la2 g_sl2 hinv_45 (own_pre5 i0 i1 i2 i3 de kde lm al2 ce2 ix2 ed2 sl2 fi2 la2 nx2 co2 sc2 kce2 ked2 ksl2 kfi2 kla2 knx2 kco2 ksc2 mS45 mF45 mL45 mN45 mC45 mg45 mk45 my45 rr45 hinv_2 hC_2 hinv_45 hC_45 hle_45 c40 c54 c102 c123) hC_45 ne_sl2_fi2 ne_sl2_la2 ne_sl2_nx2 ne_sl2_co2 ne_sl2_sc2 ne_sl2_ce2 ne_sl2_ed2 ne_fi2_la2 ne_fi2_nx2 ne_fi2_co2 ne_fi2_sc2 ne_fi2_ce2 ne_fi2_ed2 ne_la2_nx2 ne_la2_co2 ne_la2_sc2 ne_la2_ce2 ne_la2_ed2 ne_nx2_co2 ne_nx2_sc2 ne_nx2_ce2 ne_nx2_ed2 ne_co2_sc2 ne_co2_ce2 ne_co2_ed2 ne_sc2_ce2 ne_sc2_ed2 ne_ce2_ed2 (Ne.symm ne_ce2_b7)) (argsL := [(.ref b7)]) pd17 rfl 0 (by decide) (by decide) (by decide) (by decide) (rest := []) rfl rfl (Nat.le_of_eq rfl) at_130 rfl (fun v54 T54 h54 C54 qq54 => ?_)
          obtain ⟨mS54, mF54, mL54, mN54, mC54, mg54, mk54, my54, rr54, rfl, K54, p54_0, p54_1, p54_2, p54_3, p54_4, p54_5, p54_6, p54_7, p54_8, p54_9, p54_10, p54_11, p54_12, p54_13, p54_14, p54_15, p54_16, p54_17, p54_18, p54_19, p54_20, p54_21, p54_22, p54_23, p54_24, p54_25, p54_26⟩ := qq54
          have E_b1 := E_b1.keep K54
          have E_ix2 := E_ix2.keep K54
          have E_al2 := E_al2.keep K54
          have F_al2_modCount := F_al2_modCount.keep K54 (ninS (Ne.symm ne_b1_al2) (ninS ne_al2_ce2 (ninS ne_al2_ix2 (ninS ne_al2_sc2 (ninS ne_al2_nx2 (ninS ne_al2_fi2 (ninS ne_al2_la2 (ninS ne_al2_sl2 nin0))))))))
          have F_al2_elementData := F_al2_elementData.keep K54 (ninS (Ne.symm ne_b1_al2) (ninS ne_al2_ce2 (ninS ne_al2_ix2 (ninS ne_al2_sc2 (ninS ne_al2_nx2 (ninS ne_al2_fi2 (ninS ne_al2_la2 (ninS ne_al2_sl2 nin0))))))))
          have F_al2_size := F_al2_size.keep K54 (ninS (Ne.symm ne_b1_al2) (ninS ne_al2_ce2 (ninS ne_al2_ix2 (ninS ne_al2_sc2 (ninS ne_al2_nx2 (ninS ne_al2_fi2 (ninS ne_al2_la2 (ninS ne_al2_sl2 nin0))))))))
          have V_co2 := V_co2.keep K54 (ninS (Ne.symm ne_b1_co2) (ninS ne_co2_ce2 (ninS ne_co2_ix2 (ninS ne_co2_sc2 (ninS (Ne.symm ne_nx2_co2) (ninS (Ne.symm ne_fi2_co2) (ninS (Ne.symm ne_la2_co2) (ninS (Ne.symm ne_sl2_co2) nin0))))))))
          have E_ed2 := E_ed2.keep K54
          have V_ed2 := V_ed2.keep K54 (ninS (Ne.symm ne_b1_ed2) (ninS (Ne.symm ne_ce2_ed2) (ninS ne_ed2_ix2 (ninS (Ne.symm ne_sc2_ed2) (ninS (Ne.symm ne_nx2_ed2) (ninS (Ne.symm ne_fi2_ed2) (ninS (Ne.symm ne_la2_ed2) (ninS (Ne.symm ne_sl2_ed2) nin0))))))))
          have V_b3 := V_b3.keep K54 (ninS (Ne.symm ne_b1_b3) (ninS (Ne.symm ne_ce2_b3) (ninS (Ne.symm ne_ix2_b3) (ninS (Ne.symm ne_sc2_b3) (ninS (Ne.symm ne_nx2_b3) (ninS (Ne.symm ne_fi2_b3) (ninS (Ne.symm ne_la2_b3) (ninS (Ne.symm ne_sl2_b3) nin0))))))))
          have V_b5 := V_b5.keep K54 (ninS (Ne.symm ne_b1_b5) (ninS (Ne.symm ne_ce2_b5) (ninS (Ne.symm ne_ix2_b5) (ninS (Ne.symm ne_sc2_b5) (ninS (Ne.symm ne_nx2_b5) (ninS (Ne.symm ne_fi2_b5) (ninS (Ne.symm ne_la2_b5) (ninS (Ne.symm ne_sl2_b5) nin0))))))))
          have V_b7 := V_b7.keep K54 (ninS (Ne.symm ne_b1_b7) (ninS (Ne.symm ne_ce2_b7) (ninS (Ne.symm ne_ix2_b7) (ninS (Ne.symm ne_sc2_b7) (ninS (Ne.symm ne_nx2_b7) (ninS (Ne.symm ne_fi2_b7) (ninS (Ne.symm ne_la2_b7) (ninS (Ne.symm ne_sl2_b7) nin0))))))))
          have E_b1 := p54_0
          have F_b1_indexes := p54_1
          have F_b1_arity := p54_2
          have F_b1_cells := p54_3
          have F_b1_unique := p54_4
          have F_b1_size := p54_5
          have F_b1_source := p54_6
          have F_b1_deltaStart := p54_7
          have F_b1_deltaEnd := p54_8
          have E_ix2 := p54_9
          have F_ix2_slots := p54_10
          have F_ix2_firsts := p54_11
          have F_ix2_lasts := p54_12
          have F_ix2_nexts := p54_13
          have F_ix2_relation := p54_14
          have F_ix2_columns := p54_15
          have F_ix2_scratch := p54_16
          have F_ix2_groups := p54_17
          have V_sl2 := p54_18
          have V_fi2 := p54_19
          have V_la2 := p54_20
          have V_nx2 := p54_21
          have V_sc2 := p54_22
          have V_ce2 := p54_23
          have hinv_54 := p54_24
          have hC_54 := p54_25
          have hle_54 := p54_26
          show Go p e below F n0 (fun v _ => v = some (.int (1 : Int32))) T54 (mkF m 133 #[.val (.int i0), .val (.int i1), .val (.int i2), .val (.int i3), .val (.ref b1), .val (.ref b3), .val (.ref b5), .val (.ref b7), .val (.int my45), .val (.int (f31 my45 (0 : Int32) (0 : Int32))), .val (.int (1 : Int32)), .unset, .unset, .unset] [(.int rr54)])
          refine C54.pop at_133 rfl rfl ?_
          refine C54.aload at_134 rfl rfl rfl ?_
          refine C54.callV (hw _ (List.mem_of_getElem? (i := 234) rfl)) (hw _ (List.mem_of_getElem? (i := 91) rfl)) (hw _ (List.mem_of_getElem? (i := 93) rfl)) (hw _ (List.mem_of_getElem? (i := 92) rfl)) (hw _ (List.mem_of_getElem? (i := 2) rfl)) (hw _ (List.mem_of_getElem? (i := 94) rfl)) E_b1 (by decide) (a := b1) (rm11 l Z a0 hw b1 my54 h54 n0 C54.size F_b1_size) (argsL := []) pd11 rfl 0 (by decide) (by decide) (by decide) (by decide) (rest := []) rfl rfl (Nat.le_of_eq rfl) at_136 rfl (fun v55 T55 h55 C55 qq55 => ?_)
          obtain ⟨rfl, hh55⟩ := qq55
          have hh55 := hh55.symm; subst hh55
          show Go p e below F n0 (fun v _ => v = some (.int (1 : Int32))) T55 (mkF m 139 #[.val (.int i0), .val (.int i1), .val (.int i2), .val (.int i3), .val (.ref b1), .val (.ref b3), .val (.ref b5), .val (.ref b7), .val (.int my45), .val (.int (f31 my45 (0 : Int32) (0 : Int32))), .val (.int (1 : Int32)), .unset, .unset, .unset] [(.int my54)])
          refine C55.istore at_139 rfl (L' := #[.val (.int i0), .val (.int i1), .val (.int i2), .val (.int i3), .val (.ref b1), .val (.ref b3), .val (.ref b5), .val (.ref b7), .val (.int my45), .val (.int (f31 my45 (0 : Int32) (0 : Int32))), .val (.int (1 : Int32)), .val (.int my54), .unset, .unset]) rfl ?_
          refine C55.aload at_141 rfl rfl rfl ?_
          refine C55.callV (hw _ (List.mem_of_getElem? (i := 235) rfl)) (hw _ (List.mem_of_getElem? (i := 236) rfl)) (hw _ (List.mem_of_getElem? (i := 238) rfl)) (hw _ (List.mem_of_getElem? (i := 237) rfl)) (hw _ (List.mem_of_getElem? (i := 2) rfl)) (hw _ (List.mem_of_getElem? (i := 239) rfl)) E_b1 (by decide) (a := b1) (rm31 l Z a0 hw b1 al2 ce2 ix2 my54 (0 : Int32) my45 h54 n0 C55.size E_b1 F_b1_indexes F_b1_arity F_b1_cells F_b1_unique F_b1_size F_b1_source F_b1_deltaStart F_b1_deltaEnd g_b1) (argsL := []) pd31 rfl 0 (by decide) (by decide) (by decide) (by decide) (rest := []) rfl rfl (Nat.le_of_eq rfl) at_143 rfl (fun v56 T56 h56 C56 qq56 => ?_)
          obtain ⟨rfl, K56, p56_0, p56_1, p56_2, p56_3, p56_4, p56_5, p56_6, p56_7, p56_8⟩ := qq56
          have E_b1 := E_b1.keep K56
          have E_ix2 := E_ix2.keep K56
          have E_al2 := E_al2.keep K56
          have F_al2_modCount := F_al2_modCount.keep K56 (ninS (Ne.symm ne_b1_al2) nin0)
          have F_al2_elementData := F_al2_elementData.keep K56 (ninS (Ne.symm ne_b1_al2) nin0)
          have F_al2_size := F_al2_size.keep K56 (ninS (Ne.symm ne_b1_al2) nin0)
          have V_co2 := V_co2.keep K56 (ninS (Ne.symm ne_b1_co2) nin0)
          have E_ed2 := E_ed2.keep K56
          have V_ed2 := V_ed2.keep K56 (ninS (Ne.symm ne_b1_ed2) nin0)
          have V_b3 := V_b3.keep K56 (ninS (Ne.symm ne_b1_b3) nin0)
          have V_b5 := V_b5.keep K56 (ninS (Ne.symm ne_b1_b5) nin0)
          have V_b7 := V_b7.keep K56 (ninS (Ne.symm ne_b1_b7) nin0)
          have F_ix2_slots := F_ix2_slots.keep K56 (ninS (Ne.symm ne_b1_ix2) nin0)
          have F_ix2_firsts := F_ix2_firsts.keep K56 (ninS (Ne.symm ne_b1_ix2) nin0)
          have F_ix2_lasts := F_ix2_lasts.keep K56 (ninS (Ne.symm ne_b1_ix2) nin0)
          have F_ix2_nexts := F_ix2_nexts.keep K56 (ninS (Ne.symm ne_b1_ix2) nin0)
          have F_ix2_relation := F_ix2_relation.keep K56 (ninS (Ne.symm ne_b1_ix2) nin0)
          have F_ix2_columns := F_ix2_columns.keep K56 (ninS (Ne.symm ne_b1_ix2) nin0)
          have F_ix2_scratch := F_ix2_scratch.keep K56 (ninS (Ne.symm ne_b1_ix2) nin0)
          have F_ix2_groups := F_ix2_groups.keep K56 (ninS (Ne.symm ne_b1_ix2) nin0)
          have V_sl2 := V_sl2.keep K56 (ninS (Ne.symm ne_b1_sl2) nin0)
          have V_fi2 := V_fi2.keep K56 (ninS (Ne.symm ne_b1_fi2) nin0)
          have V_la2 := V_la2.keep K56 (ninS (Ne.symm ne_b1_la2) nin0)
          have V_nx2 := V_nx2.keep K56 (ninS (Ne.symm ne_b1_nx2) nin0)
          have V_sc2 := V_sc2.keep K56 (ninS (Ne.symm ne_b1_sc2) nin0)
          have V_ce2 := V_ce2.keep K56 (ninS (Ne.symm ne_b1_ce2) nin0)
          have E_b1 := p56_0
          have F_b1_indexes := p56_1
          have F_b1_arity := p56_2
          have F_b1_cells := p56_3
          have F_b1_unique := p56_4
          have F_b1_size := p56_5
          have F_b1_source := p56_6
          have F_b1_deltaStart := p56_7
          have F_b1_deltaEnd := p56_8
          show Go p e below F n0 (fun v _ => v = some (.int (1 : Int32))) T56 (mkF m 146 #[.val (.int i0), .val (.int i1), .val (.int i2), .val (.int i3), .val (.ref b1), .val (.ref b3), .val (.ref b5), .val (.ref b7), .val (.int my45), .val (.int (f31 my45 (0 : Int32) (0 : Int32))), .val (.int (1 : Int32)), .val (.int my54), .unset, .unset] [(.int (f31 my54 (0 : Int32) my45))])
          refine C56.istore at_146 rfl (L' := #[.val (.int i0), .val (.int i1), .val (.int i2), .val (.int i3), .val (.ref b1), .val (.ref b3), .val (.ref b5), .val (.ref b7), .val (.int my45), .val (.int (f31 my45 (0 : Int32) (0 : Int32))), .val (.int (1 : Int32)), .val (.int my54), .val (.int (f31 my54 (0 : Int32) my45)), .unset]) rfl ?_
          refine C56.aload at_148 rfl rfl rfl ?_
          refine C56.callV (hw _ (List.mem_of_getElem? (i := 244) rfl)) (hw _ (List.mem_of_getElem? (i := 245) rfl)) (hw _ (List.mem_of_getElem? (i := 247) rfl)) (hw _ (List.mem_of_getElem? (i := 246) rfl)) (hw _ (List.mem_of_getElem? (i := 2) rfl)) (hw _ (List.mem_of_getElem? (i := 248) rfl)) E_b1 (by decide) (a := b1) (rm32 l Z a0 hw b1 my45 h56 n0 C56.size F_b1_deltaStart) (argsL := []) pd32 rfl 0 (by decide) (by decide) (by decide) (by decide) (rest := []) rfl rfl (Nat.le_of_eq rfl) at_150 rfl (fun v57 T57 h57 C57 qq57 => ?_)
          obtain ⟨rfl, hh57⟩ := qq57
          have hh57 := hh57.symm; subst hh57
          show Go p e below F n0 (fun v _ => v = some (.int (1 : Int32))) T57 (mkF m 153 #[.val (.int i0), .val (.int i1), .val (.int i2), .val (.int i3), .val (.ref b1), .val (.ref b3), .val (.ref b5), .val (.ref b7), .val (.int my45), .val (.int (f31 my45 (0 : Int32) (0 : Int32))), .val (.int (1 : Int32)), .val (.int my54), .val (.int (f31 my54 (0 : Int32) my45)), .unset] [(.int my45)])
          refine C57.iload at_153 rfl rfl ?_
          refine C57.icmp_ne at_155 (by decide) (by decide : _ = 189) rfl (fun q => absurd rfl q) (fun _ => ?_)
          refine C57.aload at_158 rfl rfl rfl ?_
          refine C57.callV (hw _ (List.mem_of_getElem? (i := 249) rfl)) (hw _ (List.mem_of_getElem? (i := 250) rfl)) (hw _ (List.mem_of_getElem? (i := 252) rfl)) (hw _ (List.mem_of_getElem? (i := 251) rfl)) (hw _ (List.mem_of_getElem? (i := 2) rfl)) (hw _ (List.mem_of_getElem? (i := 253) rfl)) E_b1 (by decide) (a := b1) (rm33 l Z a0 hw b1 my54 h56 n0 C57.size F_b1_deltaEnd) (argsL := []) pd33 rfl 0 (by decide) (by decide) (by decide) (by decide) (rest := []) rfl rfl (Nat.le_of_eq rfl) at_160 rfl (fun v58 T58 h58 C58 qq58 => ?_)
          obtain ⟨rfl, hh58⟩ := qq58
          have hh58 := hh58.symm; subst hh58
          show Go p e below F n0 (fun v _ => v = some (.int (1 : Int32))) T58 (mkF m 163 #[.val (.int i0), .val (.int i1), .val (.int i2), .val (.int i3), .val (.ref b1), .val (.ref b3), .val (.ref b5), .val (.ref b7), .val (.int my45), .val (.int (f31 my45 (0 : Int32) (0 : Int32))), .val (.int (1 : Int32)), .val (.int my54), .val (.int (f31 my54 (0 : Int32) my45)), .unset] [(.int my54)])
          refine C58.iload at_163 rfl rfl ?_
          refine C58.icmp_ne at_165 (by decide) (by decide : _ = 189) rfl (fun q => absurd rfl q) (fun _ => ?_)
          refine C58.iload at_168 rfl rfl ?_
          refine C58.iload at_170 rfl rfl ?_
          refine C58.iload at_172 rfl rfl ?_
          refine C58.icmp_ge at_174 (by decide) (by decide : _ = 181) rfl (fun c174 => ?_) (fun c174 => ?_)
          · refine C58.iconst (0 : Int32) at_181 rfl rfl ?_
            refine C58.icmp_ne at_182 (by decide) (by decide : _ = 189) rfl (fun q => absurd (by rw [f31, if_neg c174]) q) (fun _ => ?_)
            refine C58.iconst (1 : Int32) at_185 rfl rfl ?_
            refine C58.goto at_186 (by decide) (by decide : _ = 190) ?_
            refine C58.istore at_190 rfl (L' := #[.val (.int i0), .val (.int i1), .val (.int i2), .val (.int i3), .val (.ref b1), .val (.ref b3), .val (.ref b5), .val (.ref b7), .val (.int my45), .val (.int (f31 my45 (0 : Int32) (0 : Int32))), .val (.int (1 : Int32)), .val (.int my54), .val (.int (f31 my54 (0 : Int32) my45)), .val (.int (1 : Int32))]) rfl ?_
            refine C58.iload at_192 rfl rfl ?_
            refine C58.if_eq at_194 (by decide) (by decide : _ = 206) rfl (fun q => absurd q (by decide)) (fun _ => ?_)
            refine C58.iload at_197 rfl rfl ?_
            refine C58.if_eq at_199 (by decide) (by decide : _ = 206) rfl (fun q => absurd q (by decide)) (fun _ => ?_)
            refine C58.iconst (1 : Int32) at_202 rfl rfl ?_
            refine C58.goto at_203 (by decide) (by decide : _ = 207) ?_
            exact C58.retN (t := .boolean) at_207 rfl (by simp) (by decide) (by decide) (w := (1 : Int32)) rfl rfl
          · refine C58.iconst (1 : Int32) at_177 rfl rfl ?_
            refine C58.goto at_178 (by decide) (by decide : _ = 182) ?_
            refine C58.icmp_ne at_182 (by decide) (by decide : _ = 189) rfl (fun q => absurd (by rw [f31, if_pos c174]) q) (fun _ => ?_)
            refine C58.iconst (1 : Int32) at_185 rfl rfl ?_
            refine C58.goto at_186 (by decide) (by decide : _ = 190) ?_
            refine C58.istore at_190 rfl (L' := #[.val (.int i0), .val (.int i1), .val (.int i2), .val (.int i3), .val (.ref b1), .val (.ref b3), .val (.ref b5), .val (.ref b7), .val (.int my45), .val (.int (f31 my45 (0 : Int32) (0 : Int32))), .val (.int (1 : Int32)), .val (.int my54), .val (.int (f31 my54 (0 : Int32) my45)), .val (.int (1 : Int32))]) rfl ?_
            refine C58.iload at_192 rfl rfl ?_
            refine C58.if_eq at_194 (by decide) (by decide : _ = 206) rfl (fun q => absurd q (by decide)) (fun _ => ?_)
            refine C58.iload at_197 rfl rfl ?_
            refine C58.if_eq at_199 (by decide) (by decide : _ = 206) rfl (fun q => absurd q (by decide)) (fun _ => ?_)
            refine C58.iconst (1 : Int32) at_202 rfl rfl ?_
            refine C58.goto at_203 (by decide) (by decide : _ = 207) ?_
            exact C58.retN (t := .boolean) at_207 rfl (by simp) (by decide) (by decide) (w := (1 : Int32)) rfl rfl
      · refine C49.iconst (1 : Int32) at_105 rfl rfl ?_
        refine C49.goto at_106 (by decide) (by decide : _ = 110) ?_
        refine C49.icmp_ne at_110 (by decide) (by decide : _ = 117) rfl (fun q => absurd (by rw [f31, if_pos c102]) q) (fun _ => ?_)
        refine C49.iconst (1 : Int32) at_113 rfl rfl ?_
        refine C49.goto at_114 (by decide) (by decide : _ = 118) ?_
        refine C49.istore at_118 rfl (L' := #[.val (.int i0), .val (.int i1), .val (.int i2), .val (.int i3), .val (.ref b1), .val (.ref b3), .val (.ref b5), .val (.ref b7), .val (.int my45), .val (.int (f31 my45 (0 : Int32) (0 : Int32))), .val (.int (1 : Int32)), .unset, .unset, .unset]) rfl ?_
        refine C49.iloadN at_120 rfl rfl ?_
        refine C49.iconst (4 : Int32) at_121 rfl rfl ?_
        refine C49.iand at_122 rfl ?_
        refine C49.if_eq at_123 (by decide) (by decide : _ = 134) rfl (fun c123 => ?_) (fun c123 => ?_)
        · refine C49.aload at_134 rfl rfl rfl ?_
          refine C49.callV (hw _ (List.mem_of_getElem? (i := 234) rfl)) (hw _ (List.mem_of_getElem? (i := 91) rfl)) (hw _ (List.mem_of_getElem? (i := 93) rfl)) (hw _ (List.mem_of_getElem? (i := 92) rfl)) (hw _ (List.mem_of_getElem? (i := 2) rfl)) (hw _ (List.mem_of_getElem? (i := 94) rfl)) E_b1 (by decide) (a := b1) (rm11 l Z a0 hw b1 my45 h47 n0 C49.size F_b1_size) (argsL := []) pd11 rfl 0 (by decide) (by decide) (by decide) (by decide) (rest := []) rfl rfl (Nat.le_of_eq rfl) at_136 rfl (fun v59 T59 h59 C59 qq59 => ?_)
          obtain ⟨rfl, hh59⟩ := qq59
          have hh59 := hh59.symm; subst hh59
          show Go p e below F n0 (fun v _ => v = some (.int (1 : Int32))) T59 (mkF m 139 #[.val (.int i0), .val (.int i1), .val (.int i2), .val (.int i3), .val (.ref b1), .val (.ref b3), .val (.ref b5), .val (.ref b7), .val (.int my45), .val (.int (f31 my45 (0 : Int32) (0 : Int32))), .val (.int (1 : Int32)), .unset, .unset, .unset] [(.int my45)])
          refine C59.istore at_139 rfl (L' := #[.val (.int i0), .val (.int i1), .val (.int i2), .val (.int i3), .val (.ref b1), .val (.ref b3), .val (.ref b5), .val (.ref b7), .val (.int my45), .val (.int (f31 my45 (0 : Int32) (0 : Int32))), .val (.int (1 : Int32)), .val (.int my45), .unset, .unset]) rfl ?_
          refine C59.aload at_141 rfl rfl rfl ?_
          refine C59.callV (hw _ (List.mem_of_getElem? (i := 235) rfl)) (hw _ (List.mem_of_getElem? (i := 236) rfl)) (hw _ (List.mem_of_getElem? (i := 238) rfl)) (hw _ (List.mem_of_getElem? (i := 237) rfl)) (hw _ (List.mem_of_getElem? (i := 2) rfl)) (hw _ (List.mem_of_getElem? (i := 239) rfl)) E_b1 (by decide) (a := b1) (rm31 l Z a0 hw b1 al2 ce2 ix2 my45 (0 : Int32) my45 h47 n0 C59.size E_b1 F_b1_indexes F_b1_arity F_b1_cells F_b1_unique F_b1_size F_b1_source F_b1_deltaStart F_b1_deltaEnd g_b1) (argsL := []) pd31 rfl 0 (by decide) (by decide) (by decide) (by decide) (rest := []) rfl rfl (Nat.le_of_eq rfl) at_143 rfl (fun v60 T60 h60 C60 qq60 => ?_)
          obtain ⟨rfl, K60, p60_0, p60_1, p60_2, p60_3, p60_4, p60_5, p60_6, p60_7, p60_8⟩ := qq60
          have E_b1 := E_b1.keep K60
          have E_ix2 := E_ix2.keep K60
          have E_al2 := E_al2.keep K60
          have F_al2_modCount := F_al2_modCount.keep K60 (ninS (Ne.symm ne_b1_al2) nin0)
          have F_al2_elementData := F_al2_elementData.keep K60 (ninS (Ne.symm ne_b1_al2) nin0)
          have F_al2_size := F_al2_size.keep K60 (ninS (Ne.symm ne_b1_al2) nin0)
          have V_co2 := V_co2.keep K60 (ninS (Ne.symm ne_b1_co2) nin0)
          have E_ed2 := E_ed2.keep K60
          have V_ed2 := V_ed2.keep K60 (ninS (Ne.symm ne_b1_ed2) nin0)
          have V_b3 := V_b3.keep K60 (ninS (Ne.symm ne_b1_b3) nin0)
          have V_b5 := V_b5.keep K60 (ninS (Ne.symm ne_b1_b5) nin0)
          have V_b7 := V_b7.keep K60 (ninS (Ne.symm ne_b1_b7) nin0)
          have F_ix2_slots := F_ix2_slots.keep K60 (ninS (Ne.symm ne_b1_ix2) nin0)
          have F_ix2_firsts := F_ix2_firsts.keep K60 (ninS (Ne.symm ne_b1_ix2) nin0)
          have F_ix2_lasts := F_ix2_lasts.keep K60 (ninS (Ne.symm ne_b1_ix2) nin0)
          have F_ix2_nexts := F_ix2_nexts.keep K60 (ninS (Ne.symm ne_b1_ix2) nin0)
          have F_ix2_relation := F_ix2_relation.keep K60 (ninS (Ne.symm ne_b1_ix2) nin0)
          have F_ix2_columns := F_ix2_columns.keep K60 (ninS (Ne.symm ne_b1_ix2) nin0)
          have F_ix2_scratch := F_ix2_scratch.keep K60 (ninS (Ne.symm ne_b1_ix2) nin0)
          have F_ix2_groups := F_ix2_groups.keep K60 (ninS (Ne.symm ne_b1_ix2) nin0)
          have V_sl2 := V_sl2.keep K60 (ninS (Ne.symm ne_b1_sl2) nin0)
          have V_fi2 := V_fi2.keep K60 (ninS (Ne.symm ne_b1_fi2) nin0)
          have V_la2 := V_la2.keep K60 (ninS (Ne.symm ne_b1_la2) nin0)
          have V_nx2 := V_nx2.keep K60 (ninS (Ne.symm ne_b1_nx2) nin0)
          have V_sc2 := V_sc2.keep K60 (ninS (Ne.symm ne_b1_sc2) nin0)
          have V_ce2 := V_ce2.keep K60 (ninS (Ne.symm ne_b1_ce2) nin0)
          have E_b1 := p60_0
          have F_b1_indexes := p60_1
          have F_b1_arity := p60_2
          have F_b1_cells := p60_3
          have F_b1_unique := p60_4
          have F_b1_size := p60_5
          have F_b1_source := p60_6
          have F_b1_deltaStart := p60_7
          have F_b1_deltaEnd := p60_8
          show Go p e below F n0 (fun v _ => v = some (.int (1 : Int32))) T60 (mkF m 146 #[.val (.int i0), .val (.int i1), .val (.int i2), .val (.int i3), .val (.ref b1), .val (.ref b3), .val (.ref b5), .val (.ref b7), .val (.int my45), .val (.int (f31 my45 (0 : Int32) (0 : Int32))), .val (.int (1 : Int32)), .val (.int my45), .unset, .unset] [(.int (f31 my45 (0 : Int32) my45))])
          refine C60.istore at_146 rfl (L' := #[.val (.int i0), .val (.int i1), .val (.int i2), .val (.int i3), .val (.ref b1), .val (.ref b3), .val (.ref b5), .val (.ref b7), .val (.int my45), .val (.int (f31 my45 (0 : Int32) (0 : Int32))), .val (.int (1 : Int32)), .val (.int my45), .val (.int (f31 my45 (0 : Int32) my45)), .unset]) rfl ?_
          refine C60.aload at_148 rfl rfl rfl ?_
          refine C60.callV (hw _ (List.mem_of_getElem? (i := 244) rfl)) (hw _ (List.mem_of_getElem? (i := 245) rfl)) (hw _ (List.mem_of_getElem? (i := 247) rfl)) (hw _ (List.mem_of_getElem? (i := 246) rfl)) (hw _ (List.mem_of_getElem? (i := 2) rfl)) (hw _ (List.mem_of_getElem? (i := 248) rfl)) E_b1 (by decide) (a := b1) (rm32 l Z a0 hw b1 my45 h60 n0 C60.size F_b1_deltaStart) (argsL := []) pd32 rfl 0 (by decide) (by decide) (by decide) (by decide) (rest := []) rfl rfl (Nat.le_of_eq rfl) at_150 rfl (fun v61 T61 h61 C61 qq61 => ?_)
          obtain ⟨rfl, hh61⟩ := qq61
          have hh61 := hh61.symm; subst hh61
          show Go p e below F n0 (fun v _ => v = some (.int (1 : Int32))) T61 (mkF m 153 #[.val (.int i0), .val (.int i1), .val (.int i2), .val (.int i3), .val (.ref b1), .val (.ref b3), .val (.ref b5), .val (.ref b7), .val (.int my45), .val (.int (f31 my45 (0 : Int32) (0 : Int32))), .val (.int (1 : Int32)), .val (.int my45), .val (.int (f31 my45 (0 : Int32) my45)), .unset] [(.int my45)])
          refine C61.iload at_153 rfl rfl ?_
          refine C61.icmp_ne at_155 (by decide) (by decide : _ = 189) rfl (fun q => absurd rfl q) (fun _ => ?_)
          refine C61.aload at_158 rfl rfl rfl ?_
          refine C61.callV (hw _ (List.mem_of_getElem? (i := 249) rfl)) (hw _ (List.mem_of_getElem? (i := 250) rfl)) (hw _ (List.mem_of_getElem? (i := 252) rfl)) (hw _ (List.mem_of_getElem? (i := 251) rfl)) (hw _ (List.mem_of_getElem? (i := 2) rfl)) (hw _ (List.mem_of_getElem? (i := 253) rfl)) E_b1 (by decide) (a := b1) (rm33 l Z a0 hw b1 my45 h60 n0 C61.size F_b1_deltaEnd) (argsL := []) pd33 rfl 0 (by decide) (by decide) (by decide) (by decide) (rest := []) rfl rfl (Nat.le_of_eq rfl) at_160 rfl (fun v62 T62 h62 C62 qq62 => ?_)
          obtain ⟨rfl, hh62⟩ := qq62
          have hh62 := hh62.symm; subst hh62
          show Go p e below F n0 (fun v _ => v = some (.int (1 : Int32))) T62 (mkF m 163 #[.val (.int i0), .val (.int i1), .val (.int i2), .val (.int i3), .val (.ref b1), .val (.ref b3), .val (.ref b5), .val (.ref b7), .val (.int my45), .val (.int (f31 my45 (0 : Int32) (0 : Int32))), .val (.int (1 : Int32)), .val (.int my45), .val (.int (f31 my45 (0 : Int32) my45)), .unset] [(.int my45)])
          refine C62.iload at_163 rfl rfl ?_
          refine C62.icmp_ne at_165 (by decide) (by decide : _ = 189) rfl (fun q => absurd rfl q) (fun _ => ?_)
          refine C62.iload at_168 rfl rfl ?_
          refine C62.iload at_170 rfl rfl ?_
          refine C62.iload at_172 rfl rfl ?_
          refine C62.icmp_ge at_174 (by decide) (by decide : _ = 181) rfl (fun c174 => ?_) (fun c174 => ?_)
          · refine C62.iconst (0 : Int32) at_181 rfl rfl ?_
            refine C62.icmp_ne at_182 (by decide) (by decide : _ = 189) rfl (fun q => absurd (by rw [f31, if_neg c174]) q) (fun _ => ?_)
            refine C62.iconst (1 : Int32) at_185 rfl rfl ?_
            refine C62.goto at_186 (by decide) (by decide : _ = 190) ?_
            refine C62.istore at_190 rfl (L' := #[.val (.int i0), .val (.int i1), .val (.int i2), .val (.int i3), .val (.ref b1), .val (.ref b3), .val (.ref b5), .val (.ref b7), .val (.int my45), .val (.int (f31 my45 (0 : Int32) (0 : Int32))), .val (.int (1 : Int32)), .val (.int my45), .val (.int (f31 my45 (0 : Int32) my45)), .val (.int (1 : Int32))]) rfl ?_
            refine C62.iload at_192 rfl rfl ?_
            refine C62.if_eq at_194 (by decide) (by decide : _ = 206) rfl (fun q => absurd q (by decide)) (fun _ => ?_)
            refine C62.iload at_197 rfl rfl ?_
            refine C62.if_eq at_199 (by decide) (by decide : _ = 206) rfl (fun q => absurd q (by decide)) (fun _ => ?_)
            refine C62.iconst (1 : Int32) at_202 rfl rfl ?_
            refine C62.goto at_203 (by decide) (by decide : _ = 207) ?_
            exact C62.retN (t := .boolean) at_207 rfl (by simp) (by decide) (by decide) (w := (1 : Int32)) rfl rfl
          · refine C62.iconst (1 : Int32) at_177 rfl rfl ?_
            refine C62.goto at_178 (by decide) (by decide : _ = 182) ?_
            refine C62.icmp_ne at_182 (by decide) (by decide : _ = 189) rfl (fun q => absurd (by rw [f31, if_pos c174]) q) (fun _ => ?_)
            refine C62.iconst (1 : Int32) at_185 rfl rfl ?_
            refine C62.goto at_186 (by decide) (by decide : _ = 190) ?_
            refine C62.istore at_190 rfl (L' := #[.val (.int i0), .val (.int i1), .val (.int i2), .val (.int i3), .val (.ref b1), .val (.ref b3), .val (.ref b5), .val (.ref b7), .val (.int my45), .val (.int (f31 my45 (0 : Int32) (0 : Int32))), .val (.int (1 : Int32)), .val (.int my45), .val (.int (f31 my45 (0 : Int32) my45)), .val (.int (1 : Int32))]) rfl ?_
            refine C62.iload at_192 rfl rfl ?_
            refine C62.if_eq at_194 (by decide) (by decide : _ = 206) rfl (fun q => absurd q (by decide)) (fun _ => ?_)
            refine C62.iload at_197 rfl rfl ?_
            refine C62.if_eq at_199 (by decide) (by decide : _ = 206) rfl (fun q => absurd q (by decide)) (fun _ => ?_)
            refine C62.iconst (1 : Int32) at_202 rfl rfl ?_
            refine C62.goto at_203 (by decide) (by decide : _ = 207) ?_
            exact C62.retN (t := .boolean) at_207 rfl (by simp) (by decide) (by decide) (w := (1 : Int32)) rfl rfl
        · refine C49.aload at_126 rfl rfl rfl ?_
          refine C49.aload at_128 rfl rfl rfl ?_
          refine C49.callV (hw _ (List.mem_of_getElem? (i := 134) rfl)) (hw _ (List.mem_of_getElem? (i := 135) rfl)) (hw _ (List.mem_of_getElem? (i := 137) rfl)) (hw _ (List.mem_of_getElem? (i := 136) rfl)) (hw _ (List.mem_of_getElem? (i := 2) rfl)) (hw _ (List.mem_of_getElem? (i := 138) rfl)) E_b1 (by decide) (a := b1) (rm17 l Z a0 hw b1 b7 al2 ce2 ix2 ed2 sl2 fi2 la2 nx2 co2 sc2 kce2 ked2 ksl2 kfi2 kla2 knx2 kco2 ksc2 k7 mS45 mF45 mL45 mN45 mC45 mg45 mk45 i2 my45 (0 : Int32) my45 h47 n0 C49.size E_b1 F_b1_indexes F_b1_arity F_b1_cells F_b1_unique F_b1_size F_b1_source F_b1_deltaStart F_b1_deltaEnd E_ix2 F_ix2_slots F_ix2_firsts F_ix2_lasts F_ix2_nexts F_ix2_relation F_ix2_columns F_ix2_scratch F_ix2_groups V_sl2 V_fi2 V_la2 V_nx2 V_co2 V_sc2 V_ce2 E_al2 F_al2_modCount F_al2_elementData F_al2_size E_ed2 V_ed2 O_ked2 V_b7 g_b1 g_ce2 g_ix2 g_sc2 g_nx2 g_fi2 g_la2 g_sl2 hinv_45 (own_pre6 i0 i1 i2 i3 de kde lm al2 ce2 ix2 ed2 sl2 fi2 la2 nx2 co2 sc2 kce2 ked2 ksl2 kfi2 kla2 knx2 kco2 ksc2 mS45 mF45 mL45 mN45 mC45 mg45 mk45 my45 rr45 hinv_2 hC_2 hinv_45 hC_45 hle_45 c40 c54 c102 c123) hC_45 ne_sl2_fi2 ne_sl2_la2 ne_sl2_nx2 ne_sl2_co2 ne_sl2_sc2 ne_sl2_ce2 ne_sl2_ed2 ne_fi2_la2 ne_fi2_nx2 ne_fi2_co2 ne_fi2_sc2 ne_fi2_ce2 ne_fi2_ed2 ne_la2_nx2 ne_la2_co2 ne_la2_sc2 ne_la2_ce2 ne_la2_ed2 ne_nx2_co2 ne_nx2_sc2 ne_nx2_ce2 ne_nx2_ed2 ne_co2_sc2 ne_co2_ce2 ne_co2_ed2 ne_sc2_ce2 ne_sc2_ed2 ne_ce2_ed2 (Ne.symm ne_ce2_b7)) (argsL := [(.ref b7)]) pd17 rfl 0 (by decide) (by decide) (by decide) (by decide) (rest := []) rfl rfl (Nat.le_of_eq rfl) at_130 rfl (fun v63 T63 h63 C63 qq63 => ?_)
          obtain ⟨mS63, mF63, mL63, mN63, mC63, mg63, mk63, my63, rr63, rfl, K63, p63_0, p63_1, p63_2, p63_3, p63_4, p63_5, p63_6, p63_7, p63_8, p63_9, p63_10, p63_11, p63_12, p63_13, p63_14, p63_15, p63_16, p63_17, p63_18, p63_19, p63_20, p63_21, p63_22, p63_23, p63_24, p63_25, p63_26⟩ := qq63
          have E_b1 := E_b1.keep K63
          have E_ix2 := E_ix2.keep K63
          have E_al2 := E_al2.keep K63
          have F_al2_modCount := F_al2_modCount.keep K63 (ninS (Ne.symm ne_b1_al2) (ninS ne_al2_ce2 (ninS ne_al2_ix2 (ninS ne_al2_sc2 (ninS ne_al2_nx2 (ninS ne_al2_fi2 (ninS ne_al2_la2 (ninS ne_al2_sl2 nin0))))))))
          have F_al2_elementData := F_al2_elementData.keep K63 (ninS (Ne.symm ne_b1_al2) (ninS ne_al2_ce2 (ninS ne_al2_ix2 (ninS ne_al2_sc2 (ninS ne_al2_nx2 (ninS ne_al2_fi2 (ninS ne_al2_la2 (ninS ne_al2_sl2 nin0))))))))
          have F_al2_size := F_al2_size.keep K63 (ninS (Ne.symm ne_b1_al2) (ninS ne_al2_ce2 (ninS ne_al2_ix2 (ninS ne_al2_sc2 (ninS ne_al2_nx2 (ninS ne_al2_fi2 (ninS ne_al2_la2 (ninS ne_al2_sl2 nin0))))))))
          have V_co2 := V_co2.keep K63 (ninS (Ne.symm ne_b1_co2) (ninS ne_co2_ce2 (ninS ne_co2_ix2 (ninS ne_co2_sc2 (ninS (Ne.symm ne_nx2_co2) (ninS (Ne.symm ne_fi2_co2) (ninS (Ne.symm ne_la2_co2) (ninS (Ne.symm ne_sl2_co2) nin0))))))))
          have E_ed2 := E_ed2.keep K63
          have V_ed2 := V_ed2.keep K63 (ninS (Ne.symm ne_b1_ed2) (ninS (Ne.symm ne_ce2_ed2) (ninS ne_ed2_ix2 (ninS (Ne.symm ne_sc2_ed2) (ninS (Ne.symm ne_nx2_ed2) (ninS (Ne.symm ne_fi2_ed2) (ninS (Ne.symm ne_la2_ed2) (ninS (Ne.symm ne_sl2_ed2) nin0))))))))
          have V_b3 := V_b3.keep K63 (ninS (Ne.symm ne_b1_b3) (ninS (Ne.symm ne_ce2_b3) (ninS (Ne.symm ne_ix2_b3) (ninS (Ne.symm ne_sc2_b3) (ninS (Ne.symm ne_nx2_b3) (ninS (Ne.symm ne_fi2_b3) (ninS (Ne.symm ne_la2_b3) (ninS (Ne.symm ne_sl2_b3) nin0))))))))
          have V_b5 := V_b5.keep K63 (ninS (Ne.symm ne_b1_b5) (ninS (Ne.symm ne_ce2_b5) (ninS (Ne.symm ne_ix2_b5) (ninS (Ne.symm ne_sc2_b5) (ninS (Ne.symm ne_nx2_b5) (ninS (Ne.symm ne_fi2_b5) (ninS (Ne.symm ne_la2_b5) (ninS (Ne.symm ne_sl2_b5) nin0))))))))
          have V_b7 := V_b7.keep K63 (ninS (Ne.symm ne_b1_b7) (ninS (Ne.symm ne_ce2_b7) (ninS (Ne.symm ne_ix2_b7) (ninS (Ne.symm ne_sc2_b7) (ninS (Ne.symm ne_nx2_b7) (ninS (Ne.symm ne_fi2_b7) (ninS (Ne.symm ne_la2_b7) (ninS (Ne.symm ne_sl2_b7) nin0))))))))
          have E_b1 := p63_0
          have F_b1_indexes := p63_1
          have F_b1_arity := p63_2
          have F_b1_cells := p63_3
          have F_b1_unique := p63_4
          have F_b1_size := p63_5
          have F_b1_source := p63_6
          have F_b1_deltaStart := p63_7
          have F_b1_deltaEnd := p63_8
          have E_ix2 := p63_9
          have F_ix2_slots := p63_10
          have F_ix2_firsts := p63_11
          have F_ix2_lasts := p63_12
          have F_ix2_nexts := p63_13
          have F_ix2_relation := p63_14
          have F_ix2_columns := p63_15
          have F_ix2_scratch := p63_16
          have F_ix2_groups := p63_17
          have V_sl2 := p63_18
          have V_fi2 := p63_19
          have V_la2 := p63_20
          have V_nx2 := p63_21
          have V_sc2 := p63_22
          have V_ce2 := p63_23
          have hinv_63 := p63_24
          have hC_63 := p63_25
          have hle_63 := p63_26
          show Go p e below F n0 (fun v _ => v = some (.int (1 : Int32))) T63 (mkF m 133 #[.val (.int i0), .val (.int i1), .val (.int i2), .val (.int i3), .val (.ref b1), .val (.ref b3), .val (.ref b5), .val (.ref b7), .val (.int my45), .val (.int (f31 my45 (0 : Int32) (0 : Int32))), .val (.int (1 : Int32)), .unset, .unset, .unset] [(.int rr63)])
          refine C63.pop at_133 rfl rfl ?_
          refine C63.aload at_134 rfl rfl rfl ?_
          refine C63.callV (hw _ (List.mem_of_getElem? (i := 234) rfl)) (hw _ (List.mem_of_getElem? (i := 91) rfl)) (hw _ (List.mem_of_getElem? (i := 93) rfl)) (hw _ (List.mem_of_getElem? (i := 92) rfl)) (hw _ (List.mem_of_getElem? (i := 2) rfl)) (hw _ (List.mem_of_getElem? (i := 94) rfl)) E_b1 (by decide) (a := b1) (rm11 l Z a0 hw b1 my63 h63 n0 C63.size F_b1_size) (argsL := []) pd11 rfl 0 (by decide) (by decide) (by decide) (by decide) (rest := []) rfl rfl (Nat.le_of_eq rfl) at_136 rfl (fun v64 T64 h64 C64 qq64 => ?_)
          obtain ⟨rfl, hh64⟩ := qq64
          have hh64 := hh64.symm; subst hh64
          show Go p e below F n0 (fun v _ => v = some (.int (1 : Int32))) T64 (mkF m 139 #[.val (.int i0), .val (.int i1), .val (.int i2), .val (.int i3), .val (.ref b1), .val (.ref b3), .val (.ref b5), .val (.ref b7), .val (.int my45), .val (.int (f31 my45 (0 : Int32) (0 : Int32))), .val (.int (1 : Int32)), .unset, .unset, .unset] [(.int my63)])
          refine C64.istore at_139 rfl (L' := #[.val (.int i0), .val (.int i1), .val (.int i2), .val (.int i3), .val (.ref b1), .val (.ref b3), .val (.ref b5), .val (.ref b7), .val (.int my45), .val (.int (f31 my45 (0 : Int32) (0 : Int32))), .val (.int (1 : Int32)), .val (.int my63), .unset, .unset]) rfl ?_
          refine C64.aload at_141 rfl rfl rfl ?_
          refine C64.callV (hw _ (List.mem_of_getElem? (i := 235) rfl)) (hw _ (List.mem_of_getElem? (i := 236) rfl)) (hw _ (List.mem_of_getElem? (i := 238) rfl)) (hw _ (List.mem_of_getElem? (i := 237) rfl)) (hw _ (List.mem_of_getElem? (i := 2) rfl)) (hw _ (List.mem_of_getElem? (i := 239) rfl)) E_b1 (by decide) (a := b1) (rm31 l Z a0 hw b1 al2 ce2 ix2 my63 (0 : Int32) my45 h63 n0 C64.size E_b1 F_b1_indexes F_b1_arity F_b1_cells F_b1_unique F_b1_size F_b1_source F_b1_deltaStart F_b1_deltaEnd g_b1) (argsL := []) pd31 rfl 0 (by decide) (by decide) (by decide) (by decide) (rest := []) rfl rfl (Nat.le_of_eq rfl) at_143 rfl (fun v65 T65 h65 C65 qq65 => ?_)
          obtain ⟨rfl, K65, p65_0, p65_1, p65_2, p65_3, p65_4, p65_5, p65_6, p65_7, p65_8⟩ := qq65
          have E_b1 := E_b1.keep K65
          have E_ix2 := E_ix2.keep K65
          have E_al2 := E_al2.keep K65
          have F_al2_modCount := F_al2_modCount.keep K65 (ninS (Ne.symm ne_b1_al2) nin0)
          have F_al2_elementData := F_al2_elementData.keep K65 (ninS (Ne.symm ne_b1_al2) nin0)
          have F_al2_size := F_al2_size.keep K65 (ninS (Ne.symm ne_b1_al2) nin0)
          have V_co2 := V_co2.keep K65 (ninS (Ne.symm ne_b1_co2) nin0)
          have E_ed2 := E_ed2.keep K65
          have V_ed2 := V_ed2.keep K65 (ninS (Ne.symm ne_b1_ed2) nin0)
          have V_b3 := V_b3.keep K65 (ninS (Ne.symm ne_b1_b3) nin0)
          have V_b5 := V_b5.keep K65 (ninS (Ne.symm ne_b1_b5) nin0)
          have V_b7 := V_b7.keep K65 (ninS (Ne.symm ne_b1_b7) nin0)
          have F_ix2_slots := F_ix2_slots.keep K65 (ninS (Ne.symm ne_b1_ix2) nin0)
          have F_ix2_firsts := F_ix2_firsts.keep K65 (ninS (Ne.symm ne_b1_ix2) nin0)
          have F_ix2_lasts := F_ix2_lasts.keep K65 (ninS (Ne.symm ne_b1_ix2) nin0)
          have F_ix2_nexts := F_ix2_nexts.keep K65 (ninS (Ne.symm ne_b1_ix2) nin0)
          have F_ix2_relation := F_ix2_relation.keep K65 (ninS (Ne.symm ne_b1_ix2) nin0)
          have F_ix2_columns := F_ix2_columns.keep K65 (ninS (Ne.symm ne_b1_ix2) nin0)
          have F_ix2_scratch := F_ix2_scratch.keep K65 (ninS (Ne.symm ne_b1_ix2) nin0)
          have F_ix2_groups := F_ix2_groups.keep K65 (ninS (Ne.symm ne_b1_ix2) nin0)
          have V_sl2 := V_sl2.keep K65 (ninS (Ne.symm ne_b1_sl2) nin0)
          have V_fi2 := V_fi2.keep K65 (ninS (Ne.symm ne_b1_fi2) nin0)
          have V_la2 := V_la2.keep K65 (ninS (Ne.symm ne_b1_la2) nin0)
          have V_nx2 := V_nx2.keep K65 (ninS (Ne.symm ne_b1_nx2) nin0)
          have V_sc2 := V_sc2.keep K65 (ninS (Ne.symm ne_b1_sc2) nin0)
          have V_ce2 := V_ce2.keep K65 (ninS (Ne.symm ne_b1_ce2) nin0)
          have E_b1 := p65_0
          have F_b1_indexes := p65_1
          have F_b1_arity := p65_2
          have F_b1_cells := p65_3
          have F_b1_unique := p65_4
          have F_b1_size := p65_5
          have F_b1_source := p65_6
          have F_b1_deltaStart := p65_7
          have F_b1_deltaEnd := p65_8
          show Go p e below F n0 (fun v _ => v = some (.int (1 : Int32))) T65 (mkF m 146 #[.val (.int i0), .val (.int i1), .val (.int i2), .val (.int i3), .val (.ref b1), .val (.ref b3), .val (.ref b5), .val (.ref b7), .val (.int my45), .val (.int (f31 my45 (0 : Int32) (0 : Int32))), .val (.int (1 : Int32)), .val (.int my63), .unset, .unset] [(.int (f31 my63 (0 : Int32) my45))])
          refine C65.istore at_146 rfl (L' := #[.val (.int i0), .val (.int i1), .val (.int i2), .val (.int i3), .val (.ref b1), .val (.ref b3), .val (.ref b5), .val (.ref b7), .val (.int my45), .val (.int (f31 my45 (0 : Int32) (0 : Int32))), .val (.int (1 : Int32)), .val (.int my63), .val (.int (f31 my63 (0 : Int32) my45)), .unset]) rfl ?_
          refine C65.aload at_148 rfl rfl rfl ?_
          refine C65.callV (hw _ (List.mem_of_getElem? (i := 244) rfl)) (hw _ (List.mem_of_getElem? (i := 245) rfl)) (hw _ (List.mem_of_getElem? (i := 247) rfl)) (hw _ (List.mem_of_getElem? (i := 246) rfl)) (hw _ (List.mem_of_getElem? (i := 2) rfl)) (hw _ (List.mem_of_getElem? (i := 248) rfl)) E_b1 (by decide) (a := b1) (rm32 l Z a0 hw b1 my45 h65 n0 C65.size F_b1_deltaStart) (argsL := []) pd32 rfl 0 (by decide) (by decide) (by decide) (by decide) (rest := []) rfl rfl (Nat.le_of_eq rfl) at_150 rfl (fun v66 T66 h66 C66 qq66 => ?_)
          obtain ⟨rfl, hh66⟩ := qq66
          have hh66 := hh66.symm; subst hh66
          show Go p e below F n0 (fun v _ => v = some (.int (1 : Int32))) T66 (mkF m 153 #[.val (.int i0), .val (.int i1), .val (.int i2), .val (.int i3), .val (.ref b1), .val (.ref b3), .val (.ref b5), .val (.ref b7), .val (.int my45), .val (.int (f31 my45 (0 : Int32) (0 : Int32))), .val (.int (1 : Int32)), .val (.int my63), .val (.int (f31 my63 (0 : Int32) my45)), .unset] [(.int my45)])
          refine C66.iload at_153 rfl rfl ?_
          refine C66.icmp_ne at_155 (by decide) (by decide : _ = 189) rfl (fun q => absurd rfl q) (fun _ => ?_)
          refine C66.aload at_158 rfl rfl rfl ?_
          refine C66.callV (hw _ (List.mem_of_getElem? (i := 249) rfl)) (hw _ (List.mem_of_getElem? (i := 250) rfl)) (hw _ (List.mem_of_getElem? (i := 252) rfl)) (hw _ (List.mem_of_getElem? (i := 251) rfl)) (hw _ (List.mem_of_getElem? (i := 2) rfl)) (hw _ (List.mem_of_getElem? (i := 253) rfl)) E_b1 (by decide) (a := b1) (rm33 l Z a0 hw b1 my63 h65 n0 C66.size F_b1_deltaEnd) (argsL := []) pd33 rfl 0 (by decide) (by decide) (by decide) (by decide) (rest := []) rfl rfl (Nat.le_of_eq rfl) at_160 rfl (fun v67 T67 h67 C67 qq67 => ?_)
          obtain ⟨rfl, hh67⟩ := qq67
          have hh67 := hh67.symm; subst hh67
          show Go p e below F n0 (fun v _ => v = some (.int (1 : Int32))) T67 (mkF m 163 #[.val (.int i0), .val (.int i1), .val (.int i2), .val (.int i3), .val (.ref b1), .val (.ref b3), .val (.ref b5), .val (.ref b7), .val (.int my45), .val (.int (f31 my45 (0 : Int32) (0 : Int32))), .val (.int (1 : Int32)), .val (.int my63), .val (.int (f31 my63 (0 : Int32) my45)), .unset] [(.int my63)])
          refine C67.iload at_163 rfl rfl ?_
          refine C67.icmp_ne at_165 (by decide) (by decide : _ = 189) rfl (fun q => absurd rfl q) (fun _ => ?_)
          refine C67.iload at_168 rfl rfl ?_
          refine C67.iload at_170 rfl rfl ?_
          refine C67.iload at_172 rfl rfl ?_
          refine C67.icmp_ge at_174 (by decide) (by decide : _ = 181) rfl (fun c174 => ?_) (fun c174 => ?_)
          · refine C67.iconst (0 : Int32) at_181 rfl rfl ?_
            refine C67.icmp_ne at_182 (by decide) (by decide : _ = 189) rfl (fun q => absurd (by rw [f31, if_neg c174]) q) (fun _ => ?_)
            refine C67.iconst (1 : Int32) at_185 rfl rfl ?_
            refine C67.goto at_186 (by decide) (by decide : _ = 190) ?_
            refine C67.istore at_190 rfl (L' := #[.val (.int i0), .val (.int i1), .val (.int i2), .val (.int i3), .val (.ref b1), .val (.ref b3), .val (.ref b5), .val (.ref b7), .val (.int my45), .val (.int (f31 my45 (0 : Int32) (0 : Int32))), .val (.int (1 : Int32)), .val (.int my63), .val (.int (f31 my63 (0 : Int32) my45)), .val (.int (1 : Int32))]) rfl ?_
            refine C67.iload at_192 rfl rfl ?_
            refine C67.if_eq at_194 (by decide) (by decide : _ = 206) rfl (fun q => absurd q (by decide)) (fun _ => ?_)
            refine C67.iload at_197 rfl rfl ?_
            refine C67.if_eq at_199 (by decide) (by decide : _ = 206) rfl (fun q => absurd q (by decide)) (fun _ => ?_)
            refine C67.iconst (1 : Int32) at_202 rfl rfl ?_
            refine C67.goto at_203 (by decide) (by decide : _ = 207) ?_
            exact C67.retN (t := .boolean) at_207 rfl (by simp) (by decide) (by decide) (w := (1 : Int32)) rfl rfl
          · refine C67.iconst (1 : Int32) at_177 rfl rfl ?_
            refine C67.goto at_178 (by decide) (by decide : _ = 182) ?_
            refine C67.icmp_ne at_182 (by decide) (by decide : _ = 189) rfl (fun q => absurd (by rw [f31, if_pos c174]) q) (fun _ => ?_)
            refine C67.iconst (1 : Int32) at_185 rfl rfl ?_
            refine C67.goto at_186 (by decide) (by decide : _ = 190) ?_
            refine C67.istore at_190 rfl (L' := #[.val (.int i0), .val (.int i1), .val (.int i2), .val (.int i3), .val (.ref b1), .val (.ref b3), .val (.ref b5), .val (.ref b7), .val (.int my45), .val (.int (f31 my45 (0 : Int32) (0 : Int32))), .val (.int (1 : Int32)), .val (.int my63), .val (.int (f31 my63 (0 : Int32) my45)), .val (.int (1 : Int32))]) rfl ?_
            refine C67.iload at_192 rfl rfl ?_
            refine C67.if_eq at_194 (by decide) (by decide : _ = 206) rfl (fun q => absurd q (by decide)) (fun _ => ?_)
            refine C67.iload at_197 rfl rfl ?_
            refine C67.if_eq at_199 (by decide) (by decide : _ = 206) rfl (fun q => absurd q (by decide)) (fun _ => ?_)
            refine C67.iconst (1 : Int32) at_202 rfl rfl ?_
            refine C67.goto at_203 (by decide) (by decide : _ = 207) ?_
            exact C67.retN (t := .boolean) at_207 rfl (by simp) (by decide) (by decide) (w := (1 : Int32)) rfl rfl
    · refine C45.aload at_57 rfl rfl rfl ?_
      refine C45.aload at_59 rfl rfl rfl ?_
      refine C45.callV (hw _ (List.mem_of_getElem? (i := 134) rfl)) (hw _ (List.mem_of_getElem? (i := 135) rfl)) (hw _ (List.mem_of_getElem? (i := 137) rfl)) (hw _ (List.mem_of_getElem? (i := 136) rfl)) (hw _ (List.mem_of_getElem? (i := 2) rfl)) (hw _ (List.mem_of_getElem? (i := 138) rfl)) E_b1 (by decide) (a := b1) (rm17 l Z a0 hw b1 b5 al2 ce2 ix2 ed2 sl2 fi2 la2 nx2 co2 sc2 kce2 ked2 ksl2 kfi2 kla2 knx2 kco2 ksc2 k5 mS45 mF45 mL45 mN45 mC45 mg45 mk45 i1 my45 (0 : Int32) (0 : Int32) h45 n0 C45.size E_b1 F_b1_indexes F_b1_arity F_b1_cells F_b1_unique F_b1_size F_b1_source F_b1_deltaStart F_b1_deltaEnd E_ix2 F_ix2_slots F_ix2_firsts F_ix2_lasts F_ix2_nexts F_ix2_relation F_ix2_columns F_ix2_scratch F_ix2_groups V_sl2 V_fi2 V_la2 V_nx2 V_co2 V_sc2 V_ce2 E_al2 F_al2_modCount F_al2_elementData F_al2_size E_ed2 V_ed2 O_ked2 V_b5 g_b1 g_ce2 g_ix2 g_sc2 g_nx2 g_fi2 g_la2 g_sl2 hinv_45 (own_pre7 i0 i1 i2 i3 de kde lm al2 ce2 ix2 ed2 sl2 fi2 la2 nx2 co2 sc2 kce2 ked2 ksl2 kfi2 kla2 knx2 kco2 ksc2 mS45 mF45 mL45 mN45 mC45 mg45 mk45 my45 rr45 hinv_2 hC_2 hinv_45 hC_45 hle_45 c40 c54) hC_45 ne_sl2_fi2 ne_sl2_la2 ne_sl2_nx2 ne_sl2_co2 ne_sl2_sc2 ne_sl2_ce2 ne_sl2_ed2 ne_fi2_la2 ne_fi2_nx2 ne_fi2_co2 ne_fi2_sc2 ne_fi2_ce2 ne_fi2_ed2 ne_la2_nx2 ne_la2_co2 ne_la2_sc2 ne_la2_ce2 ne_la2_ed2 ne_nx2_co2 ne_nx2_sc2 ne_nx2_ce2 ne_nx2_ed2 ne_co2_sc2 ne_co2_ce2 ne_co2_ed2 ne_sc2_ce2 ne_sc2_ed2 ne_ce2_ed2 (Ne.symm ne_ce2_b5)) (argsL := [(.ref b5)]) pd17 rfl 0 (by decide) (by decide) (by decide) (by decide) (rest := []) rfl rfl (Nat.le_of_eq rfl) at_61 rfl (fun v68 T68 h68 C68 qq68 => ?_)
      obtain ⟨mS68, mF68, mL68, mN68, mC68, mg68, mk68, my68, rr68, rfl, K68, p68_0, p68_1, p68_2, p68_3, p68_4, p68_5, p68_6, p68_7, p68_8, p68_9, p68_10, p68_11, p68_12, p68_13, p68_14, p68_15, p68_16, p68_17, p68_18, p68_19, p68_20, p68_21, p68_22, p68_23, p68_24, p68_25, p68_26⟩ := qq68
      have E_b1 := E_b1.keep K68
      have E_ix2 := E_ix2.keep K68
      have E_al2 := E_al2.keep K68
      have F_al2_modCount := F_al2_modCount.keep K68 (ninS (Ne.symm ne_b1_al2) (ninS ne_al2_ce2 (ninS ne_al2_ix2 (ninS ne_al2_sc2 (ninS ne_al2_nx2 (ninS ne_al2_fi2 (ninS ne_al2_la2 (ninS ne_al2_sl2 nin0))))))))
      have F_al2_elementData := F_al2_elementData.keep K68 (ninS (Ne.symm ne_b1_al2) (ninS ne_al2_ce2 (ninS ne_al2_ix2 (ninS ne_al2_sc2 (ninS ne_al2_nx2 (ninS ne_al2_fi2 (ninS ne_al2_la2 (ninS ne_al2_sl2 nin0))))))))
      have F_al2_size := F_al2_size.keep K68 (ninS (Ne.symm ne_b1_al2) (ninS ne_al2_ce2 (ninS ne_al2_ix2 (ninS ne_al2_sc2 (ninS ne_al2_nx2 (ninS ne_al2_fi2 (ninS ne_al2_la2 (ninS ne_al2_sl2 nin0))))))))
      have V_co2 := V_co2.keep K68 (ninS (Ne.symm ne_b1_co2) (ninS ne_co2_ce2 (ninS ne_co2_ix2 (ninS ne_co2_sc2 (ninS (Ne.symm ne_nx2_co2) (ninS (Ne.symm ne_fi2_co2) (ninS (Ne.symm ne_la2_co2) (ninS (Ne.symm ne_sl2_co2) nin0))))))))
      have E_ed2 := E_ed2.keep K68
      have V_ed2 := V_ed2.keep K68 (ninS (Ne.symm ne_b1_ed2) (ninS (Ne.symm ne_ce2_ed2) (ninS ne_ed2_ix2 (ninS (Ne.symm ne_sc2_ed2) (ninS (Ne.symm ne_nx2_ed2) (ninS (Ne.symm ne_fi2_ed2) (ninS (Ne.symm ne_la2_ed2) (ninS (Ne.symm ne_sl2_ed2) nin0))))))))
      have V_b3 := V_b3.keep K68 (ninS (Ne.symm ne_b1_b3) (ninS (Ne.symm ne_ce2_b3) (ninS (Ne.symm ne_ix2_b3) (ninS (Ne.symm ne_sc2_b3) (ninS (Ne.symm ne_nx2_b3) (ninS (Ne.symm ne_fi2_b3) (ninS (Ne.symm ne_la2_b3) (ninS (Ne.symm ne_sl2_b3) nin0))))))))
      have V_b5 := V_b5.keep K68 (ninS (Ne.symm ne_b1_b5) (ninS (Ne.symm ne_ce2_b5) (ninS (Ne.symm ne_ix2_b5) (ninS (Ne.symm ne_sc2_b5) (ninS (Ne.symm ne_nx2_b5) (ninS (Ne.symm ne_fi2_b5) (ninS (Ne.symm ne_la2_b5) (ninS (Ne.symm ne_sl2_b5) nin0))))))))
      have V_b7 := V_b7.keep K68 (ninS (Ne.symm ne_b1_b7) (ninS (Ne.symm ne_ce2_b7) (ninS (Ne.symm ne_ix2_b7) (ninS (Ne.symm ne_sc2_b7) (ninS (Ne.symm ne_nx2_b7) (ninS (Ne.symm ne_fi2_b7) (ninS (Ne.symm ne_la2_b7) (ninS (Ne.symm ne_sl2_b7) nin0))))))))
      have E_b1 := p68_0
      have F_b1_indexes := p68_1
      have F_b1_arity := p68_2
      have F_b1_cells := p68_3
      have F_b1_unique := p68_4
      have F_b1_size := p68_5
      have F_b1_source := p68_6
      have F_b1_deltaStart := p68_7
      have F_b1_deltaEnd := p68_8
      have E_ix2 := p68_9
      have F_ix2_slots := p68_10
      have F_ix2_firsts := p68_11
      have F_ix2_lasts := p68_12
      have F_ix2_nexts := p68_13
      have F_ix2_relation := p68_14
      have F_ix2_columns := p68_15
      have F_ix2_scratch := p68_16
      have F_ix2_groups := p68_17
      have V_sl2 := p68_18
      have V_fi2 := p68_19
      have V_la2 := p68_20
      have V_nx2 := p68_21
      have V_sc2 := p68_22
      have V_ce2 := p68_23
      have hinv_68 := p68_24
      have hC_68 := p68_25
      have hle_68 := p68_26
      show Go p e below F n0 (fun v _ => v = some (.int (1 : Int32))) T68 (mkF m 64 #[.val (.int i0), .val (.int i1), .val (.int i2), .val (.int i3), .val (.ref b1), .val (.ref b3), .val (.ref b5), .val (.ref b7), .unset, .unset, .unset, .unset, .unset, .unset] [(.int rr68)])
      refine C68.pop at_64 rfl rfl ?_
      refine C68.aload at_65 rfl rfl rfl ?_
      refine C68.callV (hw _ (List.mem_of_getElem? (i := 234) rfl)) (hw _ (List.mem_of_getElem? (i := 91) rfl)) (hw _ (List.mem_of_getElem? (i := 93) rfl)) (hw _ (List.mem_of_getElem? (i := 92) rfl)) (hw _ (List.mem_of_getElem? (i := 2) rfl)) (hw _ (List.mem_of_getElem? (i := 94) rfl)) E_b1 (by decide) (a := b1) (rm11 l Z a0 hw b1 my68 h68 n0 C68.size F_b1_size) (argsL := []) pd11 rfl 0 (by decide) (by decide) (by decide) (by decide) (rest := []) rfl rfl (Nat.le_of_eq rfl) at_67 rfl (fun v69 T69 h69 C69 qq69 => ?_)
      obtain ⟨rfl, hh69⟩ := qq69
      have hh69 := hh69.symm; subst hh69
      show Go p e below F n0 (fun v _ => v = some (.int (1 : Int32))) T69 (mkF m 70 #[.val (.int i0), .val (.int i1), .val (.int i2), .val (.int i3), .val (.ref b1), .val (.ref b3), .val (.ref b5), .val (.ref b7), .unset, .unset, .unset, .unset, .unset, .unset] [(.int my68)])
      refine C69.istore at_70 rfl (L' := #[.val (.int i0), .val (.int i1), .val (.int i2), .val (.int i3), .val (.ref b1), .val (.ref b3), .val (.ref b5), .val (.ref b7), .val (.int my68), .unset, .unset, .unset, .unset, .unset]) rfl ?_
      refine C69.aload at_72 rfl rfl rfl ?_
      refine C69.callV (hw _ (List.mem_of_getElem? (i := 235) rfl)) (hw _ (List.mem_of_getElem? (i := 236) rfl)) (hw _ (List.mem_of_getElem? (i := 238) rfl)) (hw _ (List.mem_of_getElem? (i := 237) rfl)) (hw _ (List.mem_of_getElem? (i := 2) rfl)) (hw _ (List.mem_of_getElem? (i := 239) rfl)) E_b1 (by decide) (a := b1) (rm31 l Z a0 hw b1 al2 ce2 ix2 my68 (0 : Int32) (0 : Int32) h68 n0 C69.size E_b1 F_b1_indexes F_b1_arity F_b1_cells F_b1_unique F_b1_size F_b1_source F_b1_deltaStart F_b1_deltaEnd g_b1) (argsL := []) pd31 rfl 0 (by decide) (by decide) (by decide) (by decide) (rest := []) rfl rfl (Nat.le_of_eq rfl) at_74 rfl (fun v70 T70 h70 C70 qq70 => ?_)
      obtain ⟨rfl, K70, p70_0, p70_1, p70_2, p70_3, p70_4, p70_5, p70_6, p70_7, p70_8⟩ := qq70
      have E_b1 := E_b1.keep K70
      have E_ix2 := E_ix2.keep K70
      have E_al2 := E_al2.keep K70
      have F_al2_modCount := F_al2_modCount.keep K70 (ninS (Ne.symm ne_b1_al2) nin0)
      have F_al2_elementData := F_al2_elementData.keep K70 (ninS (Ne.symm ne_b1_al2) nin0)
      have F_al2_size := F_al2_size.keep K70 (ninS (Ne.symm ne_b1_al2) nin0)
      have V_co2 := V_co2.keep K70 (ninS (Ne.symm ne_b1_co2) nin0)
      have E_ed2 := E_ed2.keep K70
      have V_ed2 := V_ed2.keep K70 (ninS (Ne.symm ne_b1_ed2) nin0)
      have V_b3 := V_b3.keep K70 (ninS (Ne.symm ne_b1_b3) nin0)
      have V_b5 := V_b5.keep K70 (ninS (Ne.symm ne_b1_b5) nin0)
      have V_b7 := V_b7.keep K70 (ninS (Ne.symm ne_b1_b7) nin0)
      have F_ix2_slots := F_ix2_slots.keep K70 (ninS (Ne.symm ne_b1_ix2) nin0)
      have F_ix2_firsts := F_ix2_firsts.keep K70 (ninS (Ne.symm ne_b1_ix2) nin0)
      have F_ix2_lasts := F_ix2_lasts.keep K70 (ninS (Ne.symm ne_b1_ix2) nin0)
      have F_ix2_nexts := F_ix2_nexts.keep K70 (ninS (Ne.symm ne_b1_ix2) nin0)
      have F_ix2_relation := F_ix2_relation.keep K70 (ninS (Ne.symm ne_b1_ix2) nin0)
      have F_ix2_columns := F_ix2_columns.keep K70 (ninS (Ne.symm ne_b1_ix2) nin0)
      have F_ix2_scratch := F_ix2_scratch.keep K70 (ninS (Ne.symm ne_b1_ix2) nin0)
      have F_ix2_groups := F_ix2_groups.keep K70 (ninS (Ne.symm ne_b1_ix2) nin0)
      have V_sl2 := V_sl2.keep K70 (ninS (Ne.symm ne_b1_sl2) nin0)
      have V_fi2 := V_fi2.keep K70 (ninS (Ne.symm ne_b1_fi2) nin0)
      have V_la2 := V_la2.keep K70 (ninS (Ne.symm ne_b1_la2) nin0)
      have V_nx2 := V_nx2.keep K70 (ninS (Ne.symm ne_b1_nx2) nin0)
      have V_sc2 := V_sc2.keep K70 (ninS (Ne.symm ne_b1_sc2) nin0)
      have V_ce2 := V_ce2.keep K70 (ninS (Ne.symm ne_b1_ce2) nin0)
      have E_b1 := p70_0
      have F_b1_indexes := p70_1
      have F_b1_arity := p70_2
      have F_b1_cells := p70_3
      have F_b1_unique := p70_4
      have F_b1_size := p70_5
      have F_b1_source := p70_6
      have F_b1_deltaStart := p70_7
      have F_b1_deltaEnd := p70_8
      show Go p e below F n0 (fun v _ => v = some (.int (1 : Int32))) T70 (mkF m 77 #[.val (.int i0), .val (.int i1), .val (.int i2), .val (.int i3), .val (.ref b1), .val (.ref b3), .val (.ref b5), .val (.ref b7), .val (.int my68), .unset, .unset, .unset, .unset, .unset] [(.int (f31 my68 (0 : Int32) (0 : Int32)))])
      refine C70.istore at_77 rfl (L' := #[.val (.int i0), .val (.int i1), .val (.int i2), .val (.int i3), .val (.ref b1), .val (.ref b3), .val (.ref b5), .val (.ref b7), .val (.int my68), .val (.int (f31 my68 (0 : Int32) (0 : Int32))), .unset, .unset, .unset, .unset]) rfl ?_
      refine C70.aload at_79 rfl rfl rfl ?_
      refine C70.callV (hw _ (List.mem_of_getElem? (i := 244) rfl)) (hw _ (List.mem_of_getElem? (i := 245) rfl)) (hw _ (List.mem_of_getElem? (i := 247) rfl)) (hw _ (List.mem_of_getElem? (i := 246) rfl)) (hw _ (List.mem_of_getElem? (i := 2) rfl)) (hw _ (List.mem_of_getElem? (i := 248) rfl)) E_b1 (by decide) (a := b1) (rm32 l Z a0 hw b1 (0 : Int32) h70 n0 C70.size F_b1_deltaStart) (argsL := []) pd32 rfl 0 (by decide) (by decide) (by decide) (by decide) (rest := []) rfl rfl (Nat.le_of_eq rfl) at_81 rfl (fun v71 T71 h71 C71 qq71 => ?_)
      obtain ⟨rfl, hh71⟩ := qq71
      have hh71 := hh71.symm; subst hh71
      show Go p e below F n0 (fun v _ => v = some (.int (1 : Int32))) T71 (mkF m 84 #[.val (.int i0), .val (.int i1), .val (.int i2), .val (.int i3), .val (.ref b1), .val (.ref b3), .val (.ref b5), .val (.ref b7), .val (.int my68), .val (.int (f31 my68 (0 : Int32) (0 : Int32))), .unset, .unset, .unset, .unset] [(.int (0 : Int32))])
      refine C71.if_ne at_84 (by decide) (by decide : _ = 117) rfl (fun q => absurd (by decide) q) (fun _ => ?_)
      refine C71.aload at_87 rfl rfl rfl ?_
      refine C71.callV (hw _ (List.mem_of_getElem? (i := 249) rfl)) (hw _ (List.mem_of_getElem? (i := 250) rfl)) (hw _ (List.mem_of_getElem? (i := 252) rfl)) (hw _ (List.mem_of_getElem? (i := 251) rfl)) (hw _ (List.mem_of_getElem? (i := 2) rfl)) (hw _ (List.mem_of_getElem? (i := 253) rfl)) E_b1 (by decide) (a := b1) (rm33 l Z a0 hw b1 my68 h70 n0 C71.size F_b1_deltaEnd) (argsL := []) pd33 rfl 0 (by decide) (by decide) (by decide) (by decide) (rest := []) rfl rfl (Nat.le_of_eq rfl) at_89 rfl (fun v72 T72 h72 C72 qq72 => ?_)
      obtain ⟨rfl, hh72⟩ := qq72
      have hh72 := hh72.symm; subst hh72
      show Go p e below F n0 (fun v _ => v = some (.int (1 : Int32))) T72 (mkF m 92 #[.val (.int i0), .val (.int i1), .val (.int i2), .val (.int i3), .val (.ref b1), .val (.ref b3), .val (.ref b5), .val (.ref b7), .val (.int my68), .val (.int (f31 my68 (0 : Int32) (0 : Int32))), .unset, .unset, .unset, .unset] [(.int my68)])
      refine C72.iload at_92 rfl rfl ?_
      refine C72.icmp_ne at_94 (by decide) (by decide : _ = 117) rfl (fun q => absurd rfl q) (fun _ => ?_)
      refine C72.iload at_97 rfl rfl ?_
      refine C72.iconst (0 : Int32) at_99 rfl rfl ?_
      refine C72.iload at_100 rfl rfl ?_
      refine C72.icmp_ge at_102 (by decide) (by decide : _ = 109) rfl (fun c102 => ?_) (fun c102 => ?_)
      · refine C72.iconst (0 : Int32) at_109 rfl rfl ?_
        refine C72.icmp_ne at_110 (by decide) (by decide : _ = 117) rfl (fun q => absurd (by rw [f31, if_neg c102]) q) (fun _ => ?_)
        refine C72.iconst (1 : Int32) at_113 rfl rfl ?_
        refine C72.goto at_114 (by decide) (by decide : _ = 118) ?_
        refine C72.istore at_118 rfl (L' := #[.val (.int i0), .val (.int i1), .val (.int i2), .val (.int i3), .val (.ref b1), .val (.ref b3), .val (.ref b5), .val (.ref b7), .val (.int my68), .val (.int (f31 my68 (0 : Int32) (0 : Int32))), .val (.int (1 : Int32)), .unset, .unset, .unset]) rfl ?_
        refine C72.iloadN at_120 rfl rfl ?_
        refine C72.iconst (4 : Int32) at_121 rfl rfl ?_
        refine C72.iand at_122 rfl ?_
        refine C72.if_eq at_123 (by decide) (by decide : _ = 134) rfl (fun c123 => ?_) (fun c123 => ?_)
        · refine C72.aload at_134 rfl rfl rfl ?_
          refine C72.callV (hw _ (List.mem_of_getElem? (i := 234) rfl)) (hw _ (List.mem_of_getElem? (i := 91) rfl)) (hw _ (List.mem_of_getElem? (i := 93) rfl)) (hw _ (List.mem_of_getElem? (i := 92) rfl)) (hw _ (List.mem_of_getElem? (i := 2) rfl)) (hw _ (List.mem_of_getElem? (i := 94) rfl)) E_b1 (by decide) (a := b1) (rm11 l Z a0 hw b1 my68 h70 n0 C72.size F_b1_size) (argsL := []) pd11 rfl 0 (by decide) (by decide) (by decide) (by decide) (rest := []) rfl rfl (Nat.le_of_eq rfl) at_136 rfl (fun v73 T73 h73 C73 qq73 => ?_)
          obtain ⟨rfl, hh73⟩ := qq73
          have hh73 := hh73.symm; subst hh73
          show Go p e below F n0 (fun v _ => v = some (.int (1 : Int32))) T73 (mkF m 139 #[.val (.int i0), .val (.int i1), .val (.int i2), .val (.int i3), .val (.ref b1), .val (.ref b3), .val (.ref b5), .val (.ref b7), .val (.int my68), .val (.int (f31 my68 (0 : Int32) (0 : Int32))), .val (.int (1 : Int32)), .unset, .unset, .unset] [(.int my68)])
          refine C73.istore at_139 rfl (L' := #[.val (.int i0), .val (.int i1), .val (.int i2), .val (.int i3), .val (.ref b1), .val (.ref b3), .val (.ref b5), .val (.ref b7), .val (.int my68), .val (.int (f31 my68 (0 : Int32) (0 : Int32))), .val (.int (1 : Int32)), .val (.int my68), .unset, .unset]) rfl ?_
          refine C73.aload at_141 rfl rfl rfl ?_
          refine C73.callV (hw _ (List.mem_of_getElem? (i := 235) rfl)) (hw _ (List.mem_of_getElem? (i := 236) rfl)) (hw _ (List.mem_of_getElem? (i := 238) rfl)) (hw _ (List.mem_of_getElem? (i := 237) rfl)) (hw _ (List.mem_of_getElem? (i := 2) rfl)) (hw _ (List.mem_of_getElem? (i := 239) rfl)) E_b1 (by decide) (a := b1) (rm31 l Z a0 hw b1 al2 ce2 ix2 my68 (0 : Int32) my68 h70 n0 C73.size E_b1 F_b1_indexes F_b1_arity F_b1_cells F_b1_unique F_b1_size F_b1_source F_b1_deltaStart F_b1_deltaEnd g_b1) (argsL := []) pd31 rfl 0 (by decide) (by decide) (by decide) (by decide) (rest := []) rfl rfl (Nat.le_of_eq rfl) at_143 rfl (fun v74 T74 h74 C74 qq74 => ?_)
          obtain ⟨rfl, K74, p74_0, p74_1, p74_2, p74_3, p74_4, p74_5, p74_6, p74_7, p74_8⟩ := qq74
          have E_b1 := E_b1.keep K74
          have E_ix2 := E_ix2.keep K74
          have E_al2 := E_al2.keep K74
          have F_al2_modCount := F_al2_modCount.keep K74 (ninS (Ne.symm ne_b1_al2) nin0)
          have F_al2_elementData := F_al2_elementData.keep K74 (ninS (Ne.symm ne_b1_al2) nin0)
          have F_al2_size := F_al2_size.keep K74 (ninS (Ne.symm ne_b1_al2) nin0)
          have V_co2 := V_co2.keep K74 (ninS (Ne.symm ne_b1_co2) nin0)
          have E_ed2 := E_ed2.keep K74
          have V_ed2 := V_ed2.keep K74 (ninS (Ne.symm ne_b1_ed2) nin0)
          have V_b3 := V_b3.keep K74 (ninS (Ne.symm ne_b1_b3) nin0)
          have V_b5 := V_b5.keep K74 (ninS (Ne.symm ne_b1_b5) nin0)
          have V_b7 := V_b7.keep K74 (ninS (Ne.symm ne_b1_b7) nin0)
          have F_ix2_slots := F_ix2_slots.keep K74 (ninS (Ne.symm ne_b1_ix2) nin0)
          have F_ix2_firsts := F_ix2_firsts.keep K74 (ninS (Ne.symm ne_b1_ix2) nin0)
          have F_ix2_lasts := F_ix2_lasts.keep K74 (ninS (Ne.symm ne_b1_ix2) nin0)
          have F_ix2_nexts := F_ix2_nexts.keep K74 (ninS (Ne.symm ne_b1_ix2) nin0)
          have F_ix2_relation := F_ix2_relation.keep K74 (ninS (Ne.symm ne_b1_ix2) nin0)
          have F_ix2_columns := F_ix2_columns.keep K74 (ninS (Ne.symm ne_b1_ix2) nin0)
          have F_ix2_scratch := F_ix2_scratch.keep K74 (ninS (Ne.symm ne_b1_ix2) nin0)
          have F_ix2_groups := F_ix2_groups.keep K74 (ninS (Ne.symm ne_b1_ix2) nin0)
          have V_sl2 := V_sl2.keep K74 (ninS (Ne.symm ne_b1_sl2) nin0)
          have V_fi2 := V_fi2.keep K74 (ninS (Ne.symm ne_b1_fi2) nin0)
          have V_la2 := V_la2.keep K74 (ninS (Ne.symm ne_b1_la2) nin0)
          have V_nx2 := V_nx2.keep K74 (ninS (Ne.symm ne_b1_nx2) nin0)
          have V_sc2 := V_sc2.keep K74 (ninS (Ne.symm ne_b1_sc2) nin0)
          have V_ce2 := V_ce2.keep K74 (ninS (Ne.symm ne_b1_ce2) nin0)
          have E_b1 := p74_0
          have F_b1_indexes := p74_1
          have F_b1_arity := p74_2
          have F_b1_cells := p74_3
          have F_b1_unique := p74_4
          have F_b1_size := p74_5
          have F_b1_source := p74_6
          have F_b1_deltaStart := p74_7
          have F_b1_deltaEnd := p74_8
          show Go p e below F n0 (fun v _ => v = some (.int (1 : Int32))) T74 (mkF m 146 #[.val (.int i0), .val (.int i1), .val (.int i2), .val (.int i3), .val (.ref b1), .val (.ref b3), .val (.ref b5), .val (.ref b7), .val (.int my68), .val (.int (f31 my68 (0 : Int32) (0 : Int32))), .val (.int (1 : Int32)), .val (.int my68), .unset, .unset] [(.int (f31 my68 (0 : Int32) my68))])
          refine C74.istore at_146 rfl (L' := #[.val (.int i0), .val (.int i1), .val (.int i2), .val (.int i3), .val (.ref b1), .val (.ref b3), .val (.ref b5), .val (.ref b7), .val (.int my68), .val (.int (f31 my68 (0 : Int32) (0 : Int32))), .val (.int (1 : Int32)), .val (.int my68), .val (.int (f31 my68 (0 : Int32) my68)), .unset]) rfl ?_
          refine C74.aload at_148 rfl rfl rfl ?_
          refine C74.callV (hw _ (List.mem_of_getElem? (i := 244) rfl)) (hw _ (List.mem_of_getElem? (i := 245) rfl)) (hw _ (List.mem_of_getElem? (i := 247) rfl)) (hw _ (List.mem_of_getElem? (i := 246) rfl)) (hw _ (List.mem_of_getElem? (i := 2) rfl)) (hw _ (List.mem_of_getElem? (i := 248) rfl)) E_b1 (by decide) (a := b1) (rm32 l Z a0 hw b1 my68 h74 n0 C74.size F_b1_deltaStart) (argsL := []) pd32 rfl 0 (by decide) (by decide) (by decide) (by decide) (rest := []) rfl rfl (Nat.le_of_eq rfl) at_150 rfl (fun v75 T75 h75 C75 qq75 => ?_)
          obtain ⟨rfl, hh75⟩ := qq75
          have hh75 := hh75.symm; subst hh75
          show Go p e below F n0 (fun v _ => v = some (.int (1 : Int32))) T75 (mkF m 153 #[.val (.int i0), .val (.int i1), .val (.int i2), .val (.int i3), .val (.ref b1), .val (.ref b3), .val (.ref b5), .val (.ref b7), .val (.int my68), .val (.int (f31 my68 (0 : Int32) (0 : Int32))), .val (.int (1 : Int32)), .val (.int my68), .val (.int (f31 my68 (0 : Int32) my68)), .unset] [(.int my68)])
          refine C75.iload at_153 rfl rfl ?_
          refine C75.icmp_ne at_155 (by decide) (by decide : _ = 189) rfl (fun q => absurd rfl q) (fun _ => ?_)
          refine C75.aload at_158 rfl rfl rfl ?_
          refine C75.callV (hw _ (List.mem_of_getElem? (i := 249) rfl)) (hw _ (List.mem_of_getElem? (i := 250) rfl)) (hw _ (List.mem_of_getElem? (i := 252) rfl)) (hw _ (List.mem_of_getElem? (i := 251) rfl)) (hw _ (List.mem_of_getElem? (i := 2) rfl)) (hw _ (List.mem_of_getElem? (i := 253) rfl)) E_b1 (by decide) (a := b1) (rm33 l Z a0 hw b1 my68 h74 n0 C75.size F_b1_deltaEnd) (argsL := []) pd33 rfl 0 (by decide) (by decide) (by decide) (by decide) (rest := []) rfl rfl (Nat.le_of_eq rfl) at_160 rfl (fun v76 T76 h76 C76 qq76 => ?_)
          obtain ⟨rfl, hh76⟩ := qq76
          have hh76 := hh76.symm; subst hh76
          show Go p e below F n0 (fun v _ => v = some (.int (1 : Int32))) T76 (mkF m 163 #[.val (.int i0), .val (.int i1), .val (.int i2), .val (.int i3), .val (.ref b1), .val (.ref b3), .val (.ref b5), .val (.ref b7), .val (.int my68), .val (.int (f31 my68 (0 : Int32) (0 : Int32))), .val (.int (1 : Int32)), .val (.int my68), .val (.int (f31 my68 (0 : Int32) my68)), .unset] [(.int my68)])
          refine C76.iload at_163 rfl rfl ?_
          refine C76.icmp_ne at_165 (by decide) (by decide : _ = 189) rfl (fun q => absurd rfl q) (fun _ => ?_)
          refine C76.iload at_168 rfl rfl ?_
          refine C76.iload at_170 rfl rfl ?_
          refine C76.iload at_172 rfl rfl ?_
          refine C76.icmp_ge at_174 (by decide) (by decide : _ = 181) rfl (fun c174 => ?_) (fun c174 => ?_)
          · refine C76.iconst (0 : Int32) at_181 rfl rfl ?_
            refine C76.icmp_ne at_182 (by decide) (by decide : _ = 189) rfl (fun q => absurd (by rw [f31, if_neg c174]) q) (fun _ => ?_)
            refine C76.iconst (1 : Int32) at_185 rfl rfl ?_
            refine C76.goto at_186 (by decide) (by decide : _ = 190) ?_
            refine C76.istore at_190 rfl (L' := #[.val (.int i0), .val (.int i1), .val (.int i2), .val (.int i3), .val (.ref b1), .val (.ref b3), .val (.ref b5), .val (.ref b7), .val (.int my68), .val (.int (f31 my68 (0 : Int32) (0 : Int32))), .val (.int (1 : Int32)), .val (.int my68), .val (.int (f31 my68 (0 : Int32) my68)), .val (.int (1 : Int32))]) rfl ?_
            refine C76.iload at_192 rfl rfl ?_
            refine C76.if_eq at_194 (by decide) (by decide : _ = 206) rfl (fun q => absurd q (by decide)) (fun _ => ?_)
            refine C76.iload at_197 rfl rfl ?_
            refine C76.if_eq at_199 (by decide) (by decide : _ = 206) rfl (fun q => absurd q (by decide)) (fun _ => ?_)
            refine C76.iconst (1 : Int32) at_202 rfl rfl ?_
            refine C76.goto at_203 (by decide) (by decide : _ = 207) ?_
            exact C76.retN (t := .boolean) at_207 rfl (by simp) (by decide) (by decide) (w := (1 : Int32)) rfl rfl
          · refine C76.iconst (1 : Int32) at_177 rfl rfl ?_
            refine C76.goto at_178 (by decide) (by decide : _ = 182) ?_
            refine C76.icmp_ne at_182 (by decide) (by decide : _ = 189) rfl (fun q => absurd (by rw [f31, if_pos c174]) q) (fun _ => ?_)
            refine C76.iconst (1 : Int32) at_185 rfl rfl ?_
            refine C76.goto at_186 (by decide) (by decide : _ = 190) ?_
            refine C76.istore at_190 rfl (L' := #[.val (.int i0), .val (.int i1), .val (.int i2), .val (.int i3), .val (.ref b1), .val (.ref b3), .val (.ref b5), .val (.ref b7), .val (.int my68), .val (.int (f31 my68 (0 : Int32) (0 : Int32))), .val (.int (1 : Int32)), .val (.int my68), .val (.int (f31 my68 (0 : Int32) my68)), .val (.int (1 : Int32))]) rfl ?_
            refine C76.iload at_192 rfl rfl ?_
            refine C76.if_eq at_194 (by decide) (by decide : _ = 206) rfl (fun q => absurd q (by decide)) (fun _ => ?_)
            refine C76.iload at_197 rfl rfl ?_
            refine C76.if_eq at_199 (by decide) (by decide : _ = 206) rfl (fun q => absurd q (by decide)) (fun _ => ?_)
            refine C76.iconst (1 : Int32) at_202 rfl rfl ?_
            refine C76.goto at_203 (by decide) (by decide : _ = 207) ?_
            exact C76.retN (t := .boolean) at_207 rfl (by simp) (by decide) (by decide) (w := (1 : Int32)) rfl rfl
        · refine C72.aload at_126 rfl rfl rfl ?_
          refine C72.aload at_128 rfl rfl rfl ?_
          refine C72.callV (hw _ (List.mem_of_getElem? (i := 134) rfl)) (hw _ (List.mem_of_getElem? (i := 135) rfl)) (hw _ (List.mem_of_getElem? (i := 137) rfl)) (hw _ (List.mem_of_getElem? (i := 136) rfl)) (hw _ (List.mem_of_getElem? (i := 2) rfl)) (hw _ (List.mem_of_getElem? (i := 138) rfl)) E_b1 (by decide) (a := b1) (rm17 l Z a0 hw b1 b7 al2 ce2 ix2 ed2 sl2 fi2 la2 nx2 co2 sc2 kce2 ked2 ksl2 kfi2 kla2 knx2 kco2 ksc2 k7 mS68 mF68 mL68 mN68 mC68 mg68 mk68 i2 my68 (0 : Int32) my68 h70 n0 C72.size E_b1 F_b1_indexes F_b1_arity F_b1_cells F_b1_unique F_b1_size F_b1_source F_b1_deltaStart F_b1_deltaEnd E_ix2 F_ix2_slots F_ix2_firsts F_ix2_lasts F_ix2_nexts F_ix2_relation F_ix2_columns F_ix2_scratch F_ix2_groups V_sl2 V_fi2 V_la2 V_nx2 V_co2 V_sc2 V_ce2 E_al2 F_al2_modCount F_al2_elementData F_al2_size E_ed2 V_ed2 O_ked2 V_b7 g_b1 g_ce2 g_ix2 g_sc2 g_nx2 g_fi2 g_la2 g_sl2 hinv_68 (own_pre8 i0 i1 i2 i3 de kde lm al2 ce2 ix2 ed2 sl2 fi2 la2 nx2 co2 sc2 kce2 ked2 ksl2 kfi2 kla2 knx2 kco2 ksc2 mS45 mF45 mL45 mN45 mC45 mg45 mk45 my45 rr45 mS68 mF68 mL68 mN68 mC68 mg68 mk68 my68 rr68 hinv_2 hC_2 hinv_45 hC_45 hle_45 hinv_68 hC_68 hle_68 c40 c54 c102 c123) hC_68 ne_sl2_fi2 ne_sl2_la2 ne_sl2_nx2 ne_sl2_co2 ne_sl2_sc2 ne_sl2_ce2 ne_sl2_ed2 ne_fi2_la2 ne_fi2_nx2 ne_fi2_co2 ne_fi2_sc2 ne_fi2_ce2 ne_fi2_ed2 ne_la2_nx2 ne_la2_co2 ne_la2_sc2 ne_la2_ce2 ne_la2_ed2 ne_nx2_co2 ne_nx2_sc2 ne_nx2_ce2 ne_nx2_ed2 ne_co2_sc2 ne_co2_ce2 ne_co2_ed2 ne_sc2_ce2 ne_sc2_ed2 ne_ce2_ed2 (Ne.symm ne_ce2_b7)) (argsL := [(.ref b7)]) pd17 rfl 0 (by decide) (by decide) (by decide) (by decide) (rest := []) rfl rfl (Nat.le_of_eq rfl) at_130 rfl (fun v77 T77 h77 C77 qq77 => ?_)
          obtain ⟨mS77, mF77, mL77, mN77, mC77, mg77, mk77, my77, rr77, rfl, K77, p77_0, p77_1, p77_2, p77_3, p77_4, p77_5, p77_6, p77_7, p77_8, p77_9, p77_10, p77_11, p77_12, p77_13, p77_14, p77_15, p77_16, p77_17, p77_18, p77_19, p77_20, p77_21, p77_22, p77_23, p77_24, p77_25, p77_26⟩ := qq77
          have E_b1 := E_b1.keep K77
          have E_ix2 := E_ix2.keep K77
          have E_al2 := E_al2.keep K77
          have F_al2_modCount := F_al2_modCount.keep K77 (ninS (Ne.symm ne_b1_al2) (ninS ne_al2_ce2 (ninS ne_al2_ix2 (ninS ne_al2_sc2 (ninS ne_al2_nx2 (ninS ne_al2_fi2 (ninS ne_al2_la2 (ninS ne_al2_sl2 nin0))))))))
          have F_al2_elementData := F_al2_elementData.keep K77 (ninS (Ne.symm ne_b1_al2) (ninS ne_al2_ce2 (ninS ne_al2_ix2 (ninS ne_al2_sc2 (ninS ne_al2_nx2 (ninS ne_al2_fi2 (ninS ne_al2_la2 (ninS ne_al2_sl2 nin0))))))))
          have F_al2_size := F_al2_size.keep K77 (ninS (Ne.symm ne_b1_al2) (ninS ne_al2_ce2 (ninS ne_al2_ix2 (ninS ne_al2_sc2 (ninS ne_al2_nx2 (ninS ne_al2_fi2 (ninS ne_al2_la2 (ninS ne_al2_sl2 nin0))))))))
          have V_co2 := V_co2.keep K77 (ninS (Ne.symm ne_b1_co2) (ninS ne_co2_ce2 (ninS ne_co2_ix2 (ninS ne_co2_sc2 (ninS (Ne.symm ne_nx2_co2) (ninS (Ne.symm ne_fi2_co2) (ninS (Ne.symm ne_la2_co2) (ninS (Ne.symm ne_sl2_co2) nin0))))))))
          have E_ed2 := E_ed2.keep K77
          have V_ed2 := V_ed2.keep K77 (ninS (Ne.symm ne_b1_ed2) (ninS (Ne.symm ne_ce2_ed2) (ninS ne_ed2_ix2 (ninS (Ne.symm ne_sc2_ed2) (ninS (Ne.symm ne_nx2_ed2) (ninS (Ne.symm ne_fi2_ed2) (ninS (Ne.symm ne_la2_ed2) (ninS (Ne.symm ne_sl2_ed2) nin0))))))))
          have V_b3 := V_b3.keep K77 (ninS (Ne.symm ne_b1_b3) (ninS (Ne.symm ne_ce2_b3) (ninS (Ne.symm ne_ix2_b3) (ninS (Ne.symm ne_sc2_b3) (ninS (Ne.symm ne_nx2_b3) (ninS (Ne.symm ne_fi2_b3) (ninS (Ne.symm ne_la2_b3) (ninS (Ne.symm ne_sl2_b3) nin0))))))))
          have V_b5 := V_b5.keep K77 (ninS (Ne.symm ne_b1_b5) (ninS (Ne.symm ne_ce2_b5) (ninS (Ne.symm ne_ix2_b5) (ninS (Ne.symm ne_sc2_b5) (ninS (Ne.symm ne_nx2_b5) (ninS (Ne.symm ne_fi2_b5) (ninS (Ne.symm ne_la2_b5) (ninS (Ne.symm ne_sl2_b5) nin0))))))))
          have V_b7 := V_b7.keep K77 (ninS (Ne.symm ne_b1_b7) (ninS (Ne.symm ne_ce2_b7) (ninS (Ne.symm ne_ix2_b7) (ninS (Ne.symm ne_sc2_b7) (ninS (Ne.symm ne_nx2_b7) (ninS (Ne.symm ne_fi2_b7) (ninS (Ne.symm ne_la2_b7) (ninS (Ne.symm ne_sl2_b7) nin0))))))))
          have E_b1 := p77_0
          have F_b1_indexes := p77_1
          have F_b1_arity := p77_2
          have F_b1_cells := p77_3
          have F_b1_unique := p77_4
          have F_b1_size := p77_5
          have F_b1_source := p77_6
          have F_b1_deltaStart := p77_7
          have F_b1_deltaEnd := p77_8
          have E_ix2 := p77_9
          have F_ix2_slots := p77_10
          have F_ix2_firsts := p77_11
          have F_ix2_lasts := p77_12
          have F_ix2_nexts := p77_13
          have F_ix2_relation := p77_14
          have F_ix2_columns := p77_15
          have F_ix2_scratch := p77_16
          have F_ix2_groups := p77_17
          have V_sl2 := p77_18
          have V_fi2 := p77_19
          have V_la2 := p77_20
          have V_nx2 := p77_21
          have V_sc2 := p77_22
          have V_ce2 := p77_23
          have hinv_77 := p77_24
          have hC_77 := p77_25
          have hle_77 := p77_26
          show Go p e below F n0 (fun v _ => v = some (.int (1 : Int32))) T77 (mkF m 133 #[.val (.int i0), .val (.int i1), .val (.int i2), .val (.int i3), .val (.ref b1), .val (.ref b3), .val (.ref b5), .val (.ref b7), .val (.int my68), .val (.int (f31 my68 (0 : Int32) (0 : Int32))), .val (.int (1 : Int32)), .unset, .unset, .unset] [(.int rr77)])
          refine C77.pop at_133 rfl rfl ?_
          refine C77.aload at_134 rfl rfl rfl ?_
          refine C77.callV (hw _ (List.mem_of_getElem? (i := 234) rfl)) (hw _ (List.mem_of_getElem? (i := 91) rfl)) (hw _ (List.mem_of_getElem? (i := 93) rfl)) (hw _ (List.mem_of_getElem? (i := 92) rfl)) (hw _ (List.mem_of_getElem? (i := 2) rfl)) (hw _ (List.mem_of_getElem? (i := 94) rfl)) E_b1 (by decide) (a := b1) (rm11 l Z a0 hw b1 my77 h77 n0 C77.size F_b1_size) (argsL := []) pd11 rfl 0 (by decide) (by decide) (by decide) (by decide) (rest := []) rfl rfl (Nat.le_of_eq rfl) at_136 rfl (fun v78 T78 h78 C78 qq78 => ?_)
          obtain ⟨rfl, hh78⟩ := qq78
          have hh78 := hh78.symm; subst hh78
          show Go p e below F n0 (fun v _ => v = some (.int (1 : Int32))) T78 (mkF m 139 #[.val (.int i0), .val (.int i1), .val (.int i2), .val (.int i3), .val (.ref b1), .val (.ref b3), .val (.ref b5), .val (.ref b7), .val (.int my68), .val (.int (f31 my68 (0 : Int32) (0 : Int32))), .val (.int (1 : Int32)), .unset, .unset, .unset] [(.int my77)])
          refine C78.istore at_139 rfl (L' := #[.val (.int i0), .val (.int i1), .val (.int i2), .val (.int i3), .val (.ref b1), .val (.ref b3), .val (.ref b5), .val (.ref b7), .val (.int my68), .val (.int (f31 my68 (0 : Int32) (0 : Int32))), .val (.int (1 : Int32)), .val (.int my77), .unset, .unset]) rfl ?_
          refine C78.aload at_141 rfl rfl rfl ?_
          refine C78.callV (hw _ (List.mem_of_getElem? (i := 235) rfl)) (hw _ (List.mem_of_getElem? (i := 236) rfl)) (hw _ (List.mem_of_getElem? (i := 238) rfl)) (hw _ (List.mem_of_getElem? (i := 237) rfl)) (hw _ (List.mem_of_getElem? (i := 2) rfl)) (hw _ (List.mem_of_getElem? (i := 239) rfl)) E_b1 (by decide) (a := b1) (rm31 l Z a0 hw b1 al2 ce2 ix2 my77 (0 : Int32) my68 h77 n0 C78.size E_b1 F_b1_indexes F_b1_arity F_b1_cells F_b1_unique F_b1_size F_b1_source F_b1_deltaStart F_b1_deltaEnd g_b1) (argsL := []) pd31 rfl 0 (by decide) (by decide) (by decide) (by decide) (rest := []) rfl rfl (Nat.le_of_eq rfl) at_143 rfl (fun v79 T79 h79 C79 qq79 => ?_)
          obtain ⟨rfl, K79, p79_0, p79_1, p79_2, p79_3, p79_4, p79_5, p79_6, p79_7, p79_8⟩ := qq79
          have E_b1 := E_b1.keep K79
          have E_ix2 := E_ix2.keep K79
          have E_al2 := E_al2.keep K79
          have F_al2_modCount := F_al2_modCount.keep K79 (ninS (Ne.symm ne_b1_al2) nin0)
          have F_al2_elementData := F_al2_elementData.keep K79 (ninS (Ne.symm ne_b1_al2) nin0)
          have F_al2_size := F_al2_size.keep K79 (ninS (Ne.symm ne_b1_al2) nin0)
          have V_co2 := V_co2.keep K79 (ninS (Ne.symm ne_b1_co2) nin0)
          have E_ed2 := E_ed2.keep K79
          have V_ed2 := V_ed2.keep K79 (ninS (Ne.symm ne_b1_ed2) nin0)
          have V_b3 := V_b3.keep K79 (ninS (Ne.symm ne_b1_b3) nin0)
          have V_b5 := V_b5.keep K79 (ninS (Ne.symm ne_b1_b5) nin0)
          have V_b7 := V_b7.keep K79 (ninS (Ne.symm ne_b1_b7) nin0)
          have F_ix2_slots := F_ix2_slots.keep K79 (ninS (Ne.symm ne_b1_ix2) nin0)
          have F_ix2_firsts := F_ix2_firsts.keep K79 (ninS (Ne.symm ne_b1_ix2) nin0)
          have F_ix2_lasts := F_ix2_lasts.keep K79 (ninS (Ne.symm ne_b1_ix2) nin0)
          have F_ix2_nexts := F_ix2_nexts.keep K79 (ninS (Ne.symm ne_b1_ix2) nin0)
          have F_ix2_relation := F_ix2_relation.keep K79 (ninS (Ne.symm ne_b1_ix2) nin0)
          have F_ix2_columns := F_ix2_columns.keep K79 (ninS (Ne.symm ne_b1_ix2) nin0)
          have F_ix2_scratch := F_ix2_scratch.keep K79 (ninS (Ne.symm ne_b1_ix2) nin0)
          have F_ix2_groups := F_ix2_groups.keep K79 (ninS (Ne.symm ne_b1_ix2) nin0)
          have V_sl2 := V_sl2.keep K79 (ninS (Ne.symm ne_b1_sl2) nin0)
          have V_fi2 := V_fi2.keep K79 (ninS (Ne.symm ne_b1_fi2) nin0)
          have V_la2 := V_la2.keep K79 (ninS (Ne.symm ne_b1_la2) nin0)
          have V_nx2 := V_nx2.keep K79 (ninS (Ne.symm ne_b1_nx2) nin0)
          have V_sc2 := V_sc2.keep K79 (ninS (Ne.symm ne_b1_sc2) nin0)
          have V_ce2 := V_ce2.keep K79 (ninS (Ne.symm ne_b1_ce2) nin0)
          have E_b1 := p79_0
          have F_b1_indexes := p79_1
          have F_b1_arity := p79_2
          have F_b1_cells := p79_3
          have F_b1_unique := p79_4
          have F_b1_size := p79_5
          have F_b1_source := p79_6
          have F_b1_deltaStart := p79_7
          have F_b1_deltaEnd := p79_8
          show Go p e below F n0 (fun v _ => v = some (.int (1 : Int32))) T79 (mkF m 146 #[.val (.int i0), .val (.int i1), .val (.int i2), .val (.int i3), .val (.ref b1), .val (.ref b3), .val (.ref b5), .val (.ref b7), .val (.int my68), .val (.int (f31 my68 (0 : Int32) (0 : Int32))), .val (.int (1 : Int32)), .val (.int my77), .unset, .unset] [(.int (f31 my77 (0 : Int32) my68))])
          refine C79.istore at_146 rfl (L' := #[.val (.int i0), .val (.int i1), .val (.int i2), .val (.int i3), .val (.ref b1), .val (.ref b3), .val (.ref b5), .val (.ref b7), .val (.int my68), .val (.int (f31 my68 (0 : Int32) (0 : Int32))), .val (.int (1 : Int32)), .val (.int my77), .val (.int (f31 my77 (0 : Int32) my68)), .unset]) rfl ?_
          refine C79.aload at_148 rfl rfl rfl ?_
          refine C79.callV (hw _ (List.mem_of_getElem? (i := 244) rfl)) (hw _ (List.mem_of_getElem? (i := 245) rfl)) (hw _ (List.mem_of_getElem? (i := 247) rfl)) (hw _ (List.mem_of_getElem? (i := 246) rfl)) (hw _ (List.mem_of_getElem? (i := 2) rfl)) (hw _ (List.mem_of_getElem? (i := 248) rfl)) E_b1 (by decide) (a := b1) (rm32 l Z a0 hw b1 my68 h79 n0 C79.size F_b1_deltaStart) (argsL := []) pd32 rfl 0 (by decide) (by decide) (by decide) (by decide) (rest := []) rfl rfl (Nat.le_of_eq rfl) at_150 rfl (fun v80 T80 h80 C80 qq80 => ?_)
          obtain ⟨rfl, hh80⟩ := qq80
          have hh80 := hh80.symm; subst hh80
          show Go p e below F n0 (fun v _ => v = some (.int (1 : Int32))) T80 (mkF m 153 #[.val (.int i0), .val (.int i1), .val (.int i2), .val (.int i3), .val (.ref b1), .val (.ref b3), .val (.ref b5), .val (.ref b7), .val (.int my68), .val (.int (f31 my68 (0 : Int32) (0 : Int32))), .val (.int (1 : Int32)), .val (.int my77), .val (.int (f31 my77 (0 : Int32) my68)), .unset] [(.int my68)])
          refine C80.iload at_153 rfl rfl ?_
          refine C80.icmp_ne at_155 (by decide) (by decide : _ = 189) rfl (fun q => absurd rfl q) (fun _ => ?_)
          refine C80.aload at_158 rfl rfl rfl ?_
          refine C80.callV (hw _ (List.mem_of_getElem? (i := 249) rfl)) (hw _ (List.mem_of_getElem? (i := 250) rfl)) (hw _ (List.mem_of_getElem? (i := 252) rfl)) (hw _ (List.mem_of_getElem? (i := 251) rfl)) (hw _ (List.mem_of_getElem? (i := 2) rfl)) (hw _ (List.mem_of_getElem? (i := 253) rfl)) E_b1 (by decide) (a := b1) (rm33 l Z a0 hw b1 my77 h79 n0 C80.size F_b1_deltaEnd) (argsL := []) pd33 rfl 0 (by decide) (by decide) (by decide) (by decide) (rest := []) rfl rfl (Nat.le_of_eq rfl) at_160 rfl (fun v81 T81 h81 C81 qq81 => ?_)
          obtain ⟨rfl, hh81⟩ := qq81
          have hh81 := hh81.symm; subst hh81
          show Go p e below F n0 (fun v _ => v = some (.int (1 : Int32))) T81 (mkF m 163 #[.val (.int i0), .val (.int i1), .val (.int i2), .val (.int i3), .val (.ref b1), .val (.ref b3), .val (.ref b5), .val (.ref b7), .val (.int my68), .val (.int (f31 my68 (0 : Int32) (0 : Int32))), .val (.int (1 : Int32)), .val (.int my77), .val (.int (f31 my77 (0 : Int32) my68)), .unset] [(.int my77)])
          refine C81.iload at_163 rfl rfl ?_
          refine C81.icmp_ne at_165 (by decide) (by decide : _ = 189) rfl (fun q => absurd rfl q) (fun _ => ?_)
          refine C81.iload at_168 rfl rfl ?_
          refine C81.iload at_170 rfl rfl ?_
          refine C81.iload at_172 rfl rfl ?_
          refine C81.icmp_ge at_174 (by decide) (by decide : _ = 181) rfl (fun c174 => ?_) (fun c174 => ?_)
          · refine C81.iconst (0 : Int32) at_181 rfl rfl ?_
            refine C81.icmp_ne at_182 (by decide) (by decide : _ = 189) rfl (fun q => absurd (by rw [f31, if_neg c174]) q) (fun _ => ?_)
            refine C81.iconst (1 : Int32) at_185 rfl rfl ?_
            refine C81.goto at_186 (by decide) (by decide : _ = 190) ?_
            refine C81.istore at_190 rfl (L' := #[.val (.int i0), .val (.int i1), .val (.int i2), .val (.int i3), .val (.ref b1), .val (.ref b3), .val (.ref b5), .val (.ref b7), .val (.int my68), .val (.int (f31 my68 (0 : Int32) (0 : Int32))), .val (.int (1 : Int32)), .val (.int my77), .val (.int (f31 my77 (0 : Int32) my68)), .val (.int (1 : Int32))]) rfl ?_
            refine C81.iload at_192 rfl rfl ?_
            refine C81.if_eq at_194 (by decide) (by decide : _ = 206) rfl (fun q => absurd q (by decide)) (fun _ => ?_)
            refine C81.iload at_197 rfl rfl ?_
            refine C81.if_eq at_199 (by decide) (by decide : _ = 206) rfl (fun q => absurd q (by decide)) (fun _ => ?_)
            refine C81.iconst (1 : Int32) at_202 rfl rfl ?_
            refine C81.goto at_203 (by decide) (by decide : _ = 207) ?_
            exact C81.retN (t := .boolean) at_207 rfl (by simp) (by decide) (by decide) (w := (1 : Int32)) rfl rfl
          · refine C81.iconst (1 : Int32) at_177 rfl rfl ?_
            refine C81.goto at_178 (by decide) (by decide : _ = 182) ?_
            refine C81.icmp_ne at_182 (by decide) (by decide : _ = 189) rfl (fun q => absurd (by rw [f31, if_pos c174]) q) (fun _ => ?_)
            refine C81.iconst (1 : Int32) at_185 rfl rfl ?_
            refine C81.goto at_186 (by decide) (by decide : _ = 190) ?_
            refine C81.istore at_190 rfl (L' := #[.val (.int i0), .val (.int i1), .val (.int i2), .val (.int i3), .val (.ref b1), .val (.ref b3), .val (.ref b5), .val (.ref b7), .val (.int my68), .val (.int (f31 my68 (0 : Int32) (0 : Int32))), .val (.int (1 : Int32)), .val (.int my77), .val (.int (f31 my77 (0 : Int32) my68)), .val (.int (1 : Int32))]) rfl ?_
            refine C81.iload at_192 rfl rfl ?_
            refine C81.if_eq at_194 (by decide) (by decide : _ = 206) rfl (fun q => absurd q (by decide)) (fun _ => ?_)
            refine C81.iload at_197 rfl rfl ?_
            refine C81.if_eq at_199 (by decide) (by decide : _ = 206) rfl (fun q => absurd q (by decide)) (fun _ => ?_)
            refine C81.iconst (1 : Int32) at_202 rfl rfl ?_
            refine C81.goto at_203 (by decide) (by decide : _ = 207) ?_
            exact C81.retN (t := .boolean) at_207 rfl (by simp) (by decide) (by decide) (w := (1 : Int32)) rfl rfl
      · refine C72.iconst (1 : Int32) at_105 rfl rfl ?_
        refine C72.goto at_106 (by decide) (by decide : _ = 110) ?_
        refine C72.icmp_ne at_110 (by decide) (by decide : _ = 117) rfl (fun q => absurd (by rw [f31, if_pos c102]) q) (fun _ => ?_)
        refine C72.iconst (1 : Int32) at_113 rfl rfl ?_
        refine C72.goto at_114 (by decide) (by decide : _ = 118) ?_
        refine C72.istore at_118 rfl (L' := #[.val (.int i0), .val (.int i1), .val (.int i2), .val (.int i3), .val (.ref b1), .val (.ref b3), .val (.ref b5), .val (.ref b7), .val (.int my68), .val (.int (f31 my68 (0 : Int32) (0 : Int32))), .val (.int (1 : Int32)), .unset, .unset, .unset]) rfl ?_
        refine C72.iloadN at_120 rfl rfl ?_
        refine C72.iconst (4 : Int32) at_121 rfl rfl ?_
        refine C72.iand at_122 rfl ?_
        refine C72.if_eq at_123 (by decide) (by decide : _ = 134) rfl (fun c123 => ?_) (fun c123 => ?_)
        · refine C72.aload at_134 rfl rfl rfl ?_
          refine C72.callV (hw _ (List.mem_of_getElem? (i := 234) rfl)) (hw _ (List.mem_of_getElem? (i := 91) rfl)) (hw _ (List.mem_of_getElem? (i := 93) rfl)) (hw _ (List.mem_of_getElem? (i := 92) rfl)) (hw _ (List.mem_of_getElem? (i := 2) rfl)) (hw _ (List.mem_of_getElem? (i := 94) rfl)) E_b1 (by decide) (a := b1) (rm11 l Z a0 hw b1 my68 h70 n0 C72.size F_b1_size) (argsL := []) pd11 rfl 0 (by decide) (by decide) (by decide) (by decide) (rest := []) rfl rfl (Nat.le_of_eq rfl) at_136 rfl (fun v82 T82 h82 C82 qq82 => ?_)
          obtain ⟨rfl, hh82⟩ := qq82
          have hh82 := hh82.symm; subst hh82
          show Go p e below F n0 (fun v _ => v = some (.int (1 : Int32))) T82 (mkF m 139 #[.val (.int i0), .val (.int i1), .val (.int i2), .val (.int i3), .val (.ref b1), .val (.ref b3), .val (.ref b5), .val (.ref b7), .val (.int my68), .val (.int (f31 my68 (0 : Int32) (0 : Int32))), .val (.int (1 : Int32)), .unset, .unset, .unset] [(.int my68)])
          refine C82.istore at_139 rfl (L' := #[.val (.int i0), .val (.int i1), .val (.int i2), .val (.int i3), .val (.ref b1), .val (.ref b3), .val (.ref b5), .val (.ref b7), .val (.int my68), .val (.int (f31 my68 (0 : Int32) (0 : Int32))), .val (.int (1 : Int32)), .val (.int my68), .unset, .unset]) rfl ?_
          refine C82.aload at_141 rfl rfl rfl ?_
          refine C82.callV (hw _ (List.mem_of_getElem? (i := 235) rfl)) (hw _ (List.mem_of_getElem? (i := 236) rfl)) (hw _ (List.mem_of_getElem? (i := 238) rfl)) (hw _ (List.mem_of_getElem? (i := 237) rfl)) (hw _ (List.mem_of_getElem? (i := 2) rfl)) (hw _ (List.mem_of_getElem? (i := 239) rfl)) E_b1 (by decide) (a := b1) (rm31 l Z a0 hw b1 al2 ce2 ix2 my68 (0 : Int32) my68 h70 n0 C82.size E_b1 F_b1_indexes F_b1_arity F_b1_cells F_b1_unique F_b1_size F_b1_source F_b1_deltaStart F_b1_deltaEnd g_b1) (argsL := []) pd31 rfl 0 (by decide) (by decide) (by decide) (by decide) (rest := []) rfl rfl (Nat.le_of_eq rfl) at_143 rfl (fun v83 T83 h83 C83 qq83 => ?_)
          obtain ⟨rfl, K83, p83_0, p83_1, p83_2, p83_3, p83_4, p83_5, p83_6, p83_7, p83_8⟩ := qq83
          have E_b1 := E_b1.keep K83
          have E_ix2 := E_ix2.keep K83
          have E_al2 := E_al2.keep K83
          have F_al2_modCount := F_al2_modCount.keep K83 (ninS (Ne.symm ne_b1_al2) nin0)
          have F_al2_elementData := F_al2_elementData.keep K83 (ninS (Ne.symm ne_b1_al2) nin0)
          have F_al2_size := F_al2_size.keep K83 (ninS (Ne.symm ne_b1_al2) nin0)
          have V_co2 := V_co2.keep K83 (ninS (Ne.symm ne_b1_co2) nin0)
          have E_ed2 := E_ed2.keep K83
          have V_ed2 := V_ed2.keep K83 (ninS (Ne.symm ne_b1_ed2) nin0)
          have V_b3 := V_b3.keep K83 (ninS (Ne.symm ne_b1_b3) nin0)
          have V_b5 := V_b5.keep K83 (ninS (Ne.symm ne_b1_b5) nin0)
          have V_b7 := V_b7.keep K83 (ninS (Ne.symm ne_b1_b7) nin0)
          have F_ix2_slots := F_ix2_slots.keep K83 (ninS (Ne.symm ne_b1_ix2) nin0)
          have F_ix2_firsts := F_ix2_firsts.keep K83 (ninS (Ne.symm ne_b1_ix2) nin0)
          have F_ix2_lasts := F_ix2_lasts.keep K83 (ninS (Ne.symm ne_b1_ix2) nin0)
          have F_ix2_nexts := F_ix2_nexts.keep K83 (ninS (Ne.symm ne_b1_ix2) nin0)
          have F_ix2_relation := F_ix2_relation.keep K83 (ninS (Ne.symm ne_b1_ix2) nin0)
          have F_ix2_columns := F_ix2_columns.keep K83 (ninS (Ne.symm ne_b1_ix2) nin0)
          have F_ix2_scratch := F_ix2_scratch.keep K83 (ninS (Ne.symm ne_b1_ix2) nin0)
          have F_ix2_groups := F_ix2_groups.keep K83 (ninS (Ne.symm ne_b1_ix2) nin0)
          have V_sl2 := V_sl2.keep K83 (ninS (Ne.symm ne_b1_sl2) nin0)
          have V_fi2 := V_fi2.keep K83 (ninS (Ne.symm ne_b1_fi2) nin0)
          have V_la2 := V_la2.keep K83 (ninS (Ne.symm ne_b1_la2) nin0)
          have V_nx2 := V_nx2.keep K83 (ninS (Ne.symm ne_b1_nx2) nin0)
          have V_sc2 := V_sc2.keep K83 (ninS (Ne.symm ne_b1_sc2) nin0)
          have V_ce2 := V_ce2.keep K83 (ninS (Ne.symm ne_b1_ce2) nin0)
          have E_b1 := p83_0
          have F_b1_indexes := p83_1
          have F_b1_arity := p83_2
          have F_b1_cells := p83_3
          have F_b1_unique := p83_4
          have F_b1_size := p83_5
          have F_b1_source := p83_6
          have F_b1_deltaStart := p83_7
          have F_b1_deltaEnd := p83_8
          show Go p e below F n0 (fun v _ => v = some (.int (1 : Int32))) T83 (mkF m 146 #[.val (.int i0), .val (.int i1), .val (.int i2), .val (.int i3), .val (.ref b1), .val (.ref b3), .val (.ref b5), .val (.ref b7), .val (.int my68), .val (.int (f31 my68 (0 : Int32) (0 : Int32))), .val (.int (1 : Int32)), .val (.int my68), .unset, .unset] [(.int (f31 my68 (0 : Int32) my68))])
          refine C83.istore at_146 rfl (L' := #[.val (.int i0), .val (.int i1), .val (.int i2), .val (.int i3), .val (.ref b1), .val (.ref b3), .val (.ref b5), .val (.ref b7), .val (.int my68), .val (.int (f31 my68 (0 : Int32) (0 : Int32))), .val (.int (1 : Int32)), .val (.int my68), .val (.int (f31 my68 (0 : Int32) my68)), .unset]) rfl ?_
          refine C83.aload at_148 rfl rfl rfl ?_
          refine C83.callV (hw _ (List.mem_of_getElem? (i := 244) rfl)) (hw _ (List.mem_of_getElem? (i := 245) rfl)) (hw _ (List.mem_of_getElem? (i := 247) rfl)) (hw _ (List.mem_of_getElem? (i := 246) rfl)) (hw _ (List.mem_of_getElem? (i := 2) rfl)) (hw _ (List.mem_of_getElem? (i := 248) rfl)) E_b1 (by decide) (a := b1) (rm32 l Z a0 hw b1 my68 h83 n0 C83.size F_b1_deltaStart) (argsL := []) pd32 rfl 0 (by decide) (by decide) (by decide) (by decide) (rest := []) rfl rfl (Nat.le_of_eq rfl) at_150 rfl (fun v84 T84 h84 C84 qq84 => ?_)
          obtain ⟨rfl, hh84⟩ := qq84
          have hh84 := hh84.symm; subst hh84
          show Go p e below F n0 (fun v _ => v = some (.int (1 : Int32))) T84 (mkF m 153 #[.val (.int i0), .val (.int i1), .val (.int i2), .val (.int i3), .val (.ref b1), .val (.ref b3), .val (.ref b5), .val (.ref b7), .val (.int my68), .val (.int (f31 my68 (0 : Int32) (0 : Int32))), .val (.int (1 : Int32)), .val (.int my68), .val (.int (f31 my68 (0 : Int32) my68)), .unset] [(.int my68)])
          refine C84.iload at_153 rfl rfl ?_
          refine C84.icmp_ne at_155 (by decide) (by decide : _ = 189) rfl (fun q => absurd rfl q) (fun _ => ?_)
          refine C84.aload at_158 rfl rfl rfl ?_
          refine C84.callV (hw _ (List.mem_of_getElem? (i := 249) rfl)) (hw _ (List.mem_of_getElem? (i := 250) rfl)) (hw _ (List.mem_of_getElem? (i := 252) rfl)) (hw _ (List.mem_of_getElem? (i := 251) rfl)) (hw _ (List.mem_of_getElem? (i := 2) rfl)) (hw _ (List.mem_of_getElem? (i := 253) rfl)) E_b1 (by decide) (a := b1) (rm33 l Z a0 hw b1 my68 h83 n0 C84.size F_b1_deltaEnd) (argsL := []) pd33 rfl 0 (by decide) (by decide) (by decide) (by decide) (rest := []) rfl rfl (Nat.le_of_eq rfl) at_160 rfl (fun v85 T85 h85 C85 qq85 => ?_)
          obtain ⟨rfl, hh85⟩ := qq85
          have hh85 := hh85.symm; subst hh85
          show Go p e below F n0 (fun v _ => v = some (.int (1 : Int32))) T85 (mkF m 163 #[.val (.int i0), .val (.int i1), .val (.int i2), .val (.int i3), .val (.ref b1), .val (.ref b3), .val (.ref b5), .val (.ref b7), .val (.int my68), .val (.int (f31 my68 (0 : Int32) (0 : Int32))), .val (.int (1 : Int32)), .val (.int my68), .val (.int (f31 my68 (0 : Int32) my68)), .unset] [(.int my68)])
          refine C85.iload at_163 rfl rfl ?_
          refine C85.icmp_ne at_165 (by decide) (by decide : _ = 189) rfl (fun q => absurd rfl q) (fun _ => ?_)
          refine C85.iload at_168 rfl rfl ?_
          refine C85.iload at_170 rfl rfl ?_
          refine C85.iload at_172 rfl rfl ?_
          refine C85.icmp_ge at_174 (by decide) (by decide : _ = 181) rfl (fun c174 => ?_) (fun c174 => ?_)
          · refine C85.iconst (0 : Int32) at_181 rfl rfl ?_
            refine C85.icmp_ne at_182 (by decide) (by decide : _ = 189) rfl (fun q => absurd (by rw [f31, if_neg c174]) q) (fun _ => ?_)
            refine C85.iconst (1 : Int32) at_185 rfl rfl ?_
            refine C85.goto at_186 (by decide) (by decide : _ = 190) ?_
            refine C85.istore at_190 rfl (L' := #[.val (.int i0), .val (.int i1), .val (.int i2), .val (.int i3), .val (.ref b1), .val (.ref b3), .val (.ref b5), .val (.ref b7), .val (.int my68), .val (.int (f31 my68 (0 : Int32) (0 : Int32))), .val (.int (1 : Int32)), .val (.int my68), .val (.int (f31 my68 (0 : Int32) my68)), .val (.int (1 : Int32))]) rfl ?_
            refine C85.iload at_192 rfl rfl ?_
            refine C85.if_eq at_194 (by decide) (by decide : _ = 206) rfl (fun q => absurd q (by decide)) (fun _ => ?_)
            refine C85.iload at_197 rfl rfl ?_
            refine C85.if_eq at_199 (by decide) (by decide : _ = 206) rfl (fun q => absurd q (by decide)) (fun _ => ?_)
            refine C85.iconst (1 : Int32) at_202 rfl rfl ?_
            refine C85.goto at_203 (by decide) (by decide : _ = 207) ?_
            exact C85.retN (t := .boolean) at_207 rfl (by simp) (by decide) (by decide) (w := (1 : Int32)) rfl rfl
          · refine C85.iconst (1 : Int32) at_177 rfl rfl ?_
            refine C85.goto at_178 (by decide) (by decide : _ = 182) ?_
            refine C85.icmp_ne at_182 (by decide) (by decide : _ = 189) rfl (fun q => absurd (by rw [f31, if_pos c174]) q) (fun _ => ?_)
            refine C85.iconst (1 : Int32) at_185 rfl rfl ?_
            refine C85.goto at_186 (by decide) (by decide : _ = 190) ?_
            refine C85.istore at_190 rfl (L' := #[.val (.int i0), .val (.int i1), .val (.int i2), .val (.int i3), .val (.ref b1), .val (.ref b3), .val (.ref b5), .val (.ref b7), .val (.int my68), .val (.int (f31 my68 (0 : Int32) (0 : Int32))), .val (.int (1 : Int32)), .val (.int my68), .val (.int (f31 my68 (0 : Int32) my68)), .val (.int (1 : Int32))]) rfl ?_
            refine C85.iload at_192 rfl rfl ?_
            refine C85.if_eq at_194 (by decide) (by decide : _ = 206) rfl (fun q => absurd q (by decide)) (fun _ => ?_)
            refine C85.iload at_197 rfl rfl ?_
            refine C85.if_eq at_199 (by decide) (by decide : _ = 206) rfl (fun q => absurd q (by decide)) (fun _ => ?_)
            refine C85.iconst (1 : Int32) at_202 rfl rfl ?_
            refine C85.goto at_203 (by decide) (by decide : _ = 207) ?_
            exact C85.retN (t := .boolean) at_207 rfl (by simp) (by decide) (by decide) (w := (1 : Int32)) rfl rfl
        · refine C72.aload at_126 rfl rfl rfl ?_
          refine C72.aload at_128 rfl rfl rfl ?_
          refine C72.callV (hw _ (List.mem_of_getElem? (i := 134) rfl)) (hw _ (List.mem_of_getElem? (i := 135) rfl)) (hw _ (List.mem_of_getElem? (i := 137) rfl)) (hw _ (List.mem_of_getElem? (i := 136) rfl)) (hw _ (List.mem_of_getElem? (i := 2) rfl)) (hw _ (List.mem_of_getElem? (i := 138) rfl)) E_b1 (by decide) (a := b1) (rm17 l Z a0 hw b1 b7 al2 ce2 ix2 ed2 sl2 fi2 la2 nx2 co2 sc2 kce2 ked2 ksl2 kfi2 kla2 knx2 kco2 ksc2 k7 mS68 mF68 mL68 mN68 mC68 mg68 mk68 i2 my68 (0 : Int32) my68 h70 n0 C72.size E_b1 F_b1_indexes F_b1_arity F_b1_cells F_b1_unique F_b1_size F_b1_source F_b1_deltaStart F_b1_deltaEnd E_ix2 F_ix2_slots F_ix2_firsts F_ix2_lasts F_ix2_nexts F_ix2_relation F_ix2_columns F_ix2_scratch F_ix2_groups V_sl2 V_fi2 V_la2 V_nx2 V_co2 V_sc2 V_ce2 E_al2 F_al2_modCount F_al2_elementData F_al2_size E_ed2 V_ed2 O_ked2 V_b7 g_b1 g_ce2 g_ix2 g_sc2 g_nx2 g_fi2 g_la2 g_sl2 hinv_68 (own_pre9 i0 i1 i2 i3 de kde lm al2 ce2 ix2 ed2 sl2 fi2 la2 nx2 co2 sc2 kce2 ked2 ksl2 kfi2 kla2 knx2 kco2 ksc2 mS45 mF45 mL45 mN45 mC45 mg45 mk45 my45 rr45 mS68 mF68 mL68 mN68 mC68 mg68 mk68 my68 rr68 hinv_2 hC_2 hinv_45 hC_45 hle_45 hinv_68 hC_68 hle_68 c40 c54 c102 c123) hC_68 ne_sl2_fi2 ne_sl2_la2 ne_sl2_nx2 ne_sl2_co2 ne_sl2_sc2 ne_sl2_ce2 ne_sl2_ed2 ne_fi2_la2 ne_fi2_nx2 ne_fi2_co2 ne_fi2_sc2 ne_fi2_ce2 ne_fi2_ed2 ne_la2_nx2 ne_la2_co2 ne_la2_sc2 ne_la2_ce2 ne_la2_ed2 ne_nx2_co2 ne_nx2_sc2 ne_nx2_ce2 ne_nx2_ed2 ne_co2_sc2 ne_co2_ce2 ne_co2_ed2 ne_sc2_ce2 ne_sc2_ed2 ne_ce2_ed2 (Ne.symm ne_ce2_b7)) (argsL := [(.ref b7)]) pd17 rfl 0 (by decide) (by decide) (by decide) (by decide) (rest := []) rfl rfl (Nat.le_of_eq rfl) at_130 rfl (fun v86 T86 h86 C86 qq86 => ?_)
          obtain ⟨mS86, mF86, mL86, mN86, mC86, mg86, mk86, my86, rr86, rfl, K86, p86_0, p86_1, p86_2, p86_3, p86_4, p86_5, p86_6, p86_7, p86_8, p86_9, p86_10, p86_11, p86_12, p86_13, p86_14, p86_15, p86_16, p86_17, p86_18, p86_19, p86_20, p86_21, p86_22, p86_23, p86_24, p86_25, p86_26⟩ := qq86
          have E_b1 := E_b1.keep K86
          have E_ix2 := E_ix2.keep K86
          have E_al2 := E_al2.keep K86
          have F_al2_modCount := F_al2_modCount.keep K86 (ninS (Ne.symm ne_b1_al2) (ninS ne_al2_ce2 (ninS ne_al2_ix2 (ninS ne_al2_sc2 (ninS ne_al2_nx2 (ninS ne_al2_fi2 (ninS ne_al2_la2 (ninS ne_al2_sl2 nin0))))))))
          have F_al2_elementData := F_al2_elementData.keep K86 (ninS (Ne.symm ne_b1_al2) (ninS ne_al2_ce2 (ninS ne_al2_ix2 (ninS ne_al2_sc2 (ninS ne_al2_nx2 (ninS ne_al2_fi2 (ninS ne_al2_la2 (ninS ne_al2_sl2 nin0))))))))
          have F_al2_size := F_al2_size.keep K86 (ninS (Ne.symm ne_b1_al2) (ninS ne_al2_ce2 (ninS ne_al2_ix2 (ninS ne_al2_sc2 (ninS ne_al2_nx2 (ninS ne_al2_fi2 (ninS ne_al2_la2 (ninS ne_al2_sl2 nin0))))))))
          have V_co2 := V_co2.keep K86 (ninS (Ne.symm ne_b1_co2) (ninS ne_co2_ce2 (ninS ne_co2_ix2 (ninS ne_co2_sc2 (ninS (Ne.symm ne_nx2_co2) (ninS (Ne.symm ne_fi2_co2) (ninS (Ne.symm ne_la2_co2) (ninS (Ne.symm ne_sl2_co2) nin0))))))))
          have E_ed2 := E_ed2.keep K86
          have V_ed2 := V_ed2.keep K86 (ninS (Ne.symm ne_b1_ed2) (ninS (Ne.symm ne_ce2_ed2) (ninS ne_ed2_ix2 (ninS (Ne.symm ne_sc2_ed2) (ninS (Ne.symm ne_nx2_ed2) (ninS (Ne.symm ne_fi2_ed2) (ninS (Ne.symm ne_la2_ed2) (ninS (Ne.symm ne_sl2_ed2) nin0))))))))
          have V_b3 := V_b3.keep K86 (ninS (Ne.symm ne_b1_b3) (ninS (Ne.symm ne_ce2_b3) (ninS (Ne.symm ne_ix2_b3) (ninS (Ne.symm ne_sc2_b3) (ninS (Ne.symm ne_nx2_b3) (ninS (Ne.symm ne_fi2_b3) (ninS (Ne.symm ne_la2_b3) (ninS (Ne.symm ne_sl2_b3) nin0))))))))
          have V_b5 := V_b5.keep K86 (ninS (Ne.symm ne_b1_b5) (ninS (Ne.symm ne_ce2_b5) (ninS (Ne.symm ne_ix2_b5) (ninS (Ne.symm ne_sc2_b5) (ninS (Ne.symm ne_nx2_b5) (ninS (Ne.symm ne_fi2_b5) (ninS (Ne.symm ne_la2_b5) (ninS (Ne.symm ne_sl2_b5) nin0))))))))
          have V_b7 := V_b7.keep K86 (ninS (Ne.symm ne_b1_b7) (ninS (Ne.symm ne_ce2_b7) (ninS (Ne.symm ne_ix2_b7) (ninS (Ne.symm ne_sc2_b7) (ninS (Ne.symm ne_nx2_b7) (ninS (Ne.symm ne_fi2_b7) (ninS (Ne.symm ne_la2_b7) (ninS (Ne.symm ne_sl2_b7) nin0))))))))
          have E_b1 := p86_0
          have F_b1_indexes := p86_1
          have F_b1_arity := p86_2
          have F_b1_cells := p86_3
          have F_b1_unique := p86_4
          have F_b1_size := p86_5
          have F_b1_source := p86_6
          have F_b1_deltaStart := p86_7
          have F_b1_deltaEnd := p86_8
          have E_ix2 := p86_9
          have F_ix2_slots := p86_10
          have F_ix2_firsts := p86_11
          have F_ix2_lasts := p86_12
          have F_ix2_nexts := p86_13
          have F_ix2_relation := p86_14
          have F_ix2_columns := p86_15
          have F_ix2_scratch := p86_16
          have F_ix2_groups := p86_17
          have V_sl2 := p86_18
          have V_fi2 := p86_19
          have V_la2 := p86_20
          have V_nx2 := p86_21
          have V_sc2 := p86_22
          have V_ce2 := p86_23
          have hinv_86 := p86_24
          have hC_86 := p86_25
          have hle_86 := p86_26
          show Go p e below F n0 (fun v _ => v = some (.int (1 : Int32))) T86 (mkF m 133 #[.val (.int i0), .val (.int i1), .val (.int i2), .val (.int i3), .val (.ref b1), .val (.ref b3), .val (.ref b5), .val (.ref b7), .val (.int my68), .val (.int (f31 my68 (0 : Int32) (0 : Int32))), .val (.int (1 : Int32)), .unset, .unset, .unset] [(.int rr86)])
          refine C86.pop at_133 rfl rfl ?_
          refine C86.aload at_134 rfl rfl rfl ?_
          refine C86.callV (hw _ (List.mem_of_getElem? (i := 234) rfl)) (hw _ (List.mem_of_getElem? (i := 91) rfl)) (hw _ (List.mem_of_getElem? (i := 93) rfl)) (hw _ (List.mem_of_getElem? (i := 92) rfl)) (hw _ (List.mem_of_getElem? (i := 2) rfl)) (hw _ (List.mem_of_getElem? (i := 94) rfl)) E_b1 (by decide) (a := b1) (rm11 l Z a0 hw b1 my86 h86 n0 C86.size F_b1_size) (argsL := []) pd11 rfl 0 (by decide) (by decide) (by decide) (by decide) (rest := []) rfl rfl (Nat.le_of_eq rfl) at_136 rfl (fun v87 T87 h87 C87 qq87 => ?_)
          obtain ⟨rfl, hh87⟩ := qq87
          have hh87 := hh87.symm; subst hh87
          show Go p e below F n0 (fun v _ => v = some (.int (1 : Int32))) T87 (mkF m 139 #[.val (.int i0), .val (.int i1), .val (.int i2), .val (.int i3), .val (.ref b1), .val (.ref b3), .val (.ref b5), .val (.ref b7), .val (.int my68), .val (.int (f31 my68 (0 : Int32) (0 : Int32))), .val (.int (1 : Int32)), .unset, .unset, .unset] [(.int my86)])
          refine C87.istore at_139 rfl (L' := #[.val (.int i0), .val (.int i1), .val (.int i2), .val (.int i3), .val (.ref b1), .val (.ref b3), .val (.ref b5), .val (.ref b7), .val (.int my68), .val (.int (f31 my68 (0 : Int32) (0 : Int32))), .val (.int (1 : Int32)), .val (.int my86), .unset, .unset]) rfl ?_
          refine C87.aload at_141 rfl rfl rfl ?_
          refine C87.callV (hw _ (List.mem_of_getElem? (i := 235) rfl)) (hw _ (List.mem_of_getElem? (i := 236) rfl)) (hw _ (List.mem_of_getElem? (i := 238) rfl)) (hw _ (List.mem_of_getElem? (i := 237) rfl)) (hw _ (List.mem_of_getElem? (i := 2) rfl)) (hw _ (List.mem_of_getElem? (i := 239) rfl)) E_b1 (by decide) (a := b1) (rm31 l Z a0 hw b1 al2 ce2 ix2 my86 (0 : Int32) my68 h86 n0 C87.size E_b1 F_b1_indexes F_b1_arity F_b1_cells F_b1_unique F_b1_size F_b1_source F_b1_deltaStart F_b1_deltaEnd g_b1) (argsL := []) pd31 rfl 0 (by decide) (by decide) (by decide) (by decide) (rest := []) rfl rfl (Nat.le_of_eq rfl) at_143 rfl (fun v88 T88 h88 C88 qq88 => ?_)
          obtain ⟨rfl, K88, p88_0, p88_1, p88_2, p88_3, p88_4, p88_5, p88_6, p88_7, p88_8⟩ := qq88
          have E_b1 := E_b1.keep K88
          have E_ix2 := E_ix2.keep K88
          have E_al2 := E_al2.keep K88
          have F_al2_modCount := F_al2_modCount.keep K88 (ninS (Ne.symm ne_b1_al2) nin0)
          have F_al2_elementData := F_al2_elementData.keep K88 (ninS (Ne.symm ne_b1_al2) nin0)
          have F_al2_size := F_al2_size.keep K88 (ninS (Ne.symm ne_b1_al2) nin0)
          have V_co2 := V_co2.keep K88 (ninS (Ne.symm ne_b1_co2) nin0)
          have E_ed2 := E_ed2.keep K88
          have V_ed2 := V_ed2.keep K88 (ninS (Ne.symm ne_b1_ed2) nin0)
          have V_b3 := V_b3.keep K88 (ninS (Ne.symm ne_b1_b3) nin0)
          have V_b5 := V_b5.keep K88 (ninS (Ne.symm ne_b1_b5) nin0)
          have V_b7 := V_b7.keep K88 (ninS (Ne.symm ne_b1_b7) nin0)
          have F_ix2_slots := F_ix2_slots.keep K88 (ninS (Ne.symm ne_b1_ix2) nin0)
          have F_ix2_firsts := F_ix2_firsts.keep K88 (ninS (Ne.symm ne_b1_ix2) nin0)
          have F_ix2_lasts := F_ix2_lasts.keep K88 (ninS (Ne.symm ne_b1_ix2) nin0)
          have F_ix2_nexts := F_ix2_nexts.keep K88 (ninS (Ne.symm ne_b1_ix2) nin0)
          have F_ix2_relation := F_ix2_relation.keep K88 (ninS (Ne.symm ne_b1_ix2) nin0)
          have F_ix2_columns := F_ix2_columns.keep K88 (ninS (Ne.symm ne_b1_ix2) nin0)
          have F_ix2_scratch := F_ix2_scratch.keep K88 (ninS (Ne.symm ne_b1_ix2) nin0)
          have F_ix2_groups := F_ix2_groups.keep K88 (ninS (Ne.symm ne_b1_ix2) nin0)
          have V_sl2 := V_sl2.keep K88 (ninS (Ne.symm ne_b1_sl2) nin0)
          have V_fi2 := V_fi2.keep K88 (ninS (Ne.symm ne_b1_fi2) nin0)
          have V_la2 := V_la2.keep K88 (ninS (Ne.symm ne_b1_la2) nin0)
          have V_nx2 := V_nx2.keep K88 (ninS (Ne.symm ne_b1_nx2) nin0)
          have V_sc2 := V_sc2.keep K88 (ninS (Ne.symm ne_b1_sc2) nin0)
          have V_ce2 := V_ce2.keep K88 (ninS (Ne.symm ne_b1_ce2) nin0)
          have E_b1 := p88_0
          have F_b1_indexes := p88_1
          have F_b1_arity := p88_2
          have F_b1_cells := p88_3
          have F_b1_unique := p88_4
          have F_b1_size := p88_5
          have F_b1_source := p88_6
          have F_b1_deltaStart := p88_7
          have F_b1_deltaEnd := p88_8
          show Go p e below F n0 (fun v _ => v = some (.int (1 : Int32))) T88 (mkF m 146 #[.val (.int i0), .val (.int i1), .val (.int i2), .val (.int i3), .val (.ref b1), .val (.ref b3), .val (.ref b5), .val (.ref b7), .val (.int my68), .val (.int (f31 my68 (0 : Int32) (0 : Int32))), .val (.int (1 : Int32)), .val (.int my86), .unset, .unset] [(.int (f31 my86 (0 : Int32) my68))])
          refine C88.istore at_146 rfl (L' := #[.val (.int i0), .val (.int i1), .val (.int i2), .val (.int i3), .val (.ref b1), .val (.ref b3), .val (.ref b5), .val (.ref b7), .val (.int my68), .val (.int (f31 my68 (0 : Int32) (0 : Int32))), .val (.int (1 : Int32)), .val (.int my86), .val (.int (f31 my86 (0 : Int32) my68)), .unset]) rfl ?_
          refine C88.aload at_148 rfl rfl rfl ?_
          refine C88.callV (hw _ (List.mem_of_getElem? (i := 244) rfl)) (hw _ (List.mem_of_getElem? (i := 245) rfl)) (hw _ (List.mem_of_getElem? (i := 247) rfl)) (hw _ (List.mem_of_getElem? (i := 246) rfl)) (hw _ (List.mem_of_getElem? (i := 2) rfl)) (hw _ (List.mem_of_getElem? (i := 248) rfl)) E_b1 (by decide) (a := b1) (rm32 l Z a0 hw b1 my68 h88 n0 C88.size F_b1_deltaStart) (argsL := []) pd32 rfl 0 (by decide) (by decide) (by decide) (by decide) (rest := []) rfl rfl (Nat.le_of_eq rfl) at_150 rfl (fun v89 T89 h89 C89 qq89 => ?_)
          obtain ⟨rfl, hh89⟩ := qq89
          have hh89 := hh89.symm; subst hh89
          show Go p e below F n0 (fun v _ => v = some (.int (1 : Int32))) T89 (mkF m 153 #[.val (.int i0), .val (.int i1), .val (.int i2), .val (.int i3), .val (.ref b1), .val (.ref b3), .val (.ref b5), .val (.ref b7), .val (.int my68), .val (.int (f31 my68 (0 : Int32) (0 : Int32))), .val (.int (1 : Int32)), .val (.int my86), .val (.int (f31 my86 (0 : Int32) my68)), .unset] [(.int my68)])
          refine C89.iload at_153 rfl rfl ?_
          refine C89.icmp_ne at_155 (by decide) (by decide : _ = 189) rfl (fun q => absurd rfl q) (fun _ => ?_)
          refine C89.aload at_158 rfl rfl rfl ?_
          refine C89.callV (hw _ (List.mem_of_getElem? (i := 249) rfl)) (hw _ (List.mem_of_getElem? (i := 250) rfl)) (hw _ (List.mem_of_getElem? (i := 252) rfl)) (hw _ (List.mem_of_getElem? (i := 251) rfl)) (hw _ (List.mem_of_getElem? (i := 2) rfl)) (hw _ (List.mem_of_getElem? (i := 253) rfl)) E_b1 (by decide) (a := b1) (rm33 l Z a0 hw b1 my86 h88 n0 C89.size F_b1_deltaEnd) (argsL := []) pd33 rfl 0 (by decide) (by decide) (by decide) (by decide) (rest := []) rfl rfl (Nat.le_of_eq rfl) at_160 rfl (fun v90 T90 h90 C90 qq90 => ?_)
          obtain ⟨rfl, hh90⟩ := qq90
          have hh90 := hh90.symm; subst hh90
          show Go p e below F n0 (fun v _ => v = some (.int (1 : Int32))) T90 (mkF m 163 #[.val (.int i0), .val (.int i1), .val (.int i2), .val (.int i3), .val (.ref b1), .val (.ref b3), .val (.ref b5), .val (.ref b7), .val (.int my68), .val (.int (f31 my68 (0 : Int32) (0 : Int32))), .val (.int (1 : Int32)), .val (.int my86), .val (.int (f31 my86 (0 : Int32) my68)), .unset] [(.int my86)])
          refine C90.iload at_163 rfl rfl ?_
          refine C90.icmp_ne at_165 (by decide) (by decide : _ = 189) rfl (fun q => absurd rfl q) (fun _ => ?_)
          refine C90.iload at_168 rfl rfl ?_
          refine C90.iload at_170 rfl rfl ?_
          refine C90.iload at_172 rfl rfl ?_
          refine C90.icmp_ge at_174 (by decide) (by decide : _ = 181) rfl (fun c174 => ?_) (fun c174 => ?_)
          · refine C90.iconst (0 : Int32) at_181 rfl rfl ?_
            refine C90.icmp_ne at_182 (by decide) (by decide : _ = 189) rfl (fun q => absurd (by rw [f31, if_neg c174]) q) (fun _ => ?_)
            refine C90.iconst (1 : Int32) at_185 rfl rfl ?_
            refine C90.goto at_186 (by decide) (by decide : _ = 190) ?_
            refine C90.istore at_190 rfl (L' := #[.val (.int i0), .val (.int i1), .val (.int i2), .val (.int i3), .val (.ref b1), .val (.ref b3), .val (.ref b5), .val (.ref b7), .val (.int my68), .val (.int (f31 my68 (0 : Int32) (0 : Int32))), .val (.int (1 : Int32)), .val (.int my86), .val (.int (f31 my86 (0 : Int32) my68)), .val (.int (1 : Int32))]) rfl ?_
            refine C90.iload at_192 rfl rfl ?_
            refine C90.if_eq at_194 (by decide) (by decide : _ = 206) rfl (fun q => absurd q (by decide)) (fun _ => ?_)
            refine C90.iload at_197 rfl rfl ?_
            refine C90.if_eq at_199 (by decide) (by decide : _ = 206) rfl (fun q => absurd q (by decide)) (fun _ => ?_)
            refine C90.iconst (1 : Int32) at_202 rfl rfl ?_
            refine C90.goto at_203 (by decide) (by decide : _ = 207) ?_
            exact C90.retN (t := .boolean) at_207 rfl (by simp) (by decide) (by decide) (w := (1 : Int32)) rfl rfl
          · refine C90.iconst (1 : Int32) at_177 rfl rfl ?_
            refine C90.goto at_178 (by decide) (by decide : _ = 182) ?_
            refine C90.icmp_ne at_182 (by decide) (by decide : _ = 189) rfl (fun q => absurd (by rw [f31, if_pos c174]) q) (fun _ => ?_)
            refine C90.iconst (1 : Int32) at_185 rfl rfl ?_
            refine C90.goto at_186 (by decide) (by decide : _ = 190) ?_
            refine C90.istore at_190 rfl (L' := #[.val (.int i0), .val (.int i1), .val (.int i2), .val (.int i3), .val (.ref b1), .val (.ref b3), .val (.ref b5), .val (.ref b7), .val (.int my68), .val (.int (f31 my68 (0 : Int32) (0 : Int32))), .val (.int (1 : Int32)), .val (.int my86), .val (.int (f31 my86 (0 : Int32) my68)), .val (.int (1 : Int32))]) rfl ?_
            refine C90.iload at_192 rfl rfl ?_
            refine C90.if_eq at_194 (by decide) (by decide : _ = 206) rfl (fun q => absurd q (by decide)) (fun _ => ?_)
            refine C90.iload at_197 rfl rfl ?_
            refine C90.if_eq at_199 (by decide) (by decide : _ = 206) rfl (fun q => absurd q (by decide)) (fun _ => ?_)
            refine C90.iconst (1 : Int32) at_202 rfl rfl ?_
            refine C90.goto at_203 (by decide) (by decide : _ = 207) ?_
            exact C90.retN (t := .boolean) at_207 rfl (by simp) (by decide) (by decide) (w := (1 : Int32)) rfl rfl
set_option maxRecDepth 65536 in
set_option maxHeartbeats 40000000 in
theorem comes_1 {Post : Tables → Env → Array Value → State → Outcome → State → Prop} (hpost : ∀ tb e args s v u, (limb_1_1.after args s (.returned v) u = true ∧ limb_1_2.after args s (.returned v) u = true ∧ True) → FrameEnd s (.returned v) u (Jvm.fieldLocs frame_1_writes args s ++ Jvm.arrayLocs frame_1_arrays args s ++ Jvm.staticLocs frame_1_statics s) 48 320 → Post tb e args s (.returned v) u) :
    ArmFor flags0 classFile x code maxLocals ret World_1 tables_1 room_1 Calls_1 rest_1 Pre_1 Post := by
  intro l hfl _ _ p e ha hc hk s m args below hf hA hF happ hP
  obtain ⟨hcalls, hrest, hpre⟩ := hP
  obtain ⟨-, -, -, hnamed, -, -, -, hat⟩ := (Spec.applies_iff hf).mp happ
  obtain ⟨hg, hn⟩ := and_e (Cond.before_iff.mp (show (Jvm.Cond.and given_1 narrow_1).before args s = true from hpre))
  obtain ⟨g1, g2⟩ := and_e hg
  obtain ⟨g3, g4⟩ := and_e g2
  obtain ⟨g5, g6⟩ := and_e g4
  obtain ⟨g7, g8⟩ := and_e g6
  obtain ⟨w0, w1, w2, w3, rfl⟩ : ∃ w0 w1 w2 w3 : Value, args = #[w0, w1, w2, w3] := by
    have hs : args.size = 4 := by simpa [Cond.value, given_1] using g1
    obtain ⟨L⟩ := args
    match L, hs with
    | [w0, w1, w2, w3], _ => exact ⟨w0, w1, w2, w3, rfl⟩
  have hw := fun d (hd : d ∈ tables_1) => atoms_spec (ws := Jvm.Cond.code x code maxLocals ret :: tables_1) hat d (List.mem_cons_of_mem _ hd)
  have hfit : Fit s := fun {y c} hc i hi => by
    obtain ⟨ha, rfl⟩ := Array.getElem?_eq_some_iff.mp hc
    have q := List.all_eq_true.mp ((Array.all_eq_true_iff_forall_mem.mp hF) _ (Array.getElem_mem ha)) i (List.mem_range.mpr hi)
    simpa [Array.getElem?_eq_getElem hi] using q
  obtain ⟨hsets, hown0⟩ := atoms_of _ (rest_1_c_eq ▸ (show rest_1_c.before _ s = true from hrest))
  have hr0 := Cond.before_iff.mp hown0
  obtain ⟨i0, ei0⟩ := is_v g3
  obtain rfl : w0 = (.int i0) := Option.some.inj ei0
  obtain ⟨i1, ei1⟩ := is_v g5
  obtain rfl : w1 = (.int i1) := Option.some.inj ei1
  obtain ⟨i2, ei2⟩ := is_v g7
  obtain rfl : w2 = (.int i2) := Option.some.inj ei2
  obtain ⟨i3, ei3⟩ := is_v g8
  obtain rfl : w3 = (.int i3) := Option.some.inj ei3
  obtain ⟨de, ev1⟩ := exa_v (Cond.before_iff.mp (hsets _ (List.mem_of_getElem? (i := 7) rfl)))
  have S1 := Sta.start ev1 (Or.inr ⟨(hw _ (List.mem_of_getElem? (i := 11) rfl)), hsets _ (List.mem_of_getElem? (i := 2) rfl)⟩)
  obtain ⟨kde, V1⟩ := own_de hfit ev1 (Cond.before_iff.mp (hsets _ (List.mem_of_getElem? (i := 6) rfl))) (Cond.before_iff.mp (hsets _ (List.mem_of_getElem? (i := 8) rfl)))
  obtain ⟨lm, L1, hsite⟩ := Lam.start rfl (hw _ (List.mem_of_getElem? (i := 44) rfl)) (hw _ (List.mem_of_getElem? (i := 56) rfl)) (hw _ (List.mem_of_getElem? (i := 57) rfl))
  obtain ⟨n, o, h1, h2, h3, _, L, rfl, ⟨⟨rfl, -⟩, N⟩, hq⟩ := rm0 l s _ hw i0 i1 i2 i3 de kde lm s.heap s.heap.size (Nat.le_refl _) S1 V1 V1.lt L1 L1.lt hsite tables_1 p e ha hc hk s m _ below hf ((Spec.applies_iff_loose hf).mp happ).1 ⟨rfl, State.Warmed39.refl s, rfl⟩ trivial
  refine ⟨n, _, h1, h2, h3, hpost _ _ _ _ _ _ ⟨Cond.after_iff.mpr rfl, Cond.after_iff.mpr (eq_i res_at (Term.int_eval (1)) rfl), trivial⟩ ⟨hq.1, hq.2.1, (hq.2.2.sift fun y hy => Or.inr (N y hy)).mono (by decide) (by decide)⟩⟩
theorem main_1_1 : Claimed_1_1 := comes_1 fun _ _ _ _ _ _ h hF => ⟨h.1, EndF.of (wd := true) hF⟩
theorem main_1_2 : Claimed_1_2 := comes_1 fun _ _ _ _ _ _ h hF => ⟨h.2.1, EndF.of (wd := true) hF⟩
end Jvm.Pilot.@@N@@
namespace Jvm.Pilot.@@N@@
open Jvm Jvm.ClassFile Sem Op Lib Jvm.Free Jvm.Stand Jvm.Pilot.@@N@@.Jvm.D
/-! MADE BY PROGRAM (witnessworld.py) out of the Statement's table words and the real class files: 27 classes; the members and pool entries that the words name. The judged class is class 1, her method 1. -/
namespace start1
open Jvm.ClassFile
def u (s : String) : CpInfo := .utf8 (stringToUtf16 s)
/-- a pool by its gaps: so many unusable entries, then the entry; so many at the end -/
def gap : Nat → List CpInfo → List CpInfo
  | 0, r => r
  | n + 1, r => .unusable :: gap n r
def poolList (es : List (Nat × CpInfo)) (last : Nat) : List CpInfo := es.foldr (fun e r => gap e.1 (e.2 :: r)) (gap last [])
def pool (es : List (Nat × CpInfo)) (last : Nat) : Array CpInfo := ⟨poolList es last⟩
def fileOf (pool : Array CpInfo) (this : Nat) (attrs : Array Attribute := #[]) (ms : Array MethodInfo := #[]) (fl : Nat := 33) (sup : Nat := 0) (ifs : Array Nat := #[]) (fds : Array FieldInfo := #[]) : ClassFile where
  minorVersion := 0
  majorVersion := 65
  constantPool := pool
  accessFlags := fl
  thisClass := this
  superClass := sup
  interfaces := ifs
  fields := fds
  methods := ms
  attributes := attrs
def plain (name : String) (sup : Option ClassId) : Class where
  name := name
  kind := .ordinary
  loader := none
  accessFlags := 33
  super := sup
  interfaces := #[]
  cf := none
  fields := #[]
  methods := #[]
  instanceTypes := #[]
  staticTypes := #[]
  resolved := #[]
  callSites := []
  init := .initialized
  statics := none
  mirror := none

def pool0 : Array CpInfo := pool [(5, u "<init>"), (0, u "()V"), (1, .class_ 10), (1, u "java/lang/Object"), (85, u "clone"), (0, u "()Ljava/lang/Object;")] 26

def k0c0 : Code := { maxStack := 0, maxLocals := 1, code := object_method_1_code, exceptionTable := #[], attributes := #[] }
def k0m0 : Method := { name := "<init>", desc := "()V", sig := { parameters := [], returnType := none }, accessFlags := 1, code := some k0c0 }
def k0m1 : Method := { name := "clone", desc := "()Ljava/lang/Object;", sig := { parameters := [], returnType := some (.object "java/lang/Object") }, accessFlags := 260, code := none }
/-- java/lang/Object -/
def k0 : Class := { plain "java/lang/Object" none with
  accessFlags := 33
  interfaces := #[]
  cf := some (fileOf pool0 8 #[] #[{ accessFlags := 1, nameIndex := 5, descriptorIndex := 6, attributes := #[] }, { accessFlags := 260, nameIndex := 96, descriptorIndex := 97, attributes := #[] }] 33 0 #[] #[])
  fields := #[]
  methods := #[k0m0, k0m1]
  instanceTypes := #[]
  staticTypes := #[]
  resolved := Array.replicate 124 none
  statics := none }

def pool1 : Array CpInfo := pool [(2, .class_ 4), (1, u "java/lang/Object"), (0, u "<init>"), (0, u "()V"), (0, .class_ 8), (0, u "com/example/nestor/nestor/engine/Relation"), (0, .methodref 7 10), (0, .nameAndType 5 11), (0, u "(I)V"), (0, .methodref 7 13), (0, .nameAndType 14 15), (0, u "add"), (0, u "([I)Z"), (0, .methodref 7 17), (0, .nameAndType 18 19), (0, u "size"), (0, u "()I"), (0, .methodref 7 21), (0, .nameAndType 22 23), (0, u "advance"), (0, u "()Z"), (0, .methodref 7 25), (0, .nameAndType 26 19), (0, u "deltaStart"), (0, .methodref 7 28), (0, .nameAndType 29 19), (0, u "deltaEnd"), (0, .class_ 31), (0, u "com/example/nestor/nestor/engine/RelationAdvancePinLaw"), (2, u "law"), (0, u "(IIII)Z")] 5

def k1m0 : Method := { name := "<init>", desc := "()V", sig := { parameters := [], returnType := none }, accessFlags := 1, code := none }
def k1c1 : Code := { maxStack := 4, maxLocals := 14, code := code, exceptionTable := #[], attributes := #[] }
def k1m1 : Method := { name := "law", desc := "(IIII)Z", sig := { parameters := [.int, .int, .int, .int], returnType := some .boolean }, accessFlags := 9, code := some k1c1 }
/-- com/example/nestor/nestor/engine/RelationAdvancePinLaw -/
def k1 : Class := { plain "com/example/nestor/nestor/engine/RelationAdvancePinLaw" (some 0) with
  accessFlags := 49
  interfaces := #[]
  cf := some (fileOf pool1 30 #[] #[{ accessFlags := 1, nameIndex := 5, descriptorIndex := 6, attributes := #[] }, { accessFlags := 9, nameIndex := 34, descriptorIndex := 35, attributes := #[] }] 49 2 #[] #[])
  fields := #[]
  methods := #[k1m0, k1m1]
  instanceTypes := #[]
  staticTypes := #[]
  resolved := Array.replicate 41 none
  statics := none }

def pool2 : Array CpInfo := pool [(1, .methodref 2 3), (0, .class_ 4), (0, .nameAndType 5 6), (0, u "java/lang/Object"), (0, u "<init>"), (0, u "()V"), (0, .class_ 8), (0, u "java/util/ArrayList"), (0, .methodref 7 3), (0, .fieldref 11 12), (0, .class_ 13), (0, .nameAndType 14 15), (0, u "com/example/nestor/nestor/engine/Relation"), (0, u "indexes"), (0, u "Ljava/util/List;"), (0, .fieldref 11 17), (0, .nameAndType 18 19), (0, u "arity"), (0, u "I"), (0, .fieldref 11 21), (0, .nameAndType 22 23), (0, u "cells"), (0, u "[I"), (0, .methodref 11 25), (0, .nameAndType 26 27), (0, u "byEveryColumn"), (0, u "()Lcom/example/nestor/nestor/engine/Index;"), (0, .fieldref 11 29), (0, .nameAndType 30 31), (0, u "unique"), (0, u "Lcom/example/nestor/nestor/engine/Index;"), (0, .interfaceMethodref 33 34), (0, .class_ 35), (0, .nameAndType 36 37), (0, u "java/util/List"), (0, u "add"), (0, u "(Ljava/lang/Object;)Z"), (0, .fieldref 11 39), (0, .nameAndType 40 19), (0, u "size"), (0, .fieldref 11 42), (0, .nameAndType 43 44), (0, u "source"), (0, u "Lcom/example/nestor/nestor/engine/Relation;"), (0, .methodref 11 46), (0, .nameAndType 47 48), (0, u "contains"), (0, u "([I)Z"), (4, .class_ 55), (1, u "java/util/Arrays"), (2, .methodref 59 60), (0, .class_ 61), (0, .nameAndType 62 63), (0, u "java/lang/System"), (0, u "arraycopy"), (0, u "(Ljava/lang/Object;ILjava/lang/Object;II)V"), (0, .interfaceMethodref 33 65), (0, .nameAndType 66 67), (0, u "iterator"), (0, u "()Ljava/util/Iterator;"), (0, .interfaceMethodref 69 70), (0, .class_ 71), (0, .nameAndType 72 73), (0, u "java/util/Iterator"), (0, u "hasNext"), (0, u "()Z"), (0, .interfaceMethodref 69 75), (0, .nameAndType 76 77), (0, u "next"), (0, u "()Ljava/lang/Object;"), (0, .class_ 79), (0, u "com/example/nestor/nestor/engine/Index"), (0, .methodref 78 81), (0, .nameAndType 36 82), (0, u "(I)V"), (8, u "(II)I"), (0, .fieldref 11 93), (0, .nameAndType 94 19), (0, u "deltaStart"), (0, .fieldref 11 96), (0, .nameAndType 97 19), (0, u "deltaEnd"), (0, .invokeDynamic 0 99), (0, .nameAndType 100 101), (0, u "applyAsInt"), (0, u "()Ljava/util/function/IntUnaryOperator;"), (0, .methodref 53 103), (0, .nameAndType 104 105), (0, u "setAll"), (0, u "([ILjava/util/function/IntUnaryOperator;)V"), (0, .methodref 78 107), (0, .nameAndType 5 108), (0, u "(Lcom/example/nestor/nestor/engine/Relation;[I)V"), (16, .methodref 11 126), (0, .nameAndType 127 128), (0, u "find"), (0, u "([I)I"), (0, .methodref 78 130), (0, .nameAndType 131 128), (0, u "first"), (18, u "()I"), (0, u "value"), (3, u "advance"), (2, u "lambda$byEveryColumn$0"), (0, u "(I)I"), (3, .methodType 159), (0, .methodHandle 6 165), (0, .methodref 11 166), (0, .nameAndType 158 159), (6, .methodHandle 6 174), (0, .methodref 175 176), (0, .class_ 177), (0, .nameAndType 178 179), (0, u "java/lang/invoke/LambdaMetafactory"), (0, u "metafactory"), (0, u "(Ljava/lang/invoke/MethodHandles$Lookup;Ljava/lang/String;Ljava/lang/invoke/MethodType;Ljava/lang/invoke/MethodType;Ljava/lang/invoke/MethodHandle;Ljava/lang/invoke/MethodType;)Ljava/lang/invoke/CallSite;")] 6

def k2c0 : Code := { maxStack := 3, maxLocals := 2, code := prog_26_method_1_code, exceptionTable := #[], attributes := #[] }
def k2m0 : Method := { name := "<init>", desc := "(I)V", sig := { parameters := [.int], returnType := none }, accessFlags := 0, code := some k2c0 }
def k2c1 : Code := { maxStack := 1, maxLocals := 1, code := prog_26_method_4_code, exceptionTable := #[], attributes := #[] }
def k2m1 : Method := { name := "size", desc := "()I", sig := { parameters := [], returnType := some .int }, accessFlags := 0, code := some k2c1 }
def k2c2 : Code := { maxStack := 3, maxLocals := 3, code := prog_26_method_5_code, exceptionTable := #[], attributes := #[] }
def k2m2 : Method := { name := "value", desc := "(II)I", sig := { parameters := [.int, .int], returnType := some .int }, accessFlags := 0, code := some k2c2 }
def k2c3 : Code := { maxStack := 5, maxLocals := 5, code := prog_26_method_6_code, exceptionTable := #[], attributes := #[] }
def k2m3 : Method := { name := "add", desc := "([I)Z", sig := { parameters := [(.array .int)], returnType := some .boolean }, accessFlags := 0, code := some k2c3 }
def k2c4 : Code := { maxStack := 4, maxLocals := 2, code := prog_26_method_8_code, exceptionTable := #[], attributes := #[] }
def k2m4 : Method := { name := "byEveryColumn", desc := "()Lcom/example/nestor/nestor/engine/Index;", sig := { parameters := [], returnType := some (.object "com/example/nestor/nestor/engine/Index") }, accessFlags := 2, code := some k2c4 }
def k2c5 : Code := { maxStack := 2, maxLocals := 2, code := prog_26_method_10_code, exceptionTable := #[], attributes := #[] }
def k2m5 : Method := { name := "contains", desc := "([I)Z", sig := { parameters := [(.array .int)], returnType := some .boolean }, accessFlags := 0, code := some k2c5 }
def k2c6 : Code := { maxStack := 2, maxLocals := 2, code := prog_26_method_11_code, exceptionTable := #[], attributes := #[] }
def k2m6 : Method := { name := "find", desc := "([I)I", sig := { parameters := [(.array .int)], returnType := some .int }, accessFlags := 0, code := some k2c6 }
def k2c7 : Code := { maxStack := 1, maxLocals := 1, code := prog_26_method_14_code, exceptionTable := #[], attributes := #[] }
def k2m7 : Method := { name := "deltaStart", desc := "()I", sig := { parameters := [], returnType := some .int }, accessFlags := 0, code := some k2c7 }
def k2c8 : Code := { maxStack := 1, maxLocals := 1, code := prog_26_method_15_code, exceptionTable := #[], attributes := #[] }
def k2m8 : Method := { name := "deltaEnd", desc := "()I", sig := { parameters := [], returnType := some .int }, accessFlags := 0, code := some k2c8 }
def k2c9 : Code := { maxStack := 2, maxLocals := 1, code := prog_26_method_17_code, exceptionTable := #[], attributes := #[] }
def k2m9 : Method := { name := "advance", desc := "()Z", sig := { parameters := [], returnType := some .boolean }, accessFlags := 0, code := some k2c9 }
def k2c10 : Code := { maxStack := 1, maxLocals := 1, code := prog_26_method_19_code, exceptionTable := #[], attributes := #[] }
def k2m10 : Method := { name := "lambda$byEveryColumn$0", desc := "(I)I", sig := { parameters := [.int], returnType := some .int }, accessFlags := 4106, code := some k2c10 }
/-- com/example/nestor/nestor/engine/Relation -/
def k2 : Class := { plain "com/example/nestor/nestor/engine/Relation" (some 0) with
  accessFlags := 32
  interfaces := #[]
  cf := some (fileOf pool2 11 #[.bootstrapMethods #[⟨173, #[163, 164, 163]⟩, ⟨0, #[]⟩]] #[{ accessFlags := 0, nameIndex := 5, descriptorIndex := 82, attributes := #[] }, { accessFlags := 0, nameIndex := 40, descriptorIndex := 150, attributes := #[] }, { accessFlags := 0, nameIndex := 151, descriptorIndex := 91, attributes := #[] }, { accessFlags := 0, nameIndex := 36, descriptorIndex := 48, attributes := #[] }, { accessFlags := 2, nameIndex := 26, descriptorIndex := 27, attributes := #[] }, { accessFlags := 0, nameIndex := 47, descriptorIndex := 48, attributes := #[] }, { accessFlags := 0, nameIndex := 127, descriptorIndex := 128, attributes := #[] }, { accessFlags := 0, nameIndex := 94, descriptorIndex := 150, attributes := #[] }, { accessFlags := 0, nameIndex := 97, descriptorIndex := 150, attributes := #[] }, { accessFlags := 0, nameIndex := 155, descriptorIndex := 73, attributes := #[] }, { accessFlags := 4106, nameIndex := 158, descriptorIndex := 159, attributes := #[] }] 32 2 #[] #[{ accessFlags := 18, nameIndex := 18, descriptorIndex := 19, attributes := #[] }, { accessFlags := 2, nameIndex := 22, descriptorIndex := 23, attributes := #[] }, { accessFlags := 2, nameIndex := 40, descriptorIndex := 19, attributes := #[] }, { accessFlags := 2, nameIndex := 94, descriptorIndex := 19, attributes := #[] }, { accessFlags := 2, nameIndex := 97, descriptorIndex := 19, attributes := #[] }, { accessFlags := 2, nameIndex := 30, descriptorIndex := 31, attributes := #[] }, { accessFlags := 18, nameIndex := 14, descriptorIndex := 15, attributes := #[] }, { accessFlags := 2, nameIndex := 43, descriptorIndex := 44, attributes := #[] }])
  fields := #[{ name := "arity", type := .int, accessFlags := 18, slot := 0, constantValue := 0 }, { name := "cells", type := (.array .int), accessFlags := 2, slot := 1, constantValue := 0 }, { name := "size", type := .int, accessFlags := 2, slot := 2, constantValue := 0 }, { name := "deltaStart", type := .int, accessFlags := 2, slot := 3, constantValue := 0 }, { name := "deltaEnd", type := .int, accessFlags := 2, slot := 4, constantValue := 0 }, { name := "unique", type := (.object "com/example/nestor/nestor/engine/Index"), accessFlags := 2, slot := 5, constantValue := 0 }, { name := "indexes", type := (.object "java/util/List"), accessFlags := 18, slot := 6, constantValue := 0 }, { name := "source", type := (.object "com/example/nestor/nestor/engine/Relation"), accessFlags := 2, slot := 7, constantValue := 0 }]
  methods := #[k2m0, k2m1, k2m2, k2m3, k2m4, k2m5, k2m6, k2m7, k2m8, k2m9, k2m10]
  instanceTypes := #[.int, (.array .int), .int, .int, .int, (.object "com/example/nestor/nestor/engine/Index"), (.object "java/util/List"), (.object "com/example/nestor/nestor/engine/Relation")]
  staticTypes := #[]
  resolved := Array.replicate 186 none
  callSites := [(4, 8, .constant 1)]
  statics := none }

def pool3 : Array CpInfo := pool [(8, .class_ 10), (1, u "java/lang/Iterable"), (24, .class_ 36), (0, u "java/lang/Object")] 25

/-- java/lang/Iterable -/
def k3 : Class := { plain "java/lang/Iterable" (some 0) with
  accessFlags := 1537
  interfaces := #[]
  cf := some (fileOf pool3 8 #[] #[] 1537 35 #[] #[])
  fields := #[]
  methods := #[]
  instanceTypes := #[]
  staticTypes := #[]
  resolved := Array.replicate 62 none
  statics := none }

def pool4 : Array CpInfo := pool [(10, .class_ 12), (1, u "java/util/Collection"), (47, .class_ 61), (0, u "java/lang/Object"), (0, .class_ 63), (0, u "java/lang/Iterable")] 51

/-- java/util/Collection -/
def k4 : Class := { plain "java/util/Collection" (some 0) with
  accessFlags := 1537
  interfaces := #[3]
  cf := some (fileOf pool4 10 #[] #[] 1537 60 #[62] #[])
  fields := #[]
  methods := #[]
  instanceTypes := #[]
  staticTypes := #[]
  resolved := Array.replicate 115 none
  statics := none }

def pool5 : Array CpInfo := pool [(1, .methodref 2 3), (0, .class_ 4), (0, .nameAndType 5 6), (0, u "java/lang/Object"), (0, u "<init>"), (0, u "()V"), (1, .class_ 10), (1, u "java/util/AbstractCollection"), (66, .class_ 78), (0, u "java/util/Collection")] 81

def k5c0 : Code := { maxStack := 1, maxLocals := 1, code := jdk_22_method_1_code, exceptionTable := #[], attributes := #[] }
def k5m0 : Method := { name := "<init>", desc := "()V", sig := { parameters := [], returnType := none }, accessFlags := 4, code := some k5c0 }
/-- java/util/AbstractCollection -/
def k5 : Class := { plain "java/util/AbstractCollection" (some 0) with
  accessFlags := 1057
  interfaces := #[4]
  cf := some (fileOf pool5 8 #[] #[{ accessFlags := 4, nameIndex := 5, descriptorIndex := 6, attributes := #[] }] 1057 2 #[77] #[])
  fields := #[]
  methods := #[k5m0]
  instanceTypes := #[]
  staticTypes := #[]
  resolved := Array.replicate 160 none
  statics := none }

def pool6 : Array CpInfo := pool [(8, .class_ 10), (1, u "java/util/SequencedCollection"), (15, .class_ 27), (0, u "java/lang/Object"), (0, .class_ 29), (0, u "java/util/Collection")] 27

/-- java/util/SequencedCollection -/
def k6 : Class := { plain "java/util/SequencedCollection" (some 0) with
  accessFlags := 1537
  interfaces := #[4]
  cf := some (fileOf pool6 8 #[] #[] 1537 26 #[28] #[])
  fields := #[]
  methods := #[]
  instanceTypes := #[]
  staticTypes := #[]
  resolved := Array.replicate 57 none
  statics := none }

def pool7 : Array CpInfo := pool [(8, .class_ 10), (1, u "java/util/List"), (49, u "add"), (3, u "(Ljava/lang/Object;)Z"), (38, .class_ 104), (0, u "java/lang/Object"), (15, .class_ 121), (0, u "java/util/SequencedCollection"), (1, u "iterator"), (0, u "()Ljava/util/Iterator;")] 126

def k7m0 : Method := { name := "iterator", desc := "()Ljava/util/Iterator;", sig := { parameters := [], returnType := some (.object "java/util/Iterator") }, accessFlags := 1025, code := none }
def k7m1 : Method := { name := "add", desc := "(Ljava/lang/Object;)Z", sig := { parameters := [(.object "java/lang/Object")], returnType := some .boolean }, accessFlags := 1025, code := none }
/-- java/util/List -/
def k7 : Class := { plain "java/util/List" (some 0) with
  accessFlags := 1537
  interfaces := #[6]
  cf := some (fileOf pool7 8 #[] #[{ accessFlags := 1025, nameIndex := 123, descriptorIndex := 124, attributes := #[] }, { accessFlags := 1025, nameIndex := 60, descriptorIndex := 64, attributes := #[] }] 1537 103 #[120] #[])
  fields := #[]
  methods := #[k7m0, k7m1]
  instanceTypes := #[]
  staticTypes := #[]
  resolved := Array.replicate 251 none
  statics := none }

def pool8 : Array CpInfo := pool [(1, .methodref 2 3), (0, .class_ 4), (0, .nameAndType 5 6), (0, u "java/util/AbstractCollection"), (0, u "<init>"), (0, u "()V"), (0, .fieldref 8 9), (0, .class_ 10), (0, .nameAndType 11 12), (0, u "java/util/AbstractList"), (0, u "modCount"), (0, u "I"), (64, .class_ 78), (0, u "java/util/AbstractList$Itr"), (3, .class_ 83), (0, u "java/util/AbstractList$ListItr"), (9, .class_ 94), (0, u "java/util/AbstractList$RandomAccessSubList"), (3, .class_ 99), (0, u "java/util/AbstractList$SubList"), (33, .class_ 134), (0, u "java/util/List"), (73, .class_ 209), (0, u "java/util/AbstractList$SubList$1"), (0, .class_ 211), (0, u "java/util/AbstractList$RandomAccessSpliterator")] 6

def k8c0 : Code := { maxStack := 2, maxLocals := 1, code := jdk_39_method_1_code, exceptionTable := #[], attributes := #[] }
def k8m0 : Method := { name := "<init>", desc := "()V", sig := { parameters := [], returnType := none }, accessFlags := 4, code := some k8c0 }
/-- java/util/AbstractList -/
def k8 : Class := { plain "java/util/AbstractList" (some 5) with
  accessFlags := 1057
  interfaces := #[7]
  cf := some (fileOf pool8 8 #[.nestMembers #[93, 98, 208, 210, 82, 77]] #[{ accessFlags := 4, nameIndex := 5, descriptorIndex := 6, attributes := #[] }] 1057 2 #[133] #[{ accessFlags := 132, nameIndex := 11, descriptorIndex := 12, attributes := #[] }])
  fields := #[{ name := "modCount", type := .int, accessFlags := 132, slot := 0, constantValue := 0 }]
  methods := #[k8m0]
  instanceTypes := #[.int]
  staticTypes := #[]
  resolved := Array.replicate 218 none
  statics := none }

def pool9 : Array CpInfo := pool [(1, .class_ 2), (0, u "java/util/RandomAccess"), (0, .class_ 4), (0, u "java/lang/Object")] 2

/-- java/util/RandomAccess -/
def k9 : Class := { plain "java/util/RandomAccess" (some 0) with
  accessFlags := 1537
  interfaces := #[]
  cf := some (fileOf pool9 1 #[] #[] 1537 3 #[] #[])
  fields := #[]
  methods := #[]
  instanceTypes := #[]
  staticTypes := #[]
  resolved := Array.replicate 7 none
  statics := none }

def pool10 : Array CpInfo := pool [(1, .class_ 2), (0, u "java/lang/Cloneable"), (0, .class_ 4), (0, u "java/lang/Object")] 2

/-- java/lang/Cloneable -/
def k10 : Class := { plain "java/lang/Cloneable" (some 0) with
  accessFlags := 1537
  interfaces := #[]
  cf := some (fileOf pool10 1 #[] #[] 1537 3 #[] #[])
  fields := #[]
  methods := #[]
  instanceTypes := #[]
  staticTypes := #[]
  resolved := Array.replicate 7 none
  statics := none }

def pool11 : Array CpInfo := pool [(1, .class_ 2), (0, u "java/io/Serializable"), (0, .class_ 4), (0, u "java/lang/Object")] 2

/-- java/io/Serializable -/
def k11 : Class := { plain "java/io/Serializable" (some 0) with
  accessFlags := 1537
  interfaces := #[]
  cf := some (fileOf pool11 1 #[] #[] 1537 3 #[] #[])
  fields := #[]
  methods := #[]
  instanceTypes := #[]
  staticTypes := #[]
  resolved := Array.replicate 7 none
  statics := none }

def pool12 : Array CpInfo := pool [(1, .methodref 2 3), (0, .class_ 4), (0, .nameAndType 5 6), (0, u "java/util/AbstractList"), (0, u "<init>"), (0, u "()V"), (0, .class_ 8), (0, u "java/lang/Object"), (0, .fieldref 10 11), (0, .class_ 12), (0, .nameAndType 13 14), (0, u "java/util/ArrayList"), (0, u "elementData"), (0, u "[Ljava/lang/Object;"), (2, u "EMPTY_ELEMENTDATA"), (21, .fieldref 10 40), (0, .nameAndType 41 14), (0, u "DEFAULTCAPACITY_EMPTY_ELEMENTDATA"), (5, u "()[Ljava/lang/Object;"), (0, .fieldref 10 49), (0, .nameAndType 50 51), (0, u "size"), (0, u "I"), (11, .fieldref 10 64), (0, .nameAndType 65 51), (0, u "modCount"), (3, .methodref 10 70), (0, .nameAndType 71 72), (0, u "grow"), (0, u "(I)[Ljava/lang/Object;"), (6, .methodref 80 81), (0, .class_ 82), (0, .nameAndType 83 84), (0, u "java/lang/Math"), (0, u "max"), (0, u "(II)I"), (11, u "(Ljava/lang/Object;)Z"), (32, .methodref 10 130), (0, .nameAndType 71 47), (0, .methodref 10 132), (0, .nameAndType 133 134), (0, u "add"), (0, u "(Ljava/lang/Object;[Ljava/lang/Object;I)V"), (13, .class_ 149), (0, u "java/util/List"), (16, u "iterator"), (0, u "()Ljava/util/Iterator;"), (94, .class_ 263), (0, u "java/util/ArrayList$ListItr"), (3, .class_ 268), (0, u "java/util/ArrayList$Itr"), (0, .methodref 267 270), (0, .nameAndType 5 271), (0, u "(Ljava/util/ArrayList;)V"), (4, .class_ 277), (0, u "java/util/ArrayList$SubList"), (12, .class_ 291), (0, u "java/util/ArrayList$ArrayListSpliterator"), (37, .class_ 330), (0, u "java/util/RandomAccess"), (0, .class_ 332), (0, u "java/lang/Cloneable"), (0, .class_ 334), (0, u "java/io/Serializable"), (0, u "serialVersionUID"), (0, u "J"), (3, u "DEFAULT_CAPACITY"), (159, .class_ 501), (0, u "java/util/ArrayList$SubList$2"), (0, .class_ 503), (0, u "java/util/ArrayList$SubList$1")] 5

def k12c0 : Code := { maxStack := 2, maxLocals := 1, code := jdk_38_method_2_code, exceptionTable := #[], attributes := #[] }
def k12m0 : Method := { name := "<init>", desc := "()V", sig := { parameters := [], returnType := none }, accessFlags := 1, code := some k12c0 }
def k12c1 : Code := { maxStack := 4, maxLocals := 4, code := jdk_38_method_6_code, exceptionTable := #[], attributes := #[] }
def k12m1 : Method := { name := "grow", desc := "(I)[Ljava/lang/Object;", sig := { parameters := [.int], returnType := some (.array (.object "java/lang/Object")) }, accessFlags := 2, code := some k12c1 }
def k12c2 : Code := { maxStack := 3, maxLocals := 1, code := jdk_38_method_7_code, exceptionTable := #[], attributes := #[] }
def k12m2 : Method := { name := "grow", desc := "()[Ljava/lang/Object;", sig := { parameters := [], returnType := some (.array (.object "java/lang/Object")) }, accessFlags := 2, code := some k12c2 }
def k12c3 : Code := { maxStack := 3, maxLocals := 4, code := jdk_38_method_24_code, exceptionTable := #[], attributes := #[] }
def k12m3 : Method := { name := "add", desc := "(Ljava/lang/Object;[Ljava/lang/Object;I)V", sig := { parameters := [(.object "java/lang/Object"), (.array (.object "java/lang/Object")), .int], returnType := none }, accessFlags := 2, code := some k12c3 }
def k12c4 : Code := { maxStack := 4, maxLocals := 2, code := jdk_38_method_25_code, exceptionTable := #[], attributes := #[] }
def k12m4 : Method := { name := "add", desc := "(Ljava/lang/Object;)Z", sig := { parameters := [(.object "java/lang/Object")], returnType := some .boolean }, accessFlags := 1, code := some k12c4 }
def k12c5 : Code := { maxStack := 3, maxLocals := 1, code := jdk_38_method_55_code, exceptionTable := #[], attributes := #[] }
def k12m5 : Method := { name := "iterator", desc := "()Ljava/util/Iterator;", sig := { parameters := [], returnType := some (.object "java/util/Iterator") }, accessFlags := 1, code := some k12c5 }
/-- java/util/ArrayList -/
def k12 : Class := { plain "java/util/ArrayList" (some 8) with
  accessFlags := 33
  interfaces := #[7, 9, 10, 11]
  cf := some (fileOf pool12 10 #[.nestMembers #[290, 276, 500, 502, 262, 267]] #[{ accessFlags := 1, nameIndex := 5, descriptorIndex := 6, attributes := #[] }, { accessFlags := 2, nameIndex := 71, descriptorIndex := 72, attributes := #[] }, { accessFlags := 2, nameIndex := 71, descriptorIndex := 47, attributes := #[] }, { accessFlags := 2, nameIndex := 133, descriptorIndex := 134, attributes := #[] }, { accessFlags := 1, nameIndex := 133, descriptorIndex := 96, attributes := #[] }, { accessFlags := 1, nameIndex := 166, descriptorIndex := 167, attributes := #[] }] 33 2 #[148, 329, 331, 333] #[{ accessFlags := 26, nameIndex := 335, descriptorIndex := 336, attributes := #[] }, { accessFlags := 26, nameIndex := 340, descriptorIndex := 51, attributes := #[] }, { accessFlags := 26, nameIndex := 17, descriptorIndex := 14, attributes := #[] }, { accessFlags := 26, nameIndex := 41, descriptorIndex := 14, attributes := #[] }, { accessFlags := 128, nameIndex := 13, descriptorIndex := 14, attributes := #[] }, { accessFlags := 2, nameIndex := 50, descriptorIndex := 51, attributes := #[] }])
  fields := #[{ name := "serialVersionUID", type := .long, accessFlags := 26, slot := 0, constantValue := 0 }, { name := "DEFAULT_CAPACITY", type := .int, accessFlags := 26, slot := 1, constantValue := 0 }, { name := "EMPTY_ELEMENTDATA", type := (.array (.object "java/lang/Object")), accessFlags := 26, slot := 2, constantValue := 0 }, { name := "DEFAULTCAPACITY_EMPTY_ELEMENTDATA", type := (.array (.object "java/lang/Object")), accessFlags := 26, slot := 3, constantValue := 0 }, { name := "elementData", type := (.array (.object "java/lang/Object")), accessFlags := 128, slot := 1, constantValue := 0 }, { name := "size", type := .int, accessFlags := 2, slot := 2, constantValue := 0 }]
  methods := #[k12m0, k12m1, k12m2, k12m3, k12m4, k12m5]
  instanceTypes := #[.int, (.array (.object "java/lang/Object")), .int]
  staticTypes := #[.long, .int, (.array (.object "java/lang/Object")), (.array (.object "java/lang/Object"))]
  resolved := Array.replicate 509 none
  statics := some 0 }

def pool13 : Array CpInfo := pool [(9, u "applyAsInt"), (6, .class_ 18), (1, u "java/util/function/IntUnaryOperator"), (0, u "(I)I"), (0, .class_ 21), (0, u "java/lang/Object")] 46

def k13m0 : Method := { name := "applyAsInt", desc := "(I)I", sig := { parameters := [.int], returnType := some .int }, accessFlags := 1025, code := none }
/-- java/util/function/IntUnaryOperator -/
def k13 : Class := { plain "java/util/function/IntUnaryOperator" (some 0) with
  accessFlags := 1537
  interfaces := #[]
  cf := some (fileOf pool13 16 #[] #[{ accessFlags := 1025, nameIndex := 9, descriptorIndex := 19, attributes := #[] }] 1537 20 #[] #[])
  fields := #[]
  methods := #[k13m0]
  instanceTypes := #[]
  staticTypes := #[]
  resolved := Array.replicate 68 none
  statics := none }

def pool14 : Array CpInfo := pool [(2, .class_ 4), (1, u "java/lang/Object"), (0, u "<init>"), (0, u "()V"), (7, .class_ 16), (1, u "java/util/Arrays"), (57, .class_ 76), (1, u "java/util/Arrays$NaturalOrder"), (36, .class_ 115), (1, u "java/util/Arrays$LegacyMergeSort"), (1, u "Z"), (57, .methodref 176 177), (0, .class_ 178), (0, .nameAndType 179 180), (0, u "java/util/Objects"), (0, u "requireNonNull"), (0, u "(Ljava/lang/Object;)Ljava/lang/Object;"), (194, .class_ 376), (0, u "java/util/Arrays$ArrayList"), (68, u "$assertionsDisabled"), (136, .interfaceMethodref 583 584), (0, .class_ 585), (0, .nameAndType 586 587), (0, u "java/util/function/IntUnaryOperator"), (0, u "applyAsInt"), (0, u "(I)I"), (127, u "MIN_ARRAY_SORT_GRAN"), (0, u "I"), (2, u "INSERTIONSORT_THRESHOLD"), (187, u "setAll"), (6, u "([ILjava/util/function/IntUnaryOperator;)V"), (60, .class_ 976), (0, u "java/util/Arrays$ArrayItr")] 52

def k14m0 : Method := { name := "<init>", desc := "()V", sig := { parameters := [], returnType := none }, accessFlags := 2, code := none }
def k14c1 : Code := { maxStack := 4, maxLocals := 3, code := jdk_65_method_175_code, exceptionTable := #[], attributes := #[] }
def k14m1 : Method := { name := "setAll", desc := "([ILjava/util/function/IntUnaryOperator;)V", sig := { parameters := [(.array .int), (.object "java/util/function/IntUnaryOperator")], returnType := none }, accessFlags := 9, code := some k14c1 }
/-- java/util/Arrays -/
def k14 : Class := { plain "java/util/Arrays" (some 0) with
  accessFlags := 49
  interfaces := #[]
  cf := some (fileOf pool14 14 #[.nestMembers #[975, 375, 113, 74]] #[{ accessFlags := 2, nameIndex := 5, descriptorIndex := 6, attributes := #[] }, { accessFlags := 9, nameIndex := 907, descriptorIndex := 914, attributes := #[] }] 49 2 #[] #[{ accessFlags := 26, nameIndex := 715, descriptorIndex := 716, attributes := #[] }, { accessFlags := 26, nameIndex := 719, descriptorIndex := 716, attributes := #[] }, { accessFlags := 4120, nameIndex := 445, descriptorIndex := 117, attributes := #[] }])
  fields := #[{ name := "MIN_ARRAY_SORT_GRAN", type := .int, accessFlags := 26, slot := 0, constantValue := 0 }, { name := "INSERTIONSORT_THRESHOLD", type := .int, accessFlags := 26, slot := 1, constantValue := 0 }, { name := "$assertionsDisabled", type := .boolean, accessFlags := 4120, slot := 2, constantValue := 0 }]
  methods := #[k14m0, k14m1]
  instanceTypes := #[]
  staticTypes := #[.int, .int, .boolean]
  resolved := Array.replicate 1029 none
  statics := none }

def pool15 : Array CpInfo := pool [(2, .class_ 4), (1, u "java/lang/Object"), (0, u "<init>"), (0, u "()V"), (35, .class_ 44), (1, u "java/util/Objects"), (0, u "requireNonNull"), (0, u "(Ljava/lang/Object;)Ljava/lang/Object;")] 137

def k15m0 : Method := { name := "<init>", desc := "()V", sig := { parameters := [], returnType := none }, accessFlags := 2, code := none }
def k15c1 : Code := { maxStack := 2, maxLocals := 1, code := jdk_31_method_10_code, exceptionTable := #[], attributes := #[] }
def k15m1 : Method := { name := "requireNonNull", desc := "(Ljava/lang/Object;)Ljava/lang/Object;", sig := { parameters := [(.object "java/lang/Object")], returnType := some (.object "java/lang/Object") }, accessFlags := 9, code := some k15c1 }
/-- java/util/Objects -/
def k15 : Class := { plain "java/util/Objects" (some 0) with
  accessFlags := 49
  interfaces := #[]
  cf := some (fileOf pool15 42 #[] #[{ accessFlags := 2, nameIndex := 5, descriptorIndex := 6, attributes := #[] }, { accessFlags := 9, nameIndex := 45, descriptorIndex := 46, attributes := #[] }] 49 2 #[] #[])
  fields := #[]
  methods := #[k15m0, k15m1]
  instanceTypes := #[]
  staticTypes := #[]
  resolved := Array.replicate 184 none
  statics := none }

def pool16 : Array CpInfo := pool [(1, .methodref 2 3), (0, .class_ 4), (0, .nameAndType 5 6), (0, u "java/lang/Object"), (0, u "<init>"), (0, u "()V"), (0, .fieldref 8 9), (0, .class_ 10), (0, .nameAndType 11 12), (0, u "com/example/nestor/nestor/engine/Index"), (0, u "slots"), (0, u "[I"), (0, .fieldref 8 14), (0, .nameAndType 15 12), (0, u "firsts"), (0, .fieldref 8 17), (0, .nameAndType 18 12), (0, u "lasts"), (0, .fieldref 8 20), (0, .nameAndType 21 12), (0, u "nexts"), (0, .fieldref 8 23), (0, .nameAndType 24 25), (0, u "relation"), (0, u "Lcom/example/nestor/nestor/engine/Relation;"), (0, .methodref 27 28), (0, .class_ 12), (0, .nameAndType 29 30), (0, u "clone"), (0, u "()Ljava/lang/Object;"), (0, .fieldref 8 32), (0, .nameAndType 33 12), (0, u "columns"), (0, .fieldref 8 35), (0, .nameAndType 36 12), (0, u "scratch"), (0, .methodref 38 39), (0, .class_ 40), (0, .nameAndType 41 42), (0, u "com/example/nestor/nestor/engine/Relation"), (0, u "size"), (0, u "()I"), (0, .methodref 8 44), (0, .nameAndType 45 46), (0, u "add"), (0, u "(I)V"), (0, .fieldref 8 48), (0, .nameAndType 49 50), (0, u "groups"), (0, u "I"), (6, .methodref 8 58), (0, .nameAndType 59 60), (0, u "probe"), (0, u "([I)I"), (0, .methodref 8 62), (0, .nameAndType 63 64), (0, u "keyOf"), (0, u "(I[I)V"), (0, .methodref 66 67), (0, .class_ 68), (0, .nameAndType 69 70), (0, u "java/lang/Math"), (0, u "max"), (0, u "(II)I"), (7, .methodref 8 79), (0, .nameAndType 80 60), (0, u "hash"), (0, .methodref 8 82), (0, .nameAndType 83 84), (0, u "holds"), (0, u "(I[I)Z"), (0, .methodref 38 86), (0, .nameAndType 87 70), (0, u "value"), (0, .integer 2654435769), (0, u "NONE"), (2, u "(Lcom/example/nestor/nestor/engine/Relation;[I)V"), (6, u "first")] 4

def k16c0 : Code := { maxStack := 2, maxLocals := 4, code := prog_21_method_1_code, exceptionTable := #[], attributes := #[] }
def k16m0 : Method := { name := "<init>", desc := "(Lcom/example/nestor/nestor/engine/Relation;[I)V", sig := { parameters := [(.object "com/example/nestor/nestor/engine/Relation"), (.array .int)], returnType := none }, accessFlags := 0, code := some k16c0 }
def k16c1 : Code := { maxStack := 3, maxLocals := 3, code := prog_21_method_5_code, exceptionTable := #[], attributes := #[] }
def k16m1 : Method := { name := "first", desc := "([I)I", sig := { parameters := [(.array .int)], returnType := some .int }, accessFlags := 0, code := some k16c1 }
def k16c2 : Code := { maxStack := 5, maxLocals := 4, code := prog_21_method_7_code, exceptionTable := #[], attributes := #[] }
def k16m2 : Method := { name := "add", desc := "(I)V", sig := { parameters := [.int], returnType := none }, accessFlags := 0, code := some k16c2 }
def k16c3 : Code := { maxStack := 4, maxLocals := 4, code := prog_21_method_8_code, exceptionTable := #[], attributes := #[] }
def k16m3 : Method := { name := "probe", desc := "([I)I", sig := { parameters := [(.array .int)], returnType := some .int }, accessFlags := 2, code := some k16c3 }
def k16c4 : Code := { maxStack := 6, maxLocals := 4, code := prog_21_method_9_code, exceptionTable := #[], attributes := #[] }
def k16m4 : Method := { name := "keyOf", desc := "(I[I)V", sig := { parameters := [.int, (.array .int)], returnType := none }, accessFlags := 2, code := some k16c4 }
def k16c5 : Code := { maxStack := 4, maxLocals := 4, code := prog_21_method_10_code, exceptionTable := #[], attributes := #[] }
def k16m5 : Method := { name := "holds", desc := "(I[I)Z", sig := { parameters := [.int, (.array .int)], returnType := some .boolean }, accessFlags := 2, code := some k16c5 }
def k16c6 : Code := { maxStack := 3, maxLocals := 6, code := prog_21_method_12_code, exceptionTable := #[], attributes := #[] }
def k16m6 : Method := { name := "hash", desc := "([I)I", sig := { parameters := [(.array .int)], returnType := some .int }, accessFlags := 10, code := some k16c6 }
/-- com/example/nestor/nestor/engine/Index -/
def k16 : Class := { plain "com/example/nestor/nestor/engine/Index" (some 0) with
  accessFlags := 32
  interfaces := #[]
  cf := some (fileOf pool16 8 #[] #[{ accessFlags := 0, nameIndex := 5, descriptorIndex := 92, attributes := #[] }, { accessFlags := 0, nameIndex := 99, descriptorIndex := 60, attributes := #[] }, { accessFlags := 0, nameIndex := 45, descriptorIndex := 46, attributes := #[] }, { accessFlags := 2, nameIndex := 59, descriptorIndex := 60, attributes := #[] }, { accessFlags := 2, nameIndex := 63, descriptorIndex := 64, attributes := #[] }, { accessFlags := 2, nameIndex := 83, descriptorIndex := 84, attributes := #[] }, { accessFlags := 10, nameIndex := 80, descriptorIndex := 60, attributes := #[] }] 32 2 #[] #[{ accessFlags := 24, nameIndex := 89, descriptorIndex := 50, attributes := #[] }, { accessFlags := 18, nameIndex := 24, descriptorIndex := 25, attributes := #[] }, { accessFlags := 18, nameIndex := 33, descriptorIndex := 12, attributes := #[] }, { accessFlags := 2, nameIndex := 11, descriptorIndex := 12, attributes := #[] }, { accessFlags := 2, nameIndex := 49, descriptorIndex := 50, attributes := #[] }, { accessFlags := 2, nameIndex := 15, descriptorIndex := 12, attributes := #[] }, { accessFlags := 2, nameIndex := 18, descriptorIndex := 12, attributes := #[] }, { accessFlags := 2, nameIndex := 21, descriptorIndex := 12, attributes := #[] }, { accessFlags := 18, nameIndex := 36, descriptorIndex := 12, attributes := #[] }])
  fields := #[{ name := "NONE", type := .int, accessFlags := 24, slot := 0, constantValue := 0 }, { name := "relation", type := (.object "com/example/nestor/nestor/engine/Relation"), accessFlags := 18, slot := 0, constantValue := 0 }, { name := "columns", type := (.array .int), accessFlags := 18, slot := 1, constantValue := 0 }, { name := "slots", type := (.array .int), accessFlags := 2, slot := 2, constantValue := 0 }, { name := "groups", type := .int, accessFlags := 2, slot := 3, constantValue := 0 }, { name := "firsts", type := (.array .int), accessFlags := 2, slot := 4, constantValue := 0 }, { name := "lasts", type := (.array .int), accessFlags := 2, slot := 5, constantValue := 0 }, { name := "nexts", type := (.array .int), accessFlags := 2, slot := 6, constantValue := 0 }, { name := "scratch", type := (.array .int), accessFlags := 18, slot := 7, constantValue := 0 }]
  methods := #[k16m0, k16m1, k16m2, k16m3, k16m4, k16m5, k16m6]
  instanceTypes := #[(.object "com/example/nestor/nestor/engine/Relation"), (.array .int), (.array .int), .int, (.array .int), (.array .int), (.array .int), (.array .int)]
  staticTypes := #[.int]
  resolved := Array.replicate 104 none
  statics := none }

def pool17 : Array CpInfo := pool [(1, .class_ 2), (0, u "java/lang/Math"), (1, .class_ 6), (1, u "java/lang/Object"), (0, u "<init>"), (0, u "()V"), (89, .class_ 100), (1, u "java/lang/Math$RandomNumberGeneratorHolder"), (71, u "negativeZeroFloatBits"), (0, u "J"), (2, u "negativeZeroDoubleBits"), (21, u "max"), (46, u "$assertionsDisabled"), (0, u "Z"), (88, u "(II)I"), (2, u "twoToTheDoubleScaleDown"), (0, u "D"), (4, u "twoToTheDoubleScaleUp"), (9, u "E"), (3, u "PI"), (2, u "TAU"), (2, u "DEGREES_TO_RADIANS"), (0, u "RADIANS_TO_DEGREES")] 94

def k17m0 : Method := { name := "<init>", desc := "()V", sig := { parameters := [], returnType := none }, accessFlags := 2, code := none }
def k17c1 : Code := { maxStack := 2, maxLocals := 2, code := jdk_29_method_65_code, exceptionTable := #[], attributes := #[] }
def k17m1 : Method := { name := "max", desc := "(II)I", sig := { parameters := [.int, .int], returnType := some .int }, accessFlags := 9, code := some k17c1 }
/-- java/lang/Math -/
def k17 : Class := { plain "java/lang/Math" (some 0) with
  accessFlags := 49
  interfaces := #[]
  cf := some (fileOf pool17 1 #[.nestMembers #[98]] #[{ accessFlags := 2, nameIndex := 7, descriptorIndex := 8, attributes := #[] }, { accessFlags := 9, nameIndex := 198, descriptorIndex := 335, attributes := #[] }] 49 4 #[] #[{ accessFlags := 25, nameIndex := 354, descriptorIndex := 339, attributes := #[] }, { accessFlags := 25, nameIndex := 358, descriptorIndex := 339, attributes := #[] }, { accessFlags := 25, nameIndex := 361, descriptorIndex := 339, attributes := #[] }, { accessFlags := 26, nameIndex := 364, descriptorIndex := 339, attributes := #[] }, { accessFlags := 26, nameIndex := 365, descriptorIndex := 339, attributes := #[] }, { accessFlags := 26, nameIndex := 172, descriptorIndex := 173, attributes := #[] }, { accessFlags := 26, nameIndex := 176, descriptorIndex := 173, attributes := #[] }, { accessFlags := 8, nameIndex := 344, descriptorIndex := 339, attributes := #[] }, { accessFlags := 8, nameIndex := 338, descriptorIndex := 339, attributes := #[] }, { accessFlags := 4120, nameIndex := 245, descriptorIndex := 246, attributes := #[] }])
  fields := #[{ name := "E", type := .double, accessFlags := 25, slot := 0, constantValue := 0 }, { name := "PI", type := .double, accessFlags := 25, slot := 1, constantValue := 0 }, { name := "TAU", type := .double, accessFlags := 25, slot := 2, constantValue := 0 }, { name := "DEGREES_TO_RADIANS", type := .double, accessFlags := 26, slot := 3, constantValue := 0 }, { name := "RADIANS_TO_DEGREES", type := .double, accessFlags := 26, slot := 4, constantValue := 0 }, { name := "negativeZeroFloatBits", type := .long, accessFlags := 26, slot := 5, constantValue := 0 }, { name := "negativeZeroDoubleBits", type := .long, accessFlags := 26, slot := 6, constantValue := 0 }, { name := "twoToTheDoubleScaleUp", type := .double, accessFlags := 8, slot := 7, constantValue := 0 }, { name := "twoToTheDoubleScaleDown", type := .double, accessFlags := 8, slot := 8, constantValue := 0 }, { name := "$assertionsDisabled", type := .boolean, accessFlags := 4120, slot := 9, constantValue := 0 }]
  methods := #[k17m0, k17m1]
  instanceTypes := #[]
  staticTypes := #[.double, .double, .double, .double, .double, .long, .long, .double, .double, .boolean]
  resolved := Array.replicate 460 none
  statics := none }

def pool18 : Array CpInfo := pool [(2, .class_ 4), (1, u "java/lang/Object"), (0, u "<init>"), (0, u "()V"), (1, .class_ 10), (1, u "java/lang/System"), (0, u "allowSecurityManager"), (0, u "I"), (16, u "cons"), (0, u "Ljava/io/Console;"), (77, .class_ 110), (1, u "java/lang/System$CallersHolder"), (43, u "initialErrStream"), (0, u "Ljava/io/PrintStream;"), (19, u "security"), (0, u "Ljava/lang/SecurityManager;"), (31, .class_ 209), (0, u "java/lang/System$1"), (7, u "props"), (0, u "Ljava/util/Properties;"), (2, u "lineSeparator"), (0, u "Ljava/lang/String;"), (96, .class_ 321), (1, u "java/lang/System$LoggerFinder"), (5, .class_ 328), (0, u "java/lang/System$Logger"), (67, u "err"), (2, u "out"), (91, u "notSupportedJnuEncoding"), (15, u "in"), (17, u "initialIn"), (0, u "Ljava/io/InputStream;"), (35, u "bootLayer"), (0, u "Ljava/lang/ModuleLayer;"), (99, .class_ 664), (0, u "java/lang/System$2"), (9, u "NEVER"), (2, u "MAYBE"), (49, u "arraycopy"), (0, u "(Ljava/lang/Object;ILjava/lang/Object;II)V"), (72, .class_ 802), (0, u "java/lang/System$Logger$Level")] 31

def k18m0 : Method := { name := "<init>", desc := "()V", sig := { parameters := [], returnType := none }, accessFlags := 2, code := none }
def k18m1 : Method := { name := "arraycopy", desc := "(Ljava/lang/Object;ILjava/lang/Object;II)V", sig := { parameters := [(.object "java/lang/Object"), .int, (.object "java/lang/Object"), .int, .int], returnType := none }, accessFlags := 265, code := none }
/-- java/lang/System -/
def k18 : Class := { plain "java/lang/System" (some 0) with
  accessFlags := 49
  interfaces := #[]
  cf := some (fileOf pool18 8 #[.nestMembers #[319, 327, 801, 108, 663, 208]] #[{ accessFlags := 2, nameIndex := 5, descriptorIndex := 6, attributes := #[] }, { accessFlags := 265, nameIndex := 727, descriptorIndex := 728, attributes := #[] }] 49 2 #[] #[{ accessFlags := 25, nameIndex := 507, descriptorIndex := 526, attributes := #[] }, { accessFlags := 25, nameIndex := 399, descriptorIndex := 155, attributes := #[] }, { accessFlags := 25, nameIndex := 396, descriptorIndex := 155, attributes := #[] }, { accessFlags := 10, nameIndex := 525, descriptorIndex := 526, attributes := #[] }, { accessFlags := 26, nameIndex := 674, descriptorIndex := 12, attributes := #[] }, { accessFlags := 26, nameIndex := 677, descriptorIndex := 12, attributes := #[] }, { accessFlags := 10, nameIndex := 11, descriptorIndex := 12, attributes := #[] }, { accessFlags := 74, nameIndex := 175, descriptorIndex := 176, attributes := #[] }, { accessFlags := 10, nameIndex := 491, descriptorIndex := 222, attributes := #[] }, { accessFlags := 74, nameIndex := 29, descriptorIndex := 30, attributes := #[] }, { accessFlags := 74, nameIndex := 154, descriptorIndex := 155, attributes := #[] }, { accessFlags := 10, nameIndex := 217, descriptorIndex := 218, attributes := #[] }, { accessFlags := 10, nameIndex := 221, descriptorIndex := 222, attributes := #[] }, { accessFlags := 8, nameIndex := 562, descriptorIndex := 563, attributes := #[] }])
  fields := #[{ name := "in", type := (.object "java/io/InputStream"), accessFlags := 25, slot := 0, constantValue := 0 }, { name := "out", type := (.object "java/io/PrintStream"), accessFlags := 25, slot := 1, constantValue := 0 }, { name := "err", type := (.object "java/io/PrintStream"), accessFlags := 25, slot := 2, constantValue := 0 }, { name := "initialIn", type := (.object "java/io/InputStream"), accessFlags := 10, slot := 3, constantValue := 0 }, { name := "NEVER", type := .int, accessFlags := 26, slot := 4, constantValue := 0 }, { name := "MAYBE", type := .int, accessFlags := 26, slot := 5, constantValue := 0 }, { name := "allowSecurityManager", type := .int, accessFlags := 10, slot := 6, constantValue := 0 }, { name := "security", type := (.object "java/lang/SecurityManager"), accessFlags := 74, slot := 7, constantValue := 0 }, { name := "notSupportedJnuEncoding", type := (.object "java/lang/String"), accessFlags := 10, slot := 8, constantValue := 0 }, { name := "cons", type := (.object "java/io/Console"), accessFlags := 74, slot := 9, constantValue := 0 }, { name := "initialErrStream", type := (.object "java/io/PrintStream"), accessFlags := 74, slot := 10, constantValue := 0 }, { name := "props", type := (.object "java/util/Properties"), accessFlags := 10, slot := 11, constantValue := 0 }, { name := "lineSeparator", type := (.object "java/lang/String"), accessFlags := 10, slot := 12, constantValue := 0 }, { name := "bootLayer", type := (.object "java/lang/ModuleLayer"), accessFlags := 8, slot := 13, constantValue := 0 }]
  methods := #[k18m0, k18m1]
  instanceTypes := #[]
  staticTypes := #[(.object "java/io/InputStream"), (.object "java/io/PrintStream"), (.object "java/io/PrintStream"), (.object "java/io/InputStream"), .int, .int, .int, (.object "java/lang/SecurityManager"), (.object "java/lang/String"), (.object "java/io/Console"), (.object "java/io/PrintStream"), (.object "java/util/Properties"), (.object "java/lang/String"), (.object "java/lang/ModuleLayer")]
  resolved := Array.replicate 834 none
  statics := none }

def pool19 : Array CpInfo := pool [(16, .class_ 18), (1, u "java/util/Iterator"), (0, u "hasNext"), (0, u "()Z"), (2, u "next"), (0, u "()Ljava/lang/Object;"), (6, .class_ 32), (0, u "java/lang/Object")] 20

def k19m0 : Method := { name := "hasNext", desc := "()Z", sig := { parameters := [], returnType := some .boolean }, accessFlags := 1025, code := none }
def k19m1 : Method := { name := "next", desc := "()Ljava/lang/Object;", sig := { parameters := [], returnType := some (.object "java/lang/Object") }, accessFlags := 1025, code := none }
/-- java/util/Iterator -/
def k19 : Class := { plain "java/util/Iterator" (some 0) with
  accessFlags := 1537
  interfaces := #[]
  cf := some (fileOf pool19 16 #[] #[{ accessFlags := 1025, nameIndex := 19, descriptorIndex := 20, attributes := #[] }, { accessFlags := 1025, nameIndex := 23, descriptorIndex := 24, attributes := #[] }] 1537 31 #[] #[])
  fields := #[]
  methods := #[k19m0, k19m1]
  instanceTypes := #[]
  staticTypes := #[]
  resolved := Array.replicate 53 none
  statics := none }

def pool20 : Array CpInfo := pool [(1, .fieldref 2 3), (0, .class_ 4), (0, .nameAndType 5 6), (0, u "java/util/ArrayList$Itr"), (0, u "this$0"), (0, u "Ljava/util/ArrayList;"), (0, .methodref 8 9), (0, .class_ 10), (0, .nameAndType 11 12), (0, u "java/lang/Object"), (0, u "<init>"), (0, u "()V"), (0, .fieldref 2 14), (0, .nameAndType 15 16), (0, u "lastRet"), (0, u "I"), (0, .fieldref 18 19), (0, .class_ 20), (0, .nameAndType 21 16), (0, u "java/util/ArrayList"), (0, u "modCount"), (0, .fieldref 2 23), (0, .nameAndType 24 16), (0, u "expectedModCount"), (0, .fieldref 2 26), (0, .nameAndType 27 16), (0, u "cursor"), (0, .fieldref 18 29), (0, .nameAndType 30 16), (0, u "size"), (0, .methodref 2 32), (0, .nameAndType 33 12), (0, u "checkForComodification"), (3, .fieldref 18 38), (0, .nameAndType 39 40), (0, u "elementData"), (0, u "[Ljava/lang/Object;"), (28, .class_ 70), (0, u "java/util/Iterator"), (0, u "(Ljava/util/ArrayList;)V"), (8, u "hasNext"), (0, u "()Z"), (1, u "next"), (0, u "()Ljava/lang/Object;")] 19

def k20c0 : Code := { maxStack := 2, maxLocals := 2, code := jdk_49_method_1_code, exceptionTable := #[], attributes := #[] }
def k20m0 : Method := { name := "<init>", desc := "(Ljava/util/ArrayList;)V", sig := { parameters := [(.object "java/util/ArrayList")], returnType := none }, accessFlags := 0, code := some k20c0 }
def k20c1 : Code := { maxStack := 2, maxLocals := 1, code := jdk_49_method_2_code, exceptionTable := #[], attributes := #[] }
def k20m1 : Method := { name := "hasNext", desc := "()Z", sig := { parameters := [], returnType := some .boolean }, accessFlags := 1, code := some k20c1 }
def k20c2 : Code := { maxStack := 4, maxLocals := 3, code := jdk_49_method_3_code, exceptionTable := #[], attributes := #[] }
def k20m2 : Method := { name := "next", desc := "()Ljava/lang/Object;", sig := { parameters := [], returnType := some (.object "java/lang/Object") }, accessFlags := 1, code := some k20c2 }
def k20c3 : Code := { maxStack := 2, maxLocals := 1, code := jdk_49_method_6_code, exceptionTable := #[], attributes := #[] }
def k20m3 : Method := { name := "checkForComodification", desc := "()V", sig := { parameters := [], returnType := none }, accessFlags := 16, code := some k20c3 }
/-- java/util/ArrayList$Itr -/
def k20 : Class := { plain "java/util/ArrayList$Itr" (some 0) with
  accessFlags := 32
  interfaces := #[19]
  cf := some (fileOf pool20 2 #[.nestHost 18] #[{ accessFlags := 0, nameIndex := 11, descriptorIndex := 71, attributes := #[] }, { accessFlags := 1, nameIndex := 80, descriptorIndex := 81, attributes := #[] }, { accessFlags := 1, nameIndex := 83, descriptorIndex := 84, attributes := #[] }, { accessFlags := 16, nameIndex := 33, descriptorIndex := 12, attributes := #[] }] 32 8 #[69] #[{ accessFlags := 0, nameIndex := 27, descriptorIndex := 16, attributes := #[] }, { accessFlags := 0, nameIndex := 15, descriptorIndex := 16, attributes := #[] }, { accessFlags := 0, nameIndex := 24, descriptorIndex := 16, attributes := #[] }, { accessFlags := 4112, nameIndex := 5, descriptorIndex := 6, attributes := #[] }])
  fields := #[{ name := "cursor", type := .int, accessFlags := 0, slot := 0, constantValue := 0 }, { name := "lastRet", type := .int, accessFlags := 0, slot := 1, constantValue := 0 }, { name := "expectedModCount", type := .int, accessFlags := 0, slot := 2, constantValue := 0 }, { name := "this$0", type := (.object "java/util/ArrayList"), accessFlags := 4112, slot := 3, constantValue := 0 }]
  methods := #[k20m0, k20m1, k20m2, k20m3]
  instanceTypes := #[.int, .int, .int, (.object "java/util/ArrayList")]
  staticTypes := #[]
  resolved := Array.replicate 104 none
  statics := none }

/-- the primitive byte -/
def k21 : Class := { plain "byte" none with kind := .primitive 'B', accessFlags := 0x411 }
/-- [B -/
def k22 : Class := { plain "[B" (some 0) with kind := .array 21 .byte, interfaces := #[10, 11], accessFlags := 1041 }

/-- the primitive int -/
def k23 : Class := { plain "int" none with kind := .primitive 'I', accessFlags := 0x411 }
/-- [I -/
def k24 : Class := { plain "[I" (some 0) with kind := .array 23 .int, interfaces := #[10, 11], accessFlags := 1041 }

/-- [Ljava/lang/Object; -/
def k25 : Class := { plain "[Ljava/lang/Object;" (some 0) with kind := .array 0 (.object "java/lang/Object"), interfaces := #[10, 11], accessFlags := 1041 }

def classes0 : Array Class := #[k0, k1, k2, k3, k4, k5, k6, k7, k8, k9, k10, k11, k12, k13, k14, k15, k16, k17, k18, k19, k20, k21, k22, k23, k24, k25]
/-- the class that the rule has made for the site at 8 of com/example/nestor/nestor/engine/Relation.byEveryColumn -/
def k26 : Class := Jvm.LamKit.madeRec { classes := classes0 } "com/example/nestor/nestor/engine/Relation" (Jvm.Lambda.Shape.mk "java/util/function/IntUnaryOperator" "applyAsInt" (Jvm.ClassFile.MethodDescriptor.mk ([Jvm.ClassFile.FieldType.int] : List Jvm.ClassFile.FieldType) (Option.some Jvm.ClassFile.FieldType.int)) ([] : List Jvm.ClassFile.FieldType) (6 : Nat) "com/example/nestor/nestor/engine/Relation" "lambda$byEveryColumn$0" (Jvm.ClassFile.MethodDescriptor.mk ([Jvm.ClassFile.FieldType.int] : List Jvm.ClassFile.FieldType) (Option.some Jvm.ClassFile.FieldType.int)) false (Jvm.ClassFile.MethodDescriptor.mk ([Jvm.ClassFile.FieldType.int] : List Jvm.ClassFile.FieldType) (Option.some Jvm.ClassFile.FieldType.int))) 26

def heap : Heap := #[{ cls := 12, slots := #[.long 0, .int 0, .ref 2, .ref 3], vm := .statics 12 },
  { cls := 26, slots := #[], vm := .none },
  { cls := 25, slots := #[], vm := .none },
  { cls := 25, slots := #[], vm := .none }]
def classes : Array Class := #[k0, k1, k2, k3, k4, k5, k6, k7, k8, k9, k10, k11, k12, k13, k14, k15, k16, k17, k18, k19, k20, k21, k22, k23, k24, k25, k26]
def interned : List (Array UInt16 × Addr) := []
def slotsUsed : Nat := 4
def theMethod : MethodId := ⟨1, 1⟩
def args0 : Array Value := #[.int 5, .int 7, .int 9, .int 7]
def aboutOver (below : List Frame) : State where
  vm := { classes := classes, interned := interned.toArray }
  heap := heap
  slotsUsed := slotsUsed
  threads := #[{ frames := .invoking theMethod args0 :: below }]
def below0 : List Frame := [.native { method := ⟨0, 0⟩, args := #[] }]
def about1 : State := aboutOver below0
def p0 : Program := .bare "" "" ""
def e0 : Env := launch0.env 0 0 0
theorem w_frames : about1.frames = Frame.invoking theMethod args0 :: below0 := rfl
set_option maxRecDepth 65536 in
theorem w_args : argsFit about1.vm theMethod args0 = true := by decide +kernel
set_option maxRecDepth 65536 in
theorem w_heap : heapFits about1 = true := by decide +kernel
set_option maxRecDepth 65536 in
theorem w_runnable : about1.curStatus? = some .runnable := by decide +kernel
set_option maxRecDepth 65536 in
theorem w_alone : about1.alone = true := by decide +kernel
set_option maxRecDepth 65536 in
theorem w_named : about1.methodNamed? x = some theMethod := by decide +kernel
set_option maxRecDepth 65536 in
theorem w_hears : about1.hears theMethod below0 = true := by decide +kernel
set_option maxRecDepth 65536 in
theorem w_ripe : about1.ripe theMethod args0 below0 = true := by decide +kernel
theorem w_running : about1.status = .running := rfl
set_option maxRecDepth 65536 in
theorem w_room : about1.hasRoom e0.platform room_1 = true :=
  launch0.hasRoom_least _ room_1 (by decide +kernel) (by decide +kernel) (by decide +kernel) (by decide +kernel) (by decide +kernel) (by decide +kernel)
theorem allAtoms_all (ts : List Jvm.Cond) (a : Array Jvm.Value) (st : Jvm.State) : (allAtoms ts).before a st = ts.all (fun c => c.before a st) := by
  induction ts with
  | nil => rfl
  | cons c t ih =>
    show (Jvm.Cond.and c (allAtoms t)).before a st = _
    rw [Jvm.Cond.before_and, ih, List.all_cons]
def words1 : List Jvm.Cond := Jvm.Cond.code x code maxLocals ret :: tables_1
/-- a 'code' word, met by the world's own term for the bytes: nothing is compared byte by byte -/
theorem code_word {y : MethodName} {bytes : ByteArray} {mx : Nat} {rt : Option FieldType} {a : Array Value} {s : State} {m : MethodId} {meth : Method} {c : Code} (h1 : s.methodNamed? y = some m) (h2 : s.vm.method? m = some meth) (h3 : meth.code = some c) (h4 : c.code = bytes)
    (h5 : (c.maxLocals == mx && c.exceptionTable.isEmpty && decide (c.maxStack ≤ mostOperands) && decide (meth.sig.returnType = rt) && !meth.locks && decide (parseMethodDescriptor y.desc = some meth.sig)) = true) : (Jvm.Cond.code y bytes mx rt).before a s = true := by
  simp only [Bool.and_eq_true, beq_iff_eq, Bool.not_eq_true', decide_eq_true_eq] at h5
  obtain ⟨⟨⟨⟨⟨g1, g2⟩, g3⟩, g4⟩, g5⟩, g6⟩ := h5
  simp [Cond.before, Cond.holds, Cond.value, h1, h2, h3, h4, g1, g2, g3, g4, g5, g6]
def isCode : Jvm.Cond → Bool
  | .code _ _ _ _ => true
  | _ => false
theorem all_split {L : List Jvm.Cond} {P : Jvm.Cond → Bool} (h1 : L.all (fun c => isCode c || P c) = true) (h2 : ∀ c ∈ L.filter isCode, P c = true) : L.all P = true := by
  refine List.all_eq_true.mpr fun c hc => ?_
  have h := List.all_eq_true.mp h1 c hc
  rcases Bool.eq_false_or_eq_true (isCode c) with hi | hi
  · exact h2 c (List.mem_filter.mpr ⟨hc, hi⟩)
  · simpa [hi] using h
set_option maxRecDepth 65536 in
theorem w_c0 : (Jvm.Cond.code x code maxLocals ret).before args0 about1 = true := code_word (m := ⟨1, 1⟩) (meth := k1m1) (c := k1c1) (by decide +kernel) rfl rfl rfl (by decide +kernel)
set_option maxRecDepth 65536 in
theorem w_c1 : (Jvm.Cond.code ({ cls := "com/example/nestor/nestor/engine/Relation", name := "<init>", desc := "(I)V" } : Jvm.MethodName) prog_26_method_1_code (2 : Nat) (Option.none : Option Jvm.ClassFile.FieldType)).before args0 about1 = true := code_word (m := ⟨2, 0⟩) (meth := k2m0) (c := k2c0) (by decide +kernel) rfl rfl rfl (by decide +kernel)
set_option maxRecDepth 65536 in
theorem w_c2 : (Jvm.Cond.code ({ cls := "java/lang/Object", name := "<init>", desc := "()V" } : Jvm.MethodName) object_method_1_code (1 : Nat) (Option.none : Option Jvm.ClassFile.FieldType)).before args0 about1 = true := code_word (m := ⟨0, 0⟩) (meth := k0m0) (c := k0c0) (by decide +kernel) rfl rfl rfl (by decide +kernel)
set_option maxRecDepth 65536 in
theorem w_c3 : (Jvm.Cond.code ({ cls := "java/util/ArrayList", name := "<init>", desc := "()V" } : Jvm.MethodName) jdk_38_method_2_code (1 : Nat) (Option.none : Option Jvm.ClassFile.FieldType)).before args0 about1 = true := code_word (m := ⟨12, 0⟩) (meth := k12m0) (c := k12c0) (by decide +kernel) rfl rfl rfl (by decide +kernel)
set_option maxRecDepth 65536 in
theorem w_c4 : (Jvm.Cond.code ({ cls := "java/util/AbstractList", name := "<init>", desc := "()V" } : Jvm.MethodName) jdk_39_method_1_code (1 : Nat) (Option.none : Option Jvm.ClassFile.FieldType)).before args0 about1 = true := code_word (m := ⟨8, 0⟩) (meth := k8m0) (c := k8c0) (by decide +kernel) rfl rfl rfl (by decide +kernel)
set_option maxRecDepth 65536 in
theorem w_c5 : (Jvm.Cond.code ({ cls := "java/util/AbstractCollection", name := "<init>", desc := "()V" } : Jvm.MethodName) jdk_22_method_1_code (1 : Nat) (Option.none : Option Jvm.ClassFile.FieldType)).before args0 about1 = true := code_word (m := ⟨5, 0⟩) (meth := k5m0) (c := k5c0) (by decide +kernel) rfl rfl rfl (by decide +kernel)
set_option maxRecDepth 65536 in
theorem w_c6 : (Jvm.Cond.code ({ cls := "com/example/nestor/nestor/engine/Relation", name := "byEveryColumn", desc := "()Lcom/example/nestor/nestor/engine/Index;" } : Jvm.MethodName) prog_26_method_8_code (2 : Nat) (Option.some (Jvm.ClassFile.FieldType.object "com/example/nestor/nestor/engine/Index"))).before args0 about1 = true := code_word (m := ⟨2, 4⟩) (meth := k2m4) (c := k2c4) (by decide +kernel) rfl rfl rfl (by decide +kernel)
set_option maxRecDepth 65536 in
theorem w_c7 : (Jvm.Cond.code ({ cls := "java/util/Arrays", name := "setAll", desc := "([ILjava/util/function/IntUnaryOperator;)V" } : Jvm.MethodName) jdk_65_method_175_code (3 : Nat) (Option.none : Option Jvm.ClassFile.FieldType)).before args0 about1 = true := code_word (m := ⟨14, 1⟩) (meth := k14m1) (c := k14c1) (by decide +kernel) rfl rfl rfl (by decide +kernel)
set_option maxRecDepth 65536 in
theorem w_c8 : (Jvm.Cond.code ({ cls := "java/util/Objects", name := "requireNonNull", desc := "(Ljava/lang/Object;)Ljava/lang/Object;" } : Jvm.MethodName) jdk_31_method_10_code (1 : Nat) (Option.some (Jvm.ClassFile.FieldType.object "java/lang/Object"))).before args0 about1 = true := code_word (m := ⟨15, 1⟩) (meth := k15m1) (c := k15c1) (by decide +kernel) rfl rfl rfl (by decide +kernel)
set_option maxRecDepth 65536 in
theorem w_c9 : (Jvm.Cond.code ({ cls := "com/example/nestor/nestor/engine/Relation", name := "lambda$byEveryColumn$0", desc := "(I)I" } : Jvm.MethodName) prog_26_method_19_code (1 : Nat) (Option.some Jvm.ClassFile.FieldType.int)).before args0 about1 = true := code_word (m := ⟨2, 10⟩) (meth := k2m10) (c := k2c10) (by decide +kernel) rfl rfl rfl (by decide +kernel)
set_option maxRecDepth 65536 in
theorem w_c10 : (Jvm.Cond.code ({ cls := "com/example/nestor/nestor/engine/Index", name := "<init>", desc := "(Lcom/example/nestor/nestor/engine/Relation;[I)V" } : Jvm.MethodName) prog_21_method_1_code (4 : Nat) (Option.none : Option Jvm.ClassFile.FieldType)).before args0 about1 = true := code_word (m := ⟨16, 0⟩) (meth := k16m0) (c := k16c0) (by decide +kernel) rfl rfl rfl (by decide +kernel)
set_option maxRecDepth 65536 in
theorem w_c11 : (Jvm.Cond.code ({ cls := "com/example/nestor/nestor/engine/Relation", name := "size", desc := "()I" } : Jvm.MethodName) prog_26_method_4_code (1 : Nat) (Option.some Jvm.ClassFile.FieldType.int)).before args0 about1 = true := code_word (m := ⟨2, 1⟩) (meth := k2m1) (c := k2c1) (by decide +kernel) rfl rfl rfl (by decide +kernel)
set_option maxRecDepth 65536 in
theorem w_c12 : (Jvm.Cond.code ({ cls := "java/util/ArrayList", name := "add", desc := "(Ljava/lang/Object;)Z" } : Jvm.MethodName) jdk_38_method_25_code (2 : Nat) (Option.some Jvm.ClassFile.FieldType.boolean)).before args0 about1 = true := code_word (m := ⟨12, 4⟩) (meth := k12m4) (c := k12c4) (by decide +kernel) rfl rfl rfl (by decide +kernel)
set_option maxRecDepth 65536 in
theorem w_c13 : (Jvm.Cond.code ({ cls := "java/util/ArrayList", name := "add", desc := "(Ljava/lang/Object;[Ljava/lang/Object;I)V" } : Jvm.MethodName) jdk_38_method_24_code (4 : Nat) (Option.none : Option Jvm.ClassFile.FieldType)).before args0 about1 = true := code_word (m := ⟨12, 3⟩) (meth := k12m3) (c := k12c3) (by decide +kernel) rfl rfl rfl (by decide +kernel)
set_option maxRecDepth 65536 in
theorem w_c14 : (Jvm.Cond.code ({ cls := "java/util/ArrayList", name := "grow", desc := "()[Ljava/lang/Object;" } : Jvm.MethodName) jdk_38_method_7_code (1 : Nat) (Option.some (Jvm.ClassFile.FieldType.array (Jvm.ClassFile.FieldType.object "java/lang/Object")))).before args0 about1 = true := code_word (m := ⟨12, 2⟩) (meth := k12m2) (c := k12c2) (by decide +kernel) rfl rfl rfl (by decide +kernel)
set_option maxRecDepth 65536 in
theorem w_c15 : (Jvm.Cond.code ({ cls := "java/util/ArrayList", name := "grow", desc := "(I)[Ljava/lang/Object;" } : Jvm.MethodName) jdk_38_method_6_code (4 : Nat) (Option.some (Jvm.ClassFile.FieldType.array (Jvm.ClassFile.FieldType.object "java/lang/Object")))).before args0 about1 = true := code_word (m := ⟨12, 1⟩) (meth := k12m1) (c := k12c1) (by decide +kernel) rfl rfl rfl (by decide +kernel)
set_option maxRecDepth 65536 in
theorem w_c16 : (Jvm.Cond.code ({ cls := "java/lang/Math", name := "max", desc := "(II)I" } : Jvm.MethodName) jdk_29_method_65_code (2 : Nat) (Option.some Jvm.ClassFile.FieldType.int)).before args0 about1 = true := code_word (m := ⟨17, 1⟩) (meth := k17m1) (c := k17c1) (by decide +kernel) rfl rfl rfl (by decide +kernel)
set_option maxRecDepth 65536 in
theorem w_c17 : (Jvm.Cond.code ({ cls := "com/example/nestor/nestor/engine/Relation", name := "add", desc := "([I)Z" } : Jvm.MethodName) prog_26_method_6_code (5 : Nat) (Option.some Jvm.ClassFile.FieldType.boolean)).before args0 about1 = true := code_word (m := ⟨2, 3⟩) (meth := k2m3) (c := k2c3) (by decide +kernel) rfl rfl rfl (by decide +kernel)
set_option maxRecDepth 65536 in
theorem w_c18 : (Jvm.Cond.code ({ cls := "com/example/nestor/nestor/engine/Relation", name := "contains", desc := "([I)Z" } : Jvm.MethodName) prog_26_method_10_code (2 : Nat) (Option.some Jvm.ClassFile.FieldType.boolean)).before args0 about1 = true := code_word (m := ⟨2, 5⟩) (meth := k2m5) (c := k2c5) (by decide +kernel) rfl rfl rfl (by decide +kernel)
set_option maxRecDepth 65536 in
theorem w_c19 : (Jvm.Cond.code ({ cls := "com/example/nestor/nestor/engine/Relation", name := "find", desc := "([I)I" } : Jvm.MethodName) prog_26_method_11_code (2 : Nat) (Option.some Jvm.ClassFile.FieldType.int)).before args0 about1 = true := code_word (m := ⟨2, 6⟩) (meth := k2m6) (c := k2c6) (by decide +kernel) rfl rfl rfl (by decide +kernel)
set_option maxRecDepth 65536 in
theorem w_c20 : (Jvm.Cond.code ({ cls := "com/example/nestor/nestor/engine/Index", name := "first", desc := "([I)I" } : Jvm.MethodName) prog_21_method_5_code (3 : Nat) (Option.some Jvm.ClassFile.FieldType.int)).before args0 about1 = true := code_word (m := ⟨16, 1⟩) (meth := k16m1) (c := k16c1) (by decide +kernel) rfl rfl rfl (by decide +kernel)
set_option maxRecDepth 65536 in
theorem w_c21 : (Jvm.Cond.code ({ cls := "com/example/nestor/nestor/engine/Index", name := "probe", desc := "([I)I" } : Jvm.MethodName) prog_21_method_8_code (4 : Nat) (Option.some Jvm.ClassFile.FieldType.int)).before args0 about1 = true := code_word (m := ⟨16, 3⟩) (meth := k16m3) (c := k16c3) (by decide +kernel) rfl rfl rfl (by decide +kernel)
set_option maxRecDepth 65536 in
theorem w_c22 : (Jvm.Cond.code ({ cls := "com/example/nestor/nestor/engine/Index", name := "hash", desc := "([I)I" } : Jvm.MethodName) prog_21_method_12_code (6 : Nat) (Option.some Jvm.ClassFile.FieldType.int)).before args0 about1 = true := code_word (m := ⟨16, 6⟩) (meth := k16m6) (c := k16c6) (by decide +kernel) rfl rfl rfl (by decide +kernel)
set_option maxRecDepth 65536 in
theorem w_c23 : (Jvm.Cond.code ({ cls := "java/util/ArrayList", name := "iterator", desc := "()Ljava/util/Iterator;" } : Jvm.MethodName) jdk_38_method_55_code (1 : Nat) (Option.some (Jvm.ClassFile.FieldType.object "java/util/Iterator"))).before args0 about1 = true := code_word (m := ⟨12, 5⟩) (meth := k12m5) (c := k12c5) (by decide +kernel) rfl rfl rfl (by decide +kernel)
set_option maxRecDepth 65536 in
theorem w_c24 : (Jvm.Cond.code ({ cls := "java/util/ArrayList$Itr", name := "<init>", desc := "(Ljava/util/ArrayList;)V" } : Jvm.MethodName) jdk_49_method_1_code (2 : Nat) (Option.none : Option Jvm.ClassFile.FieldType)).before args0 about1 = true := code_word (m := ⟨20, 0⟩) (meth := k20m0) (c := k20c0) (by decide +kernel) rfl rfl rfl (by decide +kernel)
set_option maxRecDepth 65536 in
theorem w_c25 : (Jvm.Cond.code ({ cls := "java/util/ArrayList$Itr", name := "hasNext", desc := "()Z" } : Jvm.MethodName) jdk_49_method_2_code (1 : Nat) (Option.some Jvm.ClassFile.FieldType.boolean)).before args0 about1 = true := code_word (m := ⟨20, 1⟩) (meth := k20m1) (c := k20c1) (by decide +kernel) rfl rfl rfl (by decide +kernel)
set_option maxRecDepth 65536 in
theorem w_c26 : (Jvm.Cond.code ({ cls := "java/util/ArrayList$Itr", name := "next", desc := "()Ljava/lang/Object;" } : Jvm.MethodName) jdk_49_method_3_code (3 : Nat) (Option.some (Jvm.ClassFile.FieldType.object "java/lang/Object"))).before args0 about1 = true := code_word (m := ⟨20, 2⟩) (meth := k20m2) (c := k20c2) (by decide +kernel) rfl rfl rfl (by decide +kernel)
set_option maxRecDepth 65536 in
theorem w_c27 : (Jvm.Cond.code ({ cls := "java/util/ArrayList$Itr", name := "checkForComodification", desc := "()V" } : Jvm.MethodName) jdk_49_method_6_code (1 : Nat) (Option.none : Option Jvm.ClassFile.FieldType)).before args0 about1 = true := code_word (m := ⟨20, 3⟩) (meth := k20m3) (c := k20c3) (by decide +kernel) rfl rfl rfl (by decide +kernel)
set_option maxRecDepth 65536 in
theorem w_c28 : (Jvm.Cond.code ({ cls := "com/example/nestor/nestor/engine/Index", name := "add", desc := "(I)V" } : Jvm.MethodName) prog_21_method_7_code (4 : Nat) (Option.none : Option Jvm.ClassFile.FieldType)).before args0 about1 = true := code_word (m := ⟨16, 2⟩) (meth := k16m2) (c := k16c2) (by decide +kernel) rfl rfl rfl (by decide +kernel)
set_option maxRecDepth 65536 in
theorem w_c29 : (Jvm.Cond.code ({ cls := "com/example/nestor/nestor/engine/Index", name := "keyOf", desc := "(I[I)V" } : Jvm.MethodName) prog_21_method_9_code (4 : Nat) (Option.none : Option Jvm.ClassFile.FieldType)).before args0 about1 = true := code_word (m := ⟨16, 4⟩) (meth := k16m4) (c := k16c4) (by decide +kernel) rfl rfl rfl (by decide +kernel)
set_option maxRecDepth 65536 in
theorem w_c30 : (Jvm.Cond.code ({ cls := "com/example/nestor/nestor/engine/Relation", name := "value", desc := "(II)I" } : Jvm.MethodName) prog_26_method_5_code (3 : Nat) (Option.some Jvm.ClassFile.FieldType.int)).before args0 about1 = true := code_word (m := ⟨2, 2⟩) (meth := k2m2) (c := k2c2) (by decide +kernel) rfl rfl rfl (by decide +kernel)
set_option maxRecDepth 65536 in
theorem w_c31 : (Jvm.Cond.code ({ cls := "com/example/nestor/nestor/engine/Relation", name := "advance", desc := "()Z" } : Jvm.MethodName) prog_26_method_17_code (1 : Nat) (Option.some Jvm.ClassFile.FieldType.boolean)).before args0 about1 = true := code_word (m := ⟨2, 9⟩) (meth := k2m9) (c := k2c9) (by decide +kernel) rfl rfl rfl (by decide +kernel)
set_option maxRecDepth 65536 in
theorem w_c32 : (Jvm.Cond.code ({ cls := "com/example/nestor/nestor/engine/Relation", name := "deltaStart", desc := "()I" } : Jvm.MethodName) prog_26_method_14_code (1 : Nat) (Option.some Jvm.ClassFile.FieldType.int)).before args0 about1 = true := code_word (m := ⟨2, 7⟩) (meth := k2m7) (c := k2c7) (by decide +kernel) rfl rfl rfl (by decide +kernel)
set_option maxRecDepth 65536 in
theorem w_c33 : (Jvm.Cond.code ({ cls := "com/example/nestor/nestor/engine/Relation", name := "deltaEnd", desc := "()I" } : Jvm.MethodName) prog_26_method_15_code (1 : Nat) (Option.some Jvm.ClassFile.FieldType.int)).before args0 about1 = true := code_word (m := ⟨2, 8⟩) (meth := k2m8) (c := k2c8) (by decide +kernel) rfl rfl rfl (by decide +kernel)
set_option maxRecDepth 65536 in
theorem w_c34 : (Jvm.Cond.code ({ cls := "com/example/nestor/nestor/engine/Index", name := "holds", desc := "(I[I)Z" } : Jvm.MethodName) prog_21_method_10_code (4 : Nat) (Option.some Jvm.ClassFile.FieldType.boolean)).before args0 about1 = true := code_word (m := ⟨16, 5⟩) (meth := k16m5) (c := k16c5) (by decide +kernel) rfl rfl rfl (by decide +kernel)
def codes1 : List Jvm.Cond := [Jvm.Cond.code x code maxLocals ret, Jvm.Cond.code ({ cls := "com/example/nestor/nestor/engine/Relation", name := "<init>", desc := "(I)V" } : Jvm.MethodName) prog_26_method_1_code (2 : Nat) (Option.none : Option Jvm.ClassFile.FieldType), Jvm.Cond.code ({ cls := "java/lang/Object", name := "<init>", desc := "()V" } : Jvm.MethodName) object_method_1_code (1 : Nat) (Option.none : Option Jvm.ClassFile.FieldType), Jvm.Cond.code ({ cls := "java/util/ArrayList", name := "<init>", desc := "()V" } : Jvm.MethodName) jdk_38_method_2_code (1 : Nat) (Option.none : Option Jvm.ClassFile.FieldType), Jvm.Cond.code ({ cls := "java/util/AbstractList", name := "<init>", desc := "()V" } : Jvm.MethodName) jdk_39_method_1_code (1 : Nat) (Option.none : Option Jvm.ClassFile.FieldType), Jvm.Cond.code ({ cls := "java/util/AbstractCollection", name := "<init>", desc := "()V" } : Jvm.MethodName) jdk_22_method_1_code (1 : Nat) (Option.none : Option Jvm.ClassFile.FieldType), Jvm.Cond.code ({ cls := "com/example/nestor/nestor/engine/Relation", name := "byEveryColumn", desc := "()Lcom/example/nestor/nestor/engine/Index;" } : Jvm.MethodName) prog_26_method_8_code (2 : Nat) (Option.some (Jvm.ClassFile.FieldType.object "com/example/nestor/nestor/engine/Index")), Jvm.Cond.code ({ cls := "java/util/Arrays", name := "setAll", desc := "([ILjava/util/function/IntUnaryOperator;)V" } : Jvm.MethodName) jdk_65_method_175_code (3 : Nat) (Option.none : Option Jvm.ClassFile.FieldType), Jvm.Cond.code ({ cls := "java/util/Objects", name := "requireNonNull", desc := "(Ljava/lang/Object;)Ljava/lang/Object;" } : Jvm.MethodName) jdk_31_method_10_code (1 : Nat) (Option.some (Jvm.ClassFile.FieldType.object "java/lang/Object")), Jvm.Cond.code ({ cls := "com/example/nestor/nestor/engine/Relation", name := "lambda$byEveryColumn$0", desc := "(I)I" } : Jvm.MethodName) prog_26_method_19_code (1 : Nat) (Option.some Jvm.ClassFile.FieldType.int), Jvm.Cond.code ({ cls := "com/example/nestor/nestor/engine/Index", name := "<init>", desc := "(Lcom/example/nestor/nestor/engine/Relation;[I)V" } : Jvm.MethodName) prog_21_method_1_code (4 : Nat) (Option.none : Option Jvm.ClassFile.FieldType), Jvm.Cond.code ({ cls := "com/example/nestor/nestor/engine/Relation", name := "size", desc := "()I" } : Jvm.MethodName) prog_26_method_4_code (1 : Nat) (Option.some Jvm.ClassFile.FieldType.int), Jvm.Cond.code ({ cls := "java/util/ArrayList", name := "add", desc := "(Ljava/lang/Object;)Z" } : Jvm.MethodName) jdk_38_method_25_code (2 : Nat) (Option.some Jvm.ClassFile.FieldType.boolean), Jvm.Cond.code ({ cls := "java/util/ArrayList", name := "add", desc := "(Ljava/lang/Object;[Ljava/lang/Object;I)V" } : Jvm.MethodName) jdk_38_method_24_code (4 : Nat) (Option.none : Option Jvm.ClassFile.FieldType), Jvm.Cond.code ({ cls := "java/util/ArrayList", name := "grow", desc := "()[Ljava/lang/Object;" } : Jvm.MethodName) jdk_38_method_7_code (1 : Nat) (Option.some (Jvm.ClassFile.FieldType.array (Jvm.ClassFile.FieldType.object "java/lang/Object"))), Jvm.Cond.code ({ cls := "java/util/ArrayList", name := "grow", desc := "(I)[Ljava/lang/Object;" } : Jvm.MethodName) jdk_38_method_6_code (4 : Nat) (Option.some (Jvm.ClassFile.FieldType.array (Jvm.ClassFile.FieldType.object "java/lang/Object"))), Jvm.Cond.code ({ cls := "java/lang/Math", name := "max", desc := "(II)I" } : Jvm.MethodName) jdk_29_method_65_code (2 : Nat) (Option.some Jvm.ClassFile.FieldType.int), Jvm.Cond.code ({ cls := "com/example/nestor/nestor/engine/Relation", name := "add", desc := "([I)Z" } : Jvm.MethodName) prog_26_method_6_code (5 : Nat) (Option.some Jvm.ClassFile.FieldType.boolean), Jvm.Cond.code ({ cls := "com/example/nestor/nestor/engine/Relation", name := "contains", desc := "([I)Z" } : Jvm.MethodName) prog_26_method_10_code (2 : Nat) (Option.some Jvm.ClassFile.FieldType.boolean), Jvm.Cond.code ({ cls := "com/example/nestor/nestor/engine/Relation", name := "find", desc := "([I)I" } : Jvm.MethodName) prog_26_method_11_code (2 : Nat) (Option.some Jvm.ClassFile.FieldType.int), Jvm.Cond.code ({ cls := "com/example/nestor/nestor/engine/Index", name := "first", desc := "([I)I" } : Jvm.MethodName) prog_21_method_5_code (3 : Nat) (Option.some Jvm.ClassFile.FieldType.int), Jvm.Cond.code ({ cls := "com/example/nestor/nestor/engine/Index", name := "probe", desc := "([I)I" } : Jvm.MethodName) prog_21_method_8_code (4 : Nat) (Option.some Jvm.ClassFile.FieldType.int), Jvm.Cond.code ({ cls := "com/example/nestor/nestor/engine/Index", name := "hash", desc := "([I)I" } : Jvm.MethodName) prog_21_method_12_code (6 : Nat) (Option.some Jvm.ClassFile.FieldType.int), Jvm.Cond.code ({ cls := "java/util/ArrayList", name := "iterator", desc := "()Ljava/util/Iterator;" } : Jvm.MethodName) jdk_38_method_55_code (1 : Nat) (Option.some (Jvm.ClassFile.FieldType.object "java/util/Iterator")), Jvm.Cond.code ({ cls := "java/util/ArrayList$Itr", name := "<init>", desc := "(Ljava/util/ArrayList;)V" } : Jvm.MethodName) jdk_49_method_1_code (2 : Nat) (Option.none : Option Jvm.ClassFile.FieldType), Jvm.Cond.code ({ cls := "java/util/ArrayList$Itr", name := "hasNext", desc := "()Z" } : Jvm.MethodName) jdk_49_method_2_code (1 : Nat) (Option.some Jvm.ClassFile.FieldType.boolean), Jvm.Cond.code ({ cls := "java/util/ArrayList$Itr", name := "next", desc := "()Ljava/lang/Object;" } : Jvm.MethodName) jdk_49_method_3_code (3 : Nat) (Option.some (Jvm.ClassFile.FieldType.object "java/lang/Object")), Jvm.Cond.code ({ cls := "java/util/ArrayList$Itr", name := "checkForComodification", desc := "()V" } : Jvm.MethodName) jdk_49_method_6_code (1 : Nat) (Option.none : Option Jvm.ClassFile.FieldType), Jvm.Cond.code ({ cls := "com/example/nestor/nestor/engine/Index", name := "add", desc := "(I)V" } : Jvm.MethodName) prog_21_method_7_code (4 : Nat) (Option.none : Option Jvm.ClassFile.FieldType), Jvm.Cond.code ({ cls := "com/example/nestor/nestor/engine/Index", name := "keyOf", desc := "(I[I)V" } : Jvm.MethodName) prog_21_method_9_code (4 : Nat) (Option.none : Option Jvm.ClassFile.FieldType), Jvm.Cond.code ({ cls := "com/example/nestor/nestor/engine/Relation", name := "value", desc := "(II)I" } : Jvm.MethodName) prog_26_method_5_code (3 : Nat) (Option.some Jvm.ClassFile.FieldType.int), Jvm.Cond.code ({ cls := "com/example/nestor/nestor/engine/Relation", name := "advance", desc := "()Z" } : Jvm.MethodName) prog_26_method_17_code (1 : Nat) (Option.some Jvm.ClassFile.FieldType.boolean), Jvm.Cond.code ({ cls := "com/example/nestor/nestor/engine/Relation", name := "deltaStart", desc := "()I" } : Jvm.MethodName) prog_26_method_14_code (1 : Nat) (Option.some Jvm.ClassFile.FieldType.int), Jvm.Cond.code ({ cls := "com/example/nestor/nestor/engine/Relation", name := "deltaEnd", desc := "()I" } : Jvm.MethodName) prog_26_method_15_code (1 : Nat) (Option.some Jvm.ClassFile.FieldType.int), Jvm.Cond.code ({ cls := "com/example/nestor/nestor/engine/Index", name := "holds", desc := "(I[I)Z" } : Jvm.MethodName) prog_21_method_10_code (4 : Nat) (Option.some Jvm.ClassFile.FieldType.boolean)]
set_option maxRecDepth 65536 in
theorem codes_eq : words1.filter isCode = codes1 := rfl
theorem w_codes : ∀ c ∈ words1.filter isCode, c.before args0 about1 = true := by
  rw [codes_eq]
  intro c hc
  simp only [codes1, List.mem_cons, List.not_mem_nil, or_false] at hc
  rcases hc with rfl | rfl | rfl | rfl | rfl | rfl | rfl | rfl | rfl | rfl | rfl | rfl | rfl | rfl | rfl | rfl | rfl | rfl | rfl | rfl | rfl | rfl | rfl | rfl | rfl | rfl | rfl | rfl | rfl | rfl | rfl | rfl | rfl | rfl | rfl
  · exact w_c0
  · exact w_c1
  · exact w_c2
  · exact w_c3
  · exact w_c4
  · exact w_c5
  · exact w_c6
  · exact w_c7
  · exact w_c8
  · exact w_c9
  · exact w_c10
  · exact w_c11
  · exact w_c12
  · exact w_c13
  · exact w_c14
  · exact w_c15
  · exact w_c16
  · exact w_c17
  · exact w_c18
  · exact w_c19
  · exact w_c20
  · exact w_c21
  · exact w_c22
  · exact w_c23
  · exact w_c24
  · exact w_c25
  · exact w_c26
  · exact w_c27
  · exact w_c28
  · exact w_c29
  · exact w_c30
  · exact w_c31
  · exact w_c32
  · exact w_c33
  · exact w_c34
set_option maxRecDepth 65536 in
theorem w_t1 : (words1.take 24).all (fun c => isCode c || c.before args0 about1) = true := by decide +kernel
set_option maxRecDepth 65536 in
theorem w_t2 : ((words1.drop 24).take 24).all (fun c => isCode c || c.before args0 about1) = true := by decide +kernel
set_option maxRecDepth 65536 in
theorem w_t3 : (((words1.drop 24).drop 24).take 24).all (fun c => isCode c || c.before args0 about1) = true := by decide +kernel
set_option maxRecDepth 65536 in
theorem w_t4 : ((((words1.drop 24).drop 24).drop 24).take 24).all (fun c => isCode c || c.before args0 about1) = true := by decide +kernel
set_option maxRecDepth 65536 in
theorem w_t5 : (((((words1.drop 24).drop 24).drop 24).drop 24).take 24).all (fun c => isCode c || c.before args0 about1) = true := by decide +kernel
set_option maxRecDepth 65536 in
theorem w_t6 : ((((((words1.drop 24).drop 24).drop 24).drop 24).drop 24).take 24).all (fun c => isCode c || c.before args0 about1) = true := by decide +kernel
set_option maxRecDepth 65536 in
theorem w_t7 : (((((((words1.drop 24).drop 24).drop 24).drop 24).drop 24).drop 24).take 24).all (fun c => isCode c || c.before args0 about1) = true := by decide +kernel
set_option maxRecDepth 65536 in
theorem w_t8 : ((((((((words1.drop 24).drop 24).drop 24).drop 24).drop 24).drop 24).drop 24).take 24).all (fun c => isCode c || c.before args0 about1) = true := by decide +kernel
set_option maxRecDepth 65536 in
theorem w_t9 : (((((((((words1.drop 24).drop 24).drop 24).drop 24).drop 24).drop 24).drop 24).drop 24).take 24).all (fun c => isCode c || c.before args0 about1) = true := by decide +kernel
set_option maxRecDepth 65536 in
theorem w_t10 : ((((((((((words1.drop 24).drop 24).drop 24).drop 24).drop 24).drop 24).drop 24).drop 24).drop 24).take 24).all (fun c => isCode c || c.before args0 about1) = true := by decide +kernel
set_option maxRecDepth 65536 in
theorem w_t11 : ((((((((((words1.drop 24).drop 24).drop 24).drop 24).drop 24).drop 24).drop 24).drop 24).drop 24).drop 24).all (fun c => isCode c || c.before args0 about1) = true := by decide +kernel
theorem w_tables : (allAtoms (Jvm.Cond.code x code maxLocals ret :: tables_1)).before args0 about1 = true := by
  rw [allAtoms_all]
  show words1.all (fun c => c.before args0 about1) = true
  refine all_split ?_ w_codes
  rw [← List.take_append_drop 24 words1, List.all_append, w_t1, ← List.take_append_drop 24 (words1.drop 24), List.all_append, w_t2, ← List.take_append_drop 24 ((words1.drop 24).drop 24), List.all_append, w_t3, ← List.take_append_drop 24 (((words1.drop 24).drop 24).drop 24), List.all_append, w_t4, ← List.take_append_drop 24 ((((words1.drop 24).drop 24).drop 24).drop 24), List.all_append, w_t5, ← List.take_append_drop 24 (((((words1.drop 24).drop 24).drop 24).drop 24).drop 24), List.all_append, w_t6, ← List.take_append_drop 24 ((((((words1.drop 24).drop 24).drop 24).drop 24).drop 24).drop 24), List.all_append, w_t7, ← List.take_append_drop 24 (((((((words1.drop 24).drop 24).drop 24).drop 24).drop 24).drop 24).drop 24), List.all_append, w_t8, ← List.take_append_drop 24 ((((((((words1.drop 24).drop 24).drop 24).drop 24).drop 24).drop 24).drop 24).drop 24), List.all_append, w_t9, ← List.take_append_drop 24 (((((((((words1.drop 24).drop 24).drop 24).drop 24).drop 24).drop 24).drop 24).drop 24).drop 24), List.all_append, w_t10, w_t11]
  rfl
set_option maxRecDepth 65536 in
theorem w_rest : rest_1_c.before args0 about1 = true := by decide +kernel
set_option maxRecDepth 65536 in
theorem w_case : (Jvm.Cond.and given_1 narrow_1).before args0 about1 = true := by decide +kernel
theorem w_applies : (headSpec (Jvm.Cond.code x code maxLocals ret :: tables_1) room_1).applies x e0.platform about1 = true :=
  (Spec.applies_iff w_frames).mpr ⟨w_running, w_runnable, w_alone, w_named, w_hears, w_ripe, w_room, w_tables⟩
theorem atStart : AtStart classFile x code maxLocals ret World_1 tables_1 room_1 Calls_1 rest_1 Pre_1 launch0 p0 e0 about1 theMethod args0 below0 :=
  ⟨lists_1, trivial, launch0.admits_env _ _ _, launch0.least_env, fairChoices_fair.cas, fairChoices_fair.clock, w_frames, w_args, w_heap, w_applies, trivial, w_rest, w_case⟩
end start1
theorem witness_1 : WitnessClaimed_1 := ⟨start1.p0, start1.e0, start1.about1, start1.theMethod, start1.args0, start1.below0, start1.atStart⟩
end Jvm.Pilot.@@N@@
