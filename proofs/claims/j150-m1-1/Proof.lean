import JvmDerived
import JvmDerived.Pilot.@@N@@Statement
import JvmDerived.Pilot.@@N@@Code
set_option linter.unusedVariables false
set_option linter.unusedSimpArgs false
namespace Jvm.Ow
open Sem ClassFile Op Lib Jvm.Stand Jvm.Free Jvm.LawKit Jvm.RoadKit
def WideEnd (s : State) (o : Outcome) (t : State) (L : List Loc) (k n : Nat) : Prop :=
  (∃ v : Option Value, o = Outcome.returned v) ∧ s.Warmed39 t.vm ∧ (∀ (j : Nat) (p : Array UInt16 × Addr), s.vm.interned.size ≤ j → t.vm.interned[j]? = some p → s.heap.size ≤ p.2 ∧ p.2 < t.heap.size) ∧ s.sameButNew { t with vm := s.vm } L k n
def EndF (wd : Bool) (s : State) (o : Outcome) (t : State) (L : List Loc) (k n : Nat) : Prop := match wd with
  | true => WideEnd s o t L k n
  | false => FrameEnd s o t L k n
theorem EndF.of {wd : Bool} {s : State} {o : Outcome} {t : State} {L : List Loc} {k n : Nat} (h : FrameEnd s o t L k n) : EndF wd s o t L k n := by
  cases wd
  · exact h
  · exact wide h
def Cx (p : Program) (l : Launch) (e : Env) (R : Room) (m : MethodId) (args : Array Value) (below : List Frame) (meth : Method) (c : Code) (Z : State) (y : MethodName) (bytes : ByteArray) (ml : Nat) (ret : Option FieldType) (n0 : Nat) (wd : Bool) (F : Outcome → State → List Loc → Prop) (T : State) (h : Heap) (cells slots : Nat) : Prop :=
  ∃ s locs, Stand p l e R s m args below meth c T locs cells slots ∧ p.tables.exec = Jvm.exec ∧ c.code = bytes ∧ c.maxLocals = ml ∧ Z.Warmed39 s.vm ∧ s.vm.findClass y.cls = some m.cls ∧ meth.name = y.name ∧ meth.sig.returnType = ret ∧ meth.locks = false ∧ T.heap = h ∧ Fr n0 locs ∧ n0 ≤ s.heap.size ∧ ∀ o t L, h.size ≤ t.heap.size → EndF wd s o t L R.cells R.slots → F o t L
def Go (p : Program) (e : Env) (below : List Frame) (F : Outcome → State → List Loc → Prop) (n0 : Nat) (Q : Option Value → Heap → Prop) (T : State) (f : JFrame) : Prop :=
  ∃ s₂ o, Steps p.tables e below (T.setTop f) s₂ ∧ s₂.status = .running ∧ Ended s₂ below o ∧ ∃ v L, o = .returned v ∧ (Q v s₂.heap ∧ Fr n0 L ∧ n0 ≤ s₂.heap.size) ∧ F o s₂ L
def Ctr (l : Launch) (Z : State) (y : MethodName) (bytes : ByteArray) (ml : Nat) (ret : Option FieldType) (R : Room) (as' : Array Value) (h : Heap) (n0 : Nat) (Q : Option Value → Heap → Prop) : Prop :=
  ∀ ws : List Jvm.Cond, MetFree l y (head1 (Jvm.Cond.code y bytes ml ret :: ws) R) (fun a U => a = as' ∧ Z.Warmed39 U.vm ∧ U.heap = h) (fun _ _ _ _ _ => True) (fun _ U o U' => ∃ v L, o = .returned v ∧ ((Q v U'.heap ∧ h.size ≤ U'.heap.size) ∧ Fr n0 L) ∧ FrameEnd U o U' L R.cells R.slots)
section Layer
variable {p : Program} {l : Launch} {e : Env} {R : Room} {m : MethodId} {args : Array Value} {below : List Frame} {meth : Method} {c : Code} {T T' : State} {cells slots : Nat} {Z : State} {a0 : Array Value} {h : Heap} {y : MethodName} {bytes : ByteArray} {ml n0 : Nat} {ret : Option FieldType} {wd : Bool} {F : Outcome → State → List Loc → Prop} {Q : Option Value → Heap → Prop} {pc pc' : Nat} {L L' : Array Slot} {S : List Value}
theorem Ctr.body {as' : Array Value} (hpl : plainFor y = true) (hn : n0 ≤ h.size) (ef : ∀ m, entryFrame m as' ml = mkF m 0 L [])
    (k : ∀ (p : Program) (e : Env) (F : Outcome → State → List Loc → Prop) (m : MethodId) (below : List Frame) (meth : Method) (c : Code) (T : State), Cx p l e R m as' below meth c Z y bytes ml ret n0 false F T h 0 0 → Go p e below F n0 Q T (mkF m 0 L [])) : Ctr l Z y bytes ml ret R as' h n0 Q := by
  intro ws
  refine MetFree.of_bodySF hpl hisR ?_
  intro p e s m args below meth c s₁ Bd hml0 hP hK
  obtain ⟨rfl, hZ, hh⟩ := hP
  obtain ⟨s₂, o, g1, g2, g3, v, L9, g4, ⟨g5, g6, -⟩, g7⟩ := k p e (fun o t L => FrameEnd s o t L R.cells R.slots) m below meth c s₁ ⟨s, [], Stand.of_body Bd, Bd.exec, Bd.bytes, hml0, hZ, findClass_of_methodNamed Bd.named, (name_of_methodNamed Bd.named Bd.method).1, Bd.returns, Bd.notSynchronized, by rw [← hh, Bd.state]; rfl, Fr.nil n0, by rw [hh]; exact hn, fun _ _ _ _ q => q⟩
  rw [ef m]
  exact ⟨s₂, o, g1, g2, g3, v, L9, g4, ⟨⟨g5, by rw [← hh]; exact g7.2.2.2.1⟩, g6⟩, g7⟩
theorem Go.via {f f' : JFrame} (k : Go p e below F n0 Q T' f') (hs : ∀ t, Steps p.tables e below (T'.setTop f') t → Steps p.tables e below (T.setTop f) t) : Go p e below F n0 Q T f := by
  obtain ⟨s₂, o, h1, h2⟩ := k; exact ⟨s₂, o, hs _ h1, h2⟩
theorem Cx.size (C : Cx p l e R m args below meth c Z y bytes ml ret n0 wd F T h cells slots) : n0 ≤ h.size := by
  obtain ⟨s, locs, X, -, -, -, -, -, -, -, -, rfl, -, hn, -⟩ := C
  exact Nat.le_trans hn X.same.2.1
theorem Cx.iloadN (C : Cx p l e R m args below meth c Z y bytes ml ret n0 wd F T h cells slots) {k : Fin 4} {v : Int32} (hd : decode bytes pc = .ok (.iload_n k, 1)) (hp : pc + 1 = pc') (hl : L[k.val]? = some (.val (.int v))) (K : Go p e below F n0 Q T (mkF m pc' L (.int v :: S))) : Go p e below F n0 Q T (mkF m pc L S) := by
  obtain ⟨s, locs, X, hx, rfl, -⟩ := C; subst hp
  exact K.via fun t k => XS.iloadN X.here hx rfl hd hl k
theorem Cx.iload (C : Cx p l e R m args below meth c Z y bytes ml ret n0 wd F T h cells slots) {k : Nat} {v : Int32} (hd : decode bytes pc = .ok (.iload k, 2)) (hp : pc + 2 = pc') (hl : L[k]? = some (.val (.int v))) (K : Go p e below F n0 Q T (mkF m pc' L (.int v :: S))) : Go p e below F n0 Q T (mkF m pc L S) := by
  obtain ⟨s, locs, X, hx, rfl, -⟩ := C; subst hp
  exact K.via fun t k => XS.iload X.here hx rfl hd hl k
theorem Cx.istoreN (C : Cx p l e R m args below meth c Z y bytes ml ret n0 wd F T h cells slots) {k : Fin 4} {x : Int32} (hd : decode bytes pc = .ok (.istore_n k, 1)) (hp : pc + 1 = pc') (hl : storeLocals L k.val (.int x) = some L') (K : Go p e below F n0 Q T (mkF m pc' L' S)) : Go p e below F n0 Q T (mkF m pc L (.int x :: S)) := by
  obtain ⟨s, locs, X, hx, rfl, -⟩ := C; subst hp
  exact K.via fun t k => XS.istoreN X.here hx rfl hd rfl hl k
theorem Cx.istoreNV (C : Cx p l e R m args below meth c Z y bytes ml ret n0 wd F T h cells slots) {k : Fin 4} {x : Int32} (Lf : Int32 → Array Slot) (hd : decode bytes pc = .ok (.istore_n k, 1)) (hp : pc + 1 = pc') (hl : ∀ v, storeLocals L k.val (.int v) = some (Lf v)) (K : ∀ v, v = x → Go p e below F n0 Q T (mkF m pc' (Lf v) S)) : Go p e below F n0 Q T (mkF m pc L (.int x :: S)) :=
  C.istoreN hd hp (hl x) (K x rfl)
theorem Cx.istore (C : Cx p l e R m args below meth c Z y bytes ml ret n0 wd F T h cells slots) {k : Nat} {x : Int32} (hd : decode bytes pc = .ok (.istore k, 2)) (hp : pc + 2 = pc') (hl : storeLocals L k (.int x) = some L') (K : Go p e below F n0 Q T (mkF m pc' L' S)) : Go p e below F n0 Q T (mkF m pc L (.int x :: S)) := by
  obtain ⟨s, locs, X, hx, rfl, -⟩ := C; subst hp
  exact K.via fun t k => XS.istore X.here hx rfl hd rfl hl k
theorem Cx.istoreV (C : Cx p l e R m args below meth c Z y bytes ml ret n0 wd F T h cells slots) {k : Nat} {x : Int32} (Lf : Int32 → Array Slot) (hd : decode bytes pc = .ok (.istore k, 2)) (hp : pc + 2 = pc') (hl : ∀ v, storeLocals L k (.int v) = some (Lf v)) (K : ∀ v, v = x → Go p e below F n0 Q T (mkF m pc' (Lf v) S)) : Go p e below F n0 Q T (mkF m pc L (.int x :: S)) :=
  C.istore hd hp (hl x) (K x rfl)
theorem Cx.lload (C : Cx p l e R m args below meth c Z y bytes ml ret n0 wd F T h cells slots) {k : Nat} {v : Int64} (hd : decode bytes pc = .ok (.lload k, 2)) (hp : pc + 2 = pc') (hl : L[k]? = some (.val (.long v))) (K : Go p e below F n0 Q T (mkF m pc' L (.long v :: S))) : Go p e below F n0 Q T (mkF m pc L S) := by
  obtain ⟨s, locs, X, hx, rfl, -⟩ := C; subst hp
  exact K.via fun t k => XT.lload X.here hx rfl hd hl k
theorem Cx.lstore (C : Cx p l e R m args below meth c Z y bytes ml ret n0 wd F T h cells slots) {k : Nat} {x : Int64} (hd : decode bytes pc = .ok (.lstore k, 2)) (hp : pc + 2 = pc') (hl : storeLocals L k (.long x) = some L') (K : Go p e below F n0 Q T (mkF m pc' L' S)) : Go p e below F n0 Q T (mkF m pc L (.long x :: S)) := by
  obtain ⟨s, locs, X, hx, rfl, -⟩ := C; subst hp
  exact K.via fun t k => XT.lstore X.here hx rfl hd rfl hl k
theorem Cx.lstoreV (C : Cx p l e R m args below meth c Z y bytes ml ret n0 wd F T h cells slots) {k : Nat} {x : Int64} (Lf : Int64 → Array Slot) (hd : decode bytes pc = .ok (.lstore k, 2)) (hp : pc + 2 = pc') (hl : ∀ v, storeLocals L k (.long v) = some (Lf v)) (K : ∀ v, v = x → Go p e below F n0 Q T (mkF m pc' (Lf v) S)) : Go p e below F n0 Q T (mkF m pc L (.long x :: S)) :=
  C.lstore hd hp (hl x) (K x rfl)
theorem Cx.iconst (C : Cx p l e R m args below meth c Z y bytes ml ret n0 wd F T h cells slots) {i : Int} (v : Int32) (hd : decode bytes pc = .ok (.iconst i, 1)) (hp : pc + 1 = pc') (hv : Int32.ofInt i = v) (K : Go p e below F n0 Q T (mkF m pc' L (.int v :: S))) : Go p e below F n0 Q T (mkF m pc L S) := by
  obtain ⟨s, locs, X, hx, rfl, -⟩ := C; subst hp
  exact K.via fun t k => XT.iconstV X.here hx rfl v hd hv k
theorem Cx.bipush (C : Cx p l e R m args below meth c Z y bytes ml ret n0 wd F T h cells slots) {i : Int} (v : Int32) (hd : decode bytes pc = .ok (.bipush i, 2)) (hp : pc + 2 = pc') (hv : (Int8.ofInt i).toInt32 = v) (K : Go p e below F n0 Q T (mkF m pc' L (.int v :: S))) : Go p e below F n0 Q T (mkF m pc L S) := by
  obtain ⟨s, locs, X, hx, rfl, -⟩ := C; subst hp
  exact K.via fun t k => XT.bipushV X.here hx rfl v hd hv k
theorem Cx.sipush (C : Cx p l e R m args below meth c Z y bytes ml ret n0 wd F T h cells slots) {i : Int} (v : Int32) (hd : decode bytes pc = .ok (.sipush i, 3)) (hp : pc + 3 = pc') (hv : (Int16.ofInt i).toInt32 = v) (K : Go p e below F n0 Q T (mkF m pc' L (.int v :: S))) : Go p e below F n0 Q T (mkF m pc L S) := by
  obtain ⟨s, locs, X, hx, rfl, -⟩ := C; subst hp
  exact K.via fun t k => XT.sipushV X.here hx rfl v hd hv k
theorem Cx.lconst (C : Cx p l e R m args below meth c Z y bytes ml ret n0 wd F T h cells slots) {i : Fin 2} (v : Int64) (hd : decode bytes pc = .ok (.lconst i, 1)) (hp : pc + 1 = pc') (hv : Int64.ofNat i = v) (K : Go p e below F n0 Q T (mkF m pc' L (.long v :: S))) : Go p e below F n0 Q T (mkF m pc L S) := by
  obtain ⟨s, locs, X, hx, rfl, -⟩ := C; subst hp
  exact K.via fun t k => XT.lconstV X.here hx rfl v hd hv k
theorem Cx.isub (C : Cx p l e R m args below meth c Z y bytes ml ret n0 wd F T h cells slots) {x z : Int32} (hd : decode bytes pc = .ok (.isub, 1)) (hp : pc + 1 = pc')  (K : Go p e below F n0 Q T (mkF m pc' L (.int (x - z) :: S))) : Go p e below F n0 Q T (mkF m pc L (.int z :: .int x :: S)) := by
  obtain ⟨s, locs, X, hx, rfl, -⟩ := C; subst hp
  exact K.via fun t k => XS.isub X.here hx rfl hd rfl k
theorem Cx.iand (C : Cx p l e R m args below meth c Z y bytes ml ret n0 wd F T h cells slots) {x z : Int32} (hd : decode bytes pc = .ok (.iand, 1)) (hp : pc + 1 = pc')  (K : Go p e below F n0 Q T (mkF m pc' L (.int (x &&& z) :: S))) : Go p e below F n0 Q T (mkF m pc L (.int z :: .int x :: S)) := by
  obtain ⟨s, locs, X, hx, rfl, -⟩ := C; subst hp
  exact K.via fun t k => XS.iand X.here hx rfl hd rfl k
theorem Cx.lsub (C : Cx p l e R m args below meth c Z y bytes ml ret n0 wd F T h cells slots) {x z : Int64} (hd : decode bytes pc = .ok (.lsub, 1)) (hp : pc + 1 = pc')  (K : Go p e below F n0 Q T (mkF m pc' L (.long (x - z) :: S))) : Go p e below F n0 Q T (mkF m pc L (.long z :: .long x :: S)) := by
  obtain ⟨s, locs, X, hx, rfl, -⟩ := C; subst hp
  exact K.via fun t k => XT.lsub X.here hx rfl hd rfl k
theorem Cx.i2l (C : Cx p l e R m args below meth c Z y bytes ml ret n0 wd F T h cells slots) {x : Int32} (hd : decode bytes pc = .ok (.i2l, 1)) (hp : pc + 1 = pc')  (K : Go p e below F n0 Q T (mkF m pc' L (.long (x.toInt64) :: S))) : Go p e below F n0 Q T (mkF m pc L (.int x :: S)) := by
  obtain ⟨s, locs, X, hx, rfl, -⟩ := C; subst hp
  exact K.via fun t k => XT.i2l X.here hx rfl hd rfl k
theorem Cx.goto (C : Cx p l e R m args below meth c Z y bytes ml ret n0 wd F T h cells slots) {o : Int} (hd : decode bytes pc = .ok (.goto o, 3)) (ho : 0 ≤ (pc : Int) + o) (hp : ((pc : Int) + o).toNat = pc') (K : Go p e below F n0 Q T (mkF m pc' L S)) : Go p e below F n0 Q T (mkF m pc L S) := by
  obtain ⟨s, locs, X, hx, rfl, -⟩ := C
  exact K.via fun t k => XS.goto X.here hx rfl rfl hd ho hp k
theorem Cx.icmp_eq (C : Cx p l e R m args below meth c Z y bytes ml ret n0 wd F T h cells slots) {x z : Int32} {o : Int} {py pn : Nat} (hd : decode bytes pc = .ok (.if_icmp .eq o, 3)) (ho : 0 ≤ (pc : Int) + o) (hy : ((pc : Int) + o).toNat = py) (hn : pc + 3 = pn) (K1 : x = z → Go p e below F n0 Q T (mkF m py L S)) (K2 : ¬ x = z → Go p e below F n0 Q T (mkF m pn L S)) : Go p e below F n0 Q T (mkF m pc L (.int z :: .int x :: S)) := by
  obtain ⟨s, locs, X, hx, rfl, -⟩ := C; subst hn
  by_cases q : x = z
  · exact (K1 q).via fun t k => XS.icmpYes X.here hx rfl rfl hd rfl (XT.ii_eq_t q) ho hy k
  · exact (K2 q).via fun t k => XS.icmpNo X.here hx rfl hd rfl (XT.ii_eq_f q) k
theorem Cx.if_eq (C : Cx p l e R m args below meth c Z y bytes ml ret n0 wd F T h cells slots) {x : Int32} {o : Int} {py pn : Nat} (hd : decode bytes pc = .ok (.ifCond .eq o, 3)) (ho : 0 ≤ (pc : Int) + o) (hy : ((pc : Int) + o).toNat = py) (hn : pc + 3 = pn) (K1 : x = (0 : Int32) → Go p e below F n0 Q T (mkF m py L S)) (K2 : ¬ x = (0 : Int32) → Go p e below F n0 Q T (mkF m pn L S)) : Go p e below F n0 Q T (mkF m pc L (.int x :: S)) := by
  obtain ⟨s, locs, X, hx, rfl, -⟩ := C; subst hn
  by_cases q : x = (0 : Int32)
  · exact (K1 q).via fun t k => XS.ifYes X.here hx rfl rfl hd rfl (XT.i0_eq_t q) ho hy k
  · exact (K2 q).via fun t k => XS.ifNo X.here hx rfl hd rfl (XT.i0_eq_f q) k
theorem Cx.icmp_ne (C : Cx p l e R m args below meth c Z y bytes ml ret n0 wd F T h cells slots) {x z : Int32} {o : Int} {py pn : Nat} (hd : decode bytes pc = .ok (.if_icmp .ne o, 3)) (ho : 0 ≤ (pc : Int) + o) (hy : ((pc : Int) + o).toNat = py) (hn : pc + 3 = pn) (K1 : ¬ x = z → Go p e below F n0 Q T (mkF m py L S)) (K2 : x = z → Go p e below F n0 Q T (mkF m pn L S)) : Go p e below F n0 Q T (mkF m pc L (.int z :: .int x :: S)) := by
  obtain ⟨s, locs, X, hx, rfl, -⟩ := C; subst hn
  by_cases q : x = z
  · exact (K2 q).via fun t k => XS.icmpNo X.here hx rfl hd rfl (XT.ii_ne_f q) k
  · exact (K1 q).via fun t k => XS.icmpYes X.here hx rfl rfl hd rfl (XT.ii_ne_t q) ho hy k
theorem Cx.if_ne (C : Cx p l e R m args below meth c Z y bytes ml ret n0 wd F T h cells slots) {x : Int32} {o : Int} {py pn : Nat} (hd : decode bytes pc = .ok (.ifCond .ne o, 3)) (ho : 0 ≤ (pc : Int) + o) (hy : ((pc : Int) + o).toNat = py) (hn : pc + 3 = pn) (K1 : ¬ x = (0 : Int32) → Go p e below F n0 Q T (mkF m py L S)) (K2 : x = (0 : Int32) → Go p e below F n0 Q T (mkF m pn L S)) : Go p e below F n0 Q T (mkF m pc L (.int x :: S)) := by
  obtain ⟨s, locs, X, hx, rfl, -⟩ := C; subst hn
  by_cases q : x = (0 : Int32)
  · exact (K2 q).via fun t k => XS.ifNo X.here hx rfl hd rfl (XT.i0_ne_f q) k
  · exact (K1 q).via fun t k => XS.ifYes X.here hx rfl rfl hd rfl (XT.i0_ne_t q) ho hy k
theorem Cx.lif_ne (C : Cx p l e R m args below meth c Z y bytes ml ret n0 wd F T h cells slots) {x z : Int64} {o : Int} {p1 py pn : Nat} (hd1 : decode bytes pc = .ok (.lcmp, 1)) (hp1 : pc + 1 = p1) (hd : decode bytes p1 = .ok (.ifCond .ne o, 3)) (ho : 0 ≤ (p1 : Int) + o) (hy : ((p1 : Int) + o).toNat = py) (hn : p1 + 3 = pn) (K1 : ¬ x = z → Go p e below F n0 Q T (mkF m py L S)) (K2 : x = z → Go p e below F n0 Q T (mkF m pn L S)) : Go p e below F n0 Q T (mkF m pc L (.long z :: .long x :: S)) := by
  obtain ⟨s, locs, X, hx, rfl, -⟩ := C; subst hn; subst hp1
  by_cases q : x = z
  · exact (K2 q).via fun t k => XT.lcmp X.here hx rfl hd1 rfl (XS.ifNo X.here hx rfl hd rfl (XT.ll_ne_f q) k)
  · exact (K1 q).via fun t k => XT.lcmp X.here hx rfl hd1 rfl (XS.ifYes X.here hx rfl rfl hd rfl (XT.ll_ne_t q) ho hy k)
theorem Cx.icmp_lt (C : Cx p l e R m args below meth c Z y bytes ml ret n0 wd F T h cells slots) {x z : Int32} {o : Int} {py pn : Nat} (hd : decode bytes pc = .ok (.if_icmp .lt o, 3)) (ho : 0 ≤ (pc : Int) + o) (hy : ((pc : Int) + o).toNat = py) (hn : pc + 3 = pn) (K1 : x < z → Go p e below F n0 Q T (mkF m py L S)) (K2 : ¬ x < z → Go p e below F n0 Q T (mkF m pn L S)) : Go p e below F n0 Q T (mkF m pc L (.int z :: .int x :: S)) := by
  obtain ⟨s, locs, X, hx, rfl, -⟩ := C; subst hn
  by_cases q : x < z
  · exact (K1 q).via fun t k => XS.icmpYes X.here hx rfl rfl hd rfl (XT.ii_lt_t q) ho hy k
  · exact (K2 q).via fun t k => XS.icmpNo X.here hx rfl hd rfl (XT.ii_lt_f q) k
theorem Cx.lif_lt (C : Cx p l e R m args below meth c Z y bytes ml ret n0 wd F T h cells slots) {x z : Int64} {o : Int} {p1 py pn : Nat} (hd1 : decode bytes pc = .ok (.lcmp, 1)) (hp1 : pc + 1 = p1) (hd : decode bytes p1 = .ok (.ifCond .lt o, 3)) (ho : 0 ≤ (p1 : Int) + o) (hy : ((p1 : Int) + o).toNat = py) (hn : p1 + 3 = pn) (K1 : x < z → Go p e below F n0 Q T (mkF m py L S)) (K2 : ¬ x < z → Go p e below F n0 Q T (mkF m pn L S)) : Go p e below F n0 Q T (mkF m pc L (.long z :: .long x :: S)) := by
  obtain ⟨s, locs, X, hx, rfl, -⟩ := C; subst hn; subst hp1
  by_cases q : x < z
  · exact (K1 q).via fun t k => XT.lcmp X.here hx rfl hd1 rfl (XS.ifYes X.here hx rfl rfl hd rfl (XT.ll_lt_t q) ho hy k)
  · exact (K2 q).via fun t k => XT.lcmp X.here hx rfl hd1 rfl (XS.ifNo X.here hx rfl hd rfl (XT.ll_lt_f q) k)
theorem Cx.lif_ge (C : Cx p l e R m args below meth c Z y bytes ml ret n0 wd F T h cells slots) {x z : Int64} {o : Int} {p1 py pn : Nat} (hd1 : decode bytes pc = .ok (.lcmp, 1)) (hp1 : pc + 1 = p1) (hd : decode bytes p1 = .ok (.ifCond .ge o, 3)) (ho : 0 ≤ (p1 : Int) + o) (hy : ((p1 : Int) + o).toNat = py) (hn : p1 + 3 = pn) (K1 : ¬ x < z → Go p e below F n0 Q T (mkF m py L S)) (K2 : x < z → Go p e below F n0 Q T (mkF m pn L S)) : Go p e below F n0 Q T (mkF m pc L (.long z :: .long x :: S)) := by
  obtain ⟨s, locs, X, hx, rfl, -⟩ := C; subst hn; subst hp1
  by_cases q : x < z
  · exact (K2 q).via fun t k => XT.lcmp X.here hx rfl hd1 rfl (XS.ifNo X.here hx rfl hd rfl (XT.ll_ge_f q) k)
  · exact (K1 q).via fun t k => XT.lcmp X.here hx rfl hd1 rfl (XS.ifYes X.here hx rfl rfl hd rfl (XT.ll_ge_t q) ho hy k)
theorem Cx.icmp_gt (C : Cx p l e R m args below meth c Z y bytes ml ret n0 wd F T h cells slots) {x z : Int32} {o : Int} {py pn : Nat} (hd : decode bytes pc = .ok (.if_icmp .gt o, 3)) (ho : 0 ≤ (pc : Int) + o) (hy : ((pc : Int) + o).toNat = py) (hn : pc + 3 = pn) (K1 : z < x → Go p e below F n0 Q T (mkF m py L S)) (K2 : ¬ z < x → Go p e below F n0 Q T (mkF m pn L S)) : Go p e below F n0 Q T (mkF m pc L (.int z :: .int x :: S)) := by
  obtain ⟨s, locs, X, hx, rfl, -⟩ := C; subst hn
  by_cases q : z < x
  · exact (K1 q).via fun t k => XS.icmpYes X.here hx rfl rfl hd rfl (XT.ii_gt_t q) ho hy k
  · exact (K2 q).via fun t k => XS.icmpNo X.here hx rfl hd rfl (XT.ii_gt_f q) k
theorem Cx.icmp_le (C : Cx p l e R m args below meth c Z y bytes ml ret n0 wd F T h cells slots) {x z : Int32} {o : Int} {py pn : Nat} (hd : decode bytes pc = .ok (.if_icmp .le o, 3)) (ho : 0 ≤ (pc : Int) + o) (hy : ((pc : Int) + o).toNat = py) (hn : pc + 3 = pn) (K1 : ¬ z < x → Go p e below F n0 Q T (mkF m py L S)) (K2 : z < x → Go p e below F n0 Q T (mkF m pn L S)) : Go p e below F n0 Q T (mkF m pc L (.int z :: .int x :: S)) := by
  obtain ⟨s, locs, X, hx, rfl, -⟩ := C; subst hn
  by_cases q : z < x
  · exact (K2 q).via fun t k => XS.icmpNo X.here hx rfl hd rfl (XT.ii_le_f q) k
  · exact (K1 q).via fun t k => XS.icmpYes X.here hx rfl rfl hd rfl (XT.ii_le_t q) ho hy k
theorem Cx.done (C : Cx p l e R m args below meth c Z y bytes ml ret n0 wd F T h cells slots) {v : Option Value} (hv : ret = none → v = none) (hc : cells ≤ R.cells) (hs : slots ≤ R.slots) (hq : Q v h) {f : JFrame}
    (k : ∀ s locs fs, Stand p l e R s m args below meth c T locs cells slots → (∀ (f : JFrame) (acts : List Action), f.method = m → f.locked = none → f.entered = [] → (doReturn e (T.setTop f) acts v).1 = T.setFrames fs) → Steps p.tables e below (T.setTop f) (T.setFrames fs)) : Go p e below F n0 Q T f := by
  have hz := C.size
  obtain ⟨s, locs, X, hx, rfl, rfl, hZ, hown, hnm, rfl, hlk, rfl, N, hn, hF⟩ := C
  obtain ⟨fs, hr, hrun, hended, hW, hsame⟩ := X.leave (v := v) hv
  exact ⟨_, _, k s locs fs X hr, hrun, hended, v, locs, rfl, ⟨hq, N, hz⟩, hF _ _ _ (Nat.le_refl _) (EndF.of ⟨⟨v, rfl⟩, hW, hsame.mono hc hs⟩)⟩
theorem Cx.retN (C : Cx p l e R m args below meth c Z y bytes ml ret n0 wd F T h cells slots) {z w : Int32} {t : FieldType} (hd : decode bytes pc = .ok (.ireturn, 1)) (hret : ret = some t) (ht : t = .boolean ∨ t = .byte ∨ t = .char ∨ t = .short) (hc : cells ≤ R.cells) (hs : slots ≤ R.slots) (hw : nar t z = w) (hq : Q (some (.int w)) h) : Go p e below F n0 Q T (mkF m pc L (.int z :: S)) := by
  subst hw
  refine C.done (fun q => by rw [hret] at q; cases q) hc hs hq fun s locs fs X hr => ?_
  obtain ⟨_, _, -, hx, rfl, -, -, -, -, rfl, -⟩ := C
  exact Jvm.RoadKit.retN X hx hret ht hd hr
theorem Cx.ldc (C : Cx p l e R m args below meth c Z y bytes ml ret n0 wd F T h cells slots) {idx : Nat} {v : Int32} (w : (Jvm.Cond.constant y.cls idx v).before a0 Z = true) (hd : decode bytes pc = .ok (.ldc idx, 2)) (hp : pc + 2 = pc') (K : Go p e below F n0 Q T (mkF m pc' L (.int v :: S))) : Go p e below F n0 Q T (mkF m pc L S) := by
  obtain ⟨s, locs, X, hx, rfl, rfl, hZ, hown, -⟩ := C; subst hp
  exact K.via fun t k => X.ldcInt hx hown (mvT hZ w) (g := mkF m pc L S) rfl hd t k
theorem Cx.ldc2 (C : Cx p l e R m args below meth c Z y bytes ml ret n0 wd F T h cells slots) {idx : Nat} {v : Int64} (w : (Jvm.Cond.constantLong y.cls idx v).before a0 Z = true) (hd : decode bytes pc = .ok (.ldc2_w idx, 3)) (hp : pc + 3 = pc') (K : Go p e below F n0 Q T (mkF m pc' L (.long v :: S))) : Go p e below F n0 Q T (mkF m pc L S) := by
  obtain ⟨s, locs, X, hx, rfl, rfl, hZ, hown, -⟩ := C; subst hp
  exact K.via fun t k => X.ldc2Long hx hown (mvT hZ w) (g := mkF m pc L S) rfl hd t k
theorem Cx.callS (C : Cx p l e R m args below meth c Z y bytes ml ret n0 wd F T h cells slots) {idx : Nat} {y' : MethodName} {bytes' : ByteArray} {ml' : Nat} {ret' : Option FieldType} {R' : Room} {Q' : Option Value → Heap → Prop} {argsL : List Value} (w1 : (Jvm.Cond.methodLink y.cls idx y').before a0 Z = true) (w2 : (Jvm.Cond.static y').before a0 Z = true) (w3 : (Jvm.Cond.initialized y'.cls).before a0 Z = true) (w4 : (Jvm.Cond.code y' bytes' ml' ret').before a0 Z = true)
    (hy : y'.cls ≠ "java/lang/invoke/MethodHandle" ∧ y'.cls ≠ "java/lang/invoke/VarHandle") (M : Ctr l Z y' bytes' ml' ret' R' argsL.toArray h n0 Q') {ps : List FieldType} {rt : Option FieldType} (hpd : parseMethodDescriptor y'.desc = some ⟨ps, rt⟩) (hlen : argsL.length = ps.length)
    (W : Nat) (hf : R'.frames + 1 ≤ R.frames) (hl : W + (ml' + 11) + R'.locals ≤ R.locals) (hc : cells + R'.cells ≤ R.cells) (hs : slots + R'.slots ≤ R.slots) {rest : List Value} (hst : S = argsL.reverse ++ rest) (hsz : L.size = ml) (hW : (rest.map fun v => v.category).sum ≤ W)
    (hd : decode bytes pc = .ok (.invokestatic idx, 3)) (hp : pc + 3 = pc') (K : ∀ v T' h', Cx p l e R m args below meth c Z y bytes ml ret n0 wd F T' h' (cells + R'.cells) (slots + R'.slots) → Q' v h' → Go p e below F n0 Q T' (mkF m pc' L (v.toList ++ rest))) : Go p e below F n0 Q T (mkF m pc L S) := by
  obtain ⟨s, locs, X, hx, rfl, rfl, hZ, hown, hnm, hr, hlk, eT, N, hn, hF⟩ := C; subst hp
  obtain ⟨v, _, ⟨T', L', k', n'⟩, -, X', ⟨Lc, hQ, e1, e2, e3⟩, st⟩ := Jvm.LawKit.callS X hx (y := y') hown (mvT hZ w1) (mvT hZ w2) (mvT hZ w3) (mvT hZ w4) hy (backOf (W := W) (Q := fun v h9 L => (Q' v h9 ∧ h.size ≤ h9.size) ∧ Fr n0 L) (M []) hZ w4 w3 hf hl) (g := mkF m pc L S) rfl hsz (argsL := argsL) (rest := rest) (lenOf hpd hlen) hst (by show 2 * 0 + _ ≤ _; omega) hd (fun _ _ => ⟨rfl, eT, hc, hs⟩)
  dsimp only [Pt.U, Pt.locs, Pt.cells, Pt.slots] at X' e1 e2 e3 st hQ
  subst e1 e2 e3
  exact (K v T' T'.heap ⟨s, _, X', hx, rfl, rfl, hZ, hown, hnm, hr, hlk, rfl, N.app hQ.2, hn, fun o t L q => hF o t L (Nat.le_trans hQ.1.2 q)⟩ hQ.1.1).via st
theorem Cx.callSP (C : Cx p l e R m args below meth c Z y bytes ml ret n0 wd F T h cells slots) {idx : Nat} {y' : MethodName} {bytes' : ByteArray} {ml' : Nat} {ret' : Option FieldType} {R' : Room} {argsL : List Value} {w : Value} (w1 : (Jvm.Cond.methodLink y.cls idx y').before a0 Z = true) (w2 : (Jvm.Cond.static y').before a0 Z = true) (w3 : (Jvm.Cond.initialized y'.cls).before a0 Z = true) (w4 : (Jvm.Cond.code y' bytes' ml' ret').before a0 Z = true)
    (hy : y'.cls ≠ "java/lang/invoke/MethodHandle" ∧ y'.cls ≠ "java/lang/invoke/VarHandle") (M : Ctr l Z y' bytes' ml' ret' R' argsL.toArray h n0 (fun v h' => v = some w ∧ h' = h)) {ps : List FieldType} {rt : Option FieldType} (hpd : parseMethodDescriptor y'.desc = some ⟨ps, rt⟩) (hlen : argsL.length = ps.length)
    (W : Nat) (hf : R'.frames + 1 ≤ R.frames) (hl : W + (ml' + 11) + R'.locals ≤ R.locals) (hc : R'.cells = 0) (hs : R'.slots = 0) (hcc : cells ≤ R.cells) (hss : slots ≤ R.slots) {rest : List Value} (hst : S = argsL.reverse ++ rest) (hsz : L.size = ml) (hW : (rest.map fun v => v.category).sum ≤ W)
    (hd : decode bytes pc = .ok (.invokestatic idx, 3)) (hp : pc + 3 = pc') (K : ∀ T', Cx p l e R m args below meth c Z y bytes ml ret n0 wd F T' h cells slots → Go p e below F n0 Q T' (mkF m pc' L (w :: rest))) : Go p e below F n0 Q T (mkF m pc L S) :=
  C.callS w1 w2 w3 w4 hy M hpd hlen W hf hl (by omega) (by omega) hst hsz hW hd hp fun v T' h' C' hq => by
    obtain ⟨rfl, hh⟩ := hq
    have hh := hh.symm; subst hh
    rw [hc, hs] at C'
    exact K T' C'
end Layer
end Jvm.Ow
namespace Jvm.Pilot.@@N@@
open Jvm Jvm.ClassFile Sem Op Lib Jvm.Free Jvm.Stand Jvm.LawKit Jvm.RoadKit Bundle Jvm.Ow Jvm.Pilot.@@N@@.Jvm.D
theorem own_eqite {α : Type} {P : Prop} [Decidable P] {u a b : α} : (u = if P then a else b) ↔ ((P ∧ u = a) ∨ (¬ P ∧ u = b)) := by by_cases h : P <;> simp [h]
theorem own_iteeq {α : Type} {P : Prop} [Decidable P] {u a b : α} : ((if P then a else b) = u) ↔ ((P ∧ a = u) ∨ (¬ P ∧ b = u)) := by by_cases h : P <;> simp [h]

def f1 (i0 : Int32) : Int32 := if i0 < (97 : Int32) then if i0 < (65 : Int32) then if i0 < (48 : Int32) then if i0 = (95 : Int32) then (1 : Int32) else ((0 : Int32)) else (if (57 : Int32) < i0 then if i0 = (95 : Int32) then (1 : Int32) else ((0 : Int32)) else ((1 : Int32))) else (if (90 : Int32) < i0 then if i0 < (48 : Int32) then if i0 = (95 : Int32) then (1 : Int32) else ((0 : Int32)) else (if (57 : Int32) < i0 then if i0 = (95 : Int32) then (1 : Int32) else ((0 : Int32)) else ((1 : Int32))) else ((1 : Int32))) else (if (122 : Int32) < i0 then if i0 < (65 : Int32) then if i0 < (48 : Int32) then if i0 = (95 : Int32) then (1 : Int32) else ((0 : Int32)) else (if (57 : Int32) < i0 then if i0 = (95 : Int32) then (1 : Int32) else ((0 : Int32)) else ((1 : Int32))) else (if (90 : Int32) < i0 then if i0 < (48 : Int32) then if i0 = (95 : Int32) then (1 : Int32) else ((0 : Int32)) else (if (57 : Int32) < i0 then if i0 = (95 : Int32) then (1 : Int32) else ((0 : Int32)) else ((1 : Int32))) else ((1 : Int32))) else ((1 : Int32)))
theorem pn1 : plainName "com/example/nestor/nestor/lang/Identifiers" = true := by first | (simp [plainName, overriddenIn]; done) | decide +kernel
theorem pd1 : parseMethodDescriptor "(I)Z" = some ⟨[.int], some .boolean⟩ := by decide +kernel
theorem ef1 (m : MethodId) (i0 : Int32) : entryFrame m #[(.int i0)] 1 = mkF m 0 #[.val (.int i0)] [] := by first | (simp [entryFrame, mkF, argsToLocals, Value.category]; done) | rfl
theorem d1_0 : decode prog_47_method_4_code 0 = .ok (.iload_n 0, 1) := by decide +kernel
theorem d1_1 : decode prog_47_method_4_code 1 = .ok (.bipush 97, 2) := by decide +kernel
theorem d1_3 : decode prog_47_method_4_code 3 = .ok (.if_icmp .lt 9, 3) := by decide +kernel
theorem d1_6 : decode prog_47_method_4_code 6 = .ok (.iload_n 0, 1) := by decide +kernel
theorem d1_7 : decode prog_47_method_4_code 7 = .ok (.bipush 122, 2) := by decide +kernel
theorem d1_9 : decode prog_47_method_4_code 9 = .ok (.if_icmp .le 33, 3) := by decide +kernel
theorem d1_12 : decode prog_47_method_4_code 12 = .ok (.iload_n 0, 1) := by decide +kernel
theorem d1_13 : decode prog_47_method_4_code 13 = .ok (.bipush 65, 2) := by decide +kernel
theorem d1_15 : decode prog_47_method_4_code 15 = .ok (.if_icmp .lt 9, 3) := by decide +kernel
theorem d1_18 : decode prog_47_method_4_code 18 = .ok (.iload_n 0, 1) := by decide +kernel
theorem d1_19 : decode prog_47_method_4_code 19 = .ok (.bipush 90, 2) := by decide +kernel
theorem d1_21 : decode prog_47_method_4_code 21 = .ok (.if_icmp .le 21, 3) := by decide +kernel
theorem d1_24 : decode prog_47_method_4_code 24 = .ok (.iload_n 0, 1) := by decide +kernel
theorem d1_25 : decode prog_47_method_4_code 25 = .ok (.bipush 48, 2) := by decide +kernel
theorem d1_27 : decode prog_47_method_4_code 27 = .ok (.if_icmp .lt 9, 3) := by decide +kernel
theorem d1_30 : decode prog_47_method_4_code 30 = .ok (.iload_n 0, 1) := by decide +kernel
theorem d1_31 : decode prog_47_method_4_code 31 = .ok (.bipush 57, 2) := by decide +kernel
theorem d1_33 : decode prog_47_method_4_code 33 = .ok (.if_icmp .le 9, 3) := by decide +kernel
theorem d1_36 : decode prog_47_method_4_code 36 = .ok (.iload_n 0, 1) := by decide +kernel
theorem d1_37 : decode prog_47_method_4_code 37 = .ok (.bipush 95, 2) := by decide +kernel
theorem d1_39 : decode prog_47_method_4_code 39 = .ok (.if_icmp .ne 7, 3) := by decide +kernel
theorem d1_42 : decode prog_47_method_4_code 42 = .ok (.iconst 1, 1) := by decide +kernel
theorem d1_43 : decode prog_47_method_4_code 43 = .ok (.goto 4, 3) := by decide +kernel
theorem d1_46 : decode prog_47_method_4_code 46 = .ok (.iconst 0, 1) := by decide +kernel
theorem d1_47 : decode prog_47_method_4_code 47 = .ok (.ireturn, 1) := by decide +kernel
set_option maxRecDepth 65536 in
set_option maxHeartbeats 40000000 in
theorem rm1 (l : Launch) (Z : State) (a0 : Array Value) (hw : ∀ d ∈ tables_1, d.before a0 Z = true) (i0 : Int32) (h0 : Heap) (n0 : Nat) (Z0 : n0 ≤ h0.size) :
    Ctr l Z (⟨"com/example/nestor/nestor/lang/Identifiers", "isPart", "(I)Z"⟩ : MethodName) prog_47_method_4_code 1 (some .boolean) ({ frames := 0, cells := 0, slots := 0, locals := 0 } : Room) #[(.int i0)] h0 n0 (fun v h' => v = some (.int (f1 i0)) ∧ h' = h0) := by
  refine Ctr.body (L := #[.val (.int i0)]) (plainFor_of_name pn1) Z0 (fun m => ef1 m i0) ?_
  intro p e F m below meth c T0 C0
  refine C0.iloadN d1_0 rfl rfl ?_
  refine C0.bipush (97 : Int32) d1_1 rfl rfl ?_
  refine C0.icmp_lt d1_3 (by decide) (by decide : _ = 12) rfl (fun c3 => ?_) (fun c3 => ?_)
  · refine C0.iloadN d1_12 rfl rfl ?_
    refine C0.bipush (65 : Int32) d1_13 rfl rfl ?_
    refine C0.icmp_lt d1_15 (by decide) (by decide : _ = 24) rfl (fun c15 => ?_) (fun c15 => ?_)
    · refine C0.iloadN d1_24 rfl rfl ?_
      refine C0.bipush (48 : Int32) d1_25 rfl rfl ?_
      refine C0.icmp_lt d1_27 (by decide) (by decide : _ = 36) rfl (fun c27 => ?_) (fun c27 => ?_)
      · refine C0.iloadN d1_36 rfl rfl ?_
        refine C0.bipush (95 : Int32) d1_37 rfl rfl ?_
        refine C0.icmp_ne d1_39 (by decide) (by decide : _ = 46) rfl (fun c39 => ?_) (fun c39 => ?_)
        · refine C0.iconst (0 : Int32) d1_46 rfl rfl ?_
          exact C0.retN (t := .boolean) d1_47 rfl (by simp) (by decide) (by decide) (w := (0 : Int32)) rfl ⟨by rw [f1, if_pos c3, if_pos c15, if_pos c27, if_neg c39], rfl⟩
        · refine C0.iconst (1 : Int32) d1_42 rfl rfl ?_
          refine C0.goto d1_43 (by decide) (by decide : _ = 47) ?_
          exact C0.retN (t := .boolean) d1_47 rfl (by simp) (by decide) (by decide) (w := (1 : Int32)) rfl ⟨by rw [f1, if_pos c3, if_pos c15, if_pos c27, if_pos c39], rfl⟩
      · refine C0.iloadN d1_30 rfl rfl ?_
        refine C0.bipush (57 : Int32) d1_31 rfl rfl ?_
        refine C0.icmp_le d1_33 (by decide) (by decide : _ = 42) rfl (fun c33 => ?_) (fun c33 => ?_)
        · refine C0.iconst (1 : Int32) d1_42 rfl rfl ?_
          refine C0.goto d1_43 (by decide) (by decide : _ = 47) ?_
          exact C0.retN (t := .boolean) d1_47 rfl (by simp) (by decide) (by decide) (w := (1 : Int32)) rfl ⟨by rw [f1, if_pos c3, if_pos c15, if_neg c27, if_neg c33], rfl⟩
        · refine C0.iloadN d1_36 rfl rfl ?_
          refine C0.bipush (95 : Int32) d1_37 rfl rfl ?_
          refine C0.icmp_ne d1_39 (by decide) (by decide : _ = 46) rfl (fun c39 => ?_) (fun c39 => ?_)
          · refine C0.iconst (0 : Int32) d1_46 rfl rfl ?_
            exact C0.retN (t := .boolean) d1_47 rfl (by simp) (by decide) (by decide) (w := (0 : Int32)) rfl ⟨by rw [f1, if_pos c3, if_pos c15, if_neg c27, if_pos c33, if_neg c39], rfl⟩
          · refine C0.iconst (1 : Int32) d1_42 rfl rfl ?_
            refine C0.goto d1_43 (by decide) (by decide : _ = 47) ?_
            exact C0.retN (t := .boolean) d1_47 rfl (by simp) (by decide) (by decide) (w := (1 : Int32)) rfl ⟨by rw [f1, if_pos c3, if_pos c15, if_neg c27, if_pos c33, if_pos c39], rfl⟩
    · refine C0.iloadN d1_18 rfl rfl ?_
      refine C0.bipush (90 : Int32) d1_19 rfl rfl ?_
      refine C0.icmp_le d1_21 (by decide) (by decide : _ = 42) rfl (fun c21 => ?_) (fun c21 => ?_)
      · refine C0.iconst (1 : Int32) d1_42 rfl rfl ?_
        refine C0.goto d1_43 (by decide) (by decide : _ = 47) ?_
        exact C0.retN (t := .boolean) d1_47 rfl (by simp) (by decide) (by decide) (w := (1 : Int32)) rfl ⟨by rw [f1, if_pos c3, if_neg c15, if_neg c21], rfl⟩
      · refine C0.iloadN d1_24 rfl rfl ?_
        refine C0.bipush (48 : Int32) d1_25 rfl rfl ?_
        refine C0.icmp_lt d1_27 (by decide) (by decide : _ = 36) rfl (fun c27 => ?_) (fun c27 => ?_)
        · refine C0.iloadN d1_36 rfl rfl ?_
          refine C0.bipush (95 : Int32) d1_37 rfl rfl ?_
          refine C0.icmp_ne d1_39 (by decide) (by decide : _ = 46) rfl (fun c39 => ?_) (fun c39 => ?_)
          · refine C0.iconst (0 : Int32) d1_46 rfl rfl ?_
            exact C0.retN (t := .boolean) d1_47 rfl (by simp) (by decide) (by decide) (w := (0 : Int32)) rfl ⟨by rw [f1, if_pos c3, if_neg c15, if_pos c21, if_pos c27, if_neg c39], rfl⟩
          · refine C0.iconst (1 : Int32) d1_42 rfl rfl ?_
            refine C0.goto d1_43 (by decide) (by decide : _ = 47) ?_
            exact C0.retN (t := .boolean) d1_47 rfl (by simp) (by decide) (by decide) (w := (1 : Int32)) rfl ⟨by rw [f1, if_pos c3, if_neg c15, if_pos c21, if_pos c27, if_pos c39], rfl⟩
        · refine C0.iloadN d1_30 rfl rfl ?_
          refine C0.bipush (57 : Int32) d1_31 rfl rfl ?_
          refine C0.icmp_le d1_33 (by decide) (by decide : _ = 42) rfl (fun c33 => ?_) (fun c33 => ?_)
          · refine C0.iconst (1 : Int32) d1_42 rfl rfl ?_
            refine C0.goto d1_43 (by decide) (by decide : _ = 47) ?_
            exact C0.retN (t := .boolean) d1_47 rfl (by simp) (by decide) (by decide) (w := (1 : Int32)) rfl ⟨by rw [f1, if_pos c3, if_neg c15, if_pos c21, if_neg c27, if_neg c33], rfl⟩
          · refine C0.iloadN d1_36 rfl rfl ?_
            refine C0.bipush (95 : Int32) d1_37 rfl rfl ?_
            refine C0.icmp_ne d1_39 (by decide) (by decide : _ = 46) rfl (fun c39 => ?_) (fun c39 => ?_)
            · refine C0.iconst (0 : Int32) d1_46 rfl rfl ?_
              exact C0.retN (t := .boolean) d1_47 rfl (by simp) (by decide) (by decide) (w := (0 : Int32)) rfl ⟨by rw [f1, if_pos c3, if_neg c15, if_pos c21, if_neg c27, if_pos c33, if_neg c39], rfl⟩
            · refine C0.iconst (1 : Int32) d1_42 rfl rfl ?_
              refine C0.goto d1_43 (by decide) (by decide : _ = 47) ?_
              exact C0.retN (t := .boolean) d1_47 rfl (by simp) (by decide) (by decide) (w := (1 : Int32)) rfl ⟨by rw [f1, if_pos c3, if_neg c15, if_pos c21, if_neg c27, if_pos c33, if_pos c39], rfl⟩
  · refine C0.iloadN d1_6 rfl rfl ?_
    refine C0.bipush (122 : Int32) d1_7 rfl rfl ?_
    refine C0.icmp_le d1_9 (by decide) (by decide : _ = 42) rfl (fun c9 => ?_) (fun c9 => ?_)
    · refine C0.iconst (1 : Int32) d1_42 rfl rfl ?_
      refine C0.goto d1_43 (by decide) (by decide : _ = 47) ?_
      exact C0.retN (t := .boolean) d1_47 rfl (by simp) (by decide) (by decide) (w := (1 : Int32)) rfl ⟨by rw [f1, if_neg c3, if_neg c9], rfl⟩
    · refine C0.iloadN d1_12 rfl rfl ?_
      refine C0.bipush (65 : Int32) d1_13 rfl rfl ?_
      refine C0.icmp_lt d1_15 (by decide) (by decide : _ = 24) rfl (fun c15 => ?_) (fun c15 => ?_)
      · refine C0.iloadN d1_24 rfl rfl ?_
        refine C0.bipush (48 : Int32) d1_25 rfl rfl ?_
        refine C0.icmp_lt d1_27 (by decide) (by decide : _ = 36) rfl (fun c27 => ?_) (fun c27 => ?_)
        · refine C0.iloadN d1_36 rfl rfl ?_
          refine C0.bipush (95 : Int32) d1_37 rfl rfl ?_
          refine C0.icmp_ne d1_39 (by decide) (by decide : _ = 46) rfl (fun c39 => ?_) (fun c39 => ?_)
          · refine C0.iconst (0 : Int32) d1_46 rfl rfl ?_
            exact C0.retN (t := .boolean) d1_47 rfl (by simp) (by decide) (by decide) (w := (0 : Int32)) rfl ⟨by rw [f1, if_neg c3, if_pos c9, if_pos c15, if_pos c27, if_neg c39], rfl⟩
          · refine C0.iconst (1 : Int32) d1_42 rfl rfl ?_
            refine C0.goto d1_43 (by decide) (by decide : _ = 47) ?_
            exact C0.retN (t := .boolean) d1_47 rfl (by simp) (by decide) (by decide) (w := (1 : Int32)) rfl ⟨by rw [f1, if_neg c3, if_pos c9, if_pos c15, if_pos c27, if_pos c39], rfl⟩
        · refine C0.iloadN d1_30 rfl rfl ?_
          refine C0.bipush (57 : Int32) d1_31 rfl rfl ?_
          refine C0.icmp_le d1_33 (by decide) (by decide : _ = 42) rfl (fun c33 => ?_) (fun c33 => ?_)
          · refine C0.iconst (1 : Int32) d1_42 rfl rfl ?_
            refine C0.goto d1_43 (by decide) (by decide : _ = 47) ?_
            exact C0.retN (t := .boolean) d1_47 rfl (by simp) (by decide) (by decide) (w := (1 : Int32)) rfl ⟨by rw [f1, if_neg c3, if_pos c9, if_pos c15, if_neg c27, if_neg c33], rfl⟩
          · refine C0.iloadN d1_36 rfl rfl ?_
            refine C0.bipush (95 : Int32) d1_37 rfl rfl ?_
            refine C0.icmp_ne d1_39 (by decide) (by decide : _ = 46) rfl (fun c39 => ?_) (fun c39 => ?_)
            · refine C0.iconst (0 : Int32) d1_46 rfl rfl ?_
              exact C0.retN (t := .boolean) d1_47 rfl (by simp) (by decide) (by decide) (w := (0 : Int32)) rfl ⟨by rw [f1, if_neg c3, if_pos c9, if_pos c15, if_neg c27, if_pos c33, if_neg c39], rfl⟩
            · refine C0.iconst (1 : Int32) d1_42 rfl rfl ?_
              refine C0.goto d1_43 (by decide) (by decide : _ = 47) ?_
              exact C0.retN (t := .boolean) d1_47 rfl (by simp) (by decide) (by decide) (w := (1 : Int32)) rfl ⟨by rw [f1, if_neg c3, if_pos c9, if_pos c15, if_neg c27, if_pos c33, if_pos c39], rfl⟩
      · refine C0.iloadN d1_18 rfl rfl ?_
        refine C0.bipush (90 : Int32) d1_19 rfl rfl ?_
        refine C0.icmp_le d1_21 (by decide) (by decide : _ = 42) rfl (fun c21 => ?_) (fun c21 => ?_)
        · refine C0.iconst (1 : Int32) d1_42 rfl rfl ?_
          refine C0.goto d1_43 (by decide) (by decide : _ = 47) ?_
          exact C0.retN (t := .boolean) d1_47 rfl (by simp) (by decide) (by decide) (w := (1 : Int32)) rfl ⟨by rw [f1, if_neg c3, if_pos c9, if_neg c15, if_neg c21], rfl⟩
        · refine C0.iloadN d1_24 rfl rfl ?_
          refine C0.bipush (48 : Int32) d1_25 rfl rfl ?_
          refine C0.icmp_lt d1_27 (by decide) (by decide : _ = 36) rfl (fun c27 => ?_) (fun c27 => ?_)
          · refine C0.iloadN d1_36 rfl rfl ?_
            refine C0.bipush (95 : Int32) d1_37 rfl rfl ?_
            refine C0.icmp_ne d1_39 (by decide) (by decide : _ = 46) rfl (fun c39 => ?_) (fun c39 => ?_)
            · refine C0.iconst (0 : Int32) d1_46 rfl rfl ?_
              exact C0.retN (t := .boolean) d1_47 rfl (by simp) (by decide) (by decide) (w := (0 : Int32)) rfl ⟨by rw [f1, if_neg c3, if_pos c9, if_neg c15, if_pos c21, if_pos c27, if_neg c39], rfl⟩
            · refine C0.iconst (1 : Int32) d1_42 rfl rfl ?_
              refine C0.goto d1_43 (by decide) (by decide : _ = 47) ?_
              exact C0.retN (t := .boolean) d1_47 rfl (by simp) (by decide) (by decide) (w := (1 : Int32)) rfl ⟨by rw [f1, if_neg c3, if_pos c9, if_neg c15, if_pos c21, if_pos c27, if_pos c39], rfl⟩
          · refine C0.iloadN d1_30 rfl rfl ?_
            refine C0.bipush (57 : Int32) d1_31 rfl rfl ?_
            refine C0.icmp_le d1_33 (by decide) (by decide : _ = 42) rfl (fun c33 => ?_) (fun c33 => ?_)
            · refine C0.iconst (1 : Int32) d1_42 rfl rfl ?_
              refine C0.goto d1_43 (by decide) (by decide : _ = 47) ?_
              exact C0.retN (t := .boolean) d1_47 rfl (by simp) (by decide) (by decide) (w := (1 : Int32)) rfl ⟨by rw [f1, if_neg c3, if_pos c9, if_neg c15, if_pos c21, if_neg c27, if_neg c33], rfl⟩
            · refine C0.iloadN d1_36 rfl rfl ?_
              refine C0.bipush (95 : Int32) d1_37 rfl rfl ?_
              refine C0.icmp_ne d1_39 (by decide) (by decide : _ = 46) rfl (fun c39 => ?_) (fun c39 => ?_)
              · refine C0.iconst (0 : Int32) d1_46 rfl rfl ?_
                exact C0.retN (t := .boolean) d1_47 rfl (by simp) (by decide) (by decide) (w := (0 : Int32)) rfl ⟨by rw [f1, if_neg c3, if_pos c9, if_neg c15, if_pos c21, if_neg c27, if_pos c33, if_neg c39], rfl⟩
              · refine C0.iconst (1 : Int32) d1_42 rfl rfl ?_
                refine C0.goto d1_43 (by decide) (by decide : _ = 47) ?_
                exact C0.retN (t := .boolean) d1_47 rfl (by simp) (by decide) (by decide) (w := (1 : Int32)) rfl ⟨by rw [f1, if_neg c3, if_pos c9, if_neg c15, if_pos c21, if_neg c27, if_pos c33, if_pos c39], rfl⟩
def f2 (i0 : Int32) : Int32 := if i0 < (97 : Int32) then (0 : Int32) else (if (122 : Int32) < i0 then (0 : Int32) else ((1 : Int32)))
theorem pn2 : plainName "com/example/nestor/nestor/lang/Identifiers" = true := by first | (simp [plainName, overriddenIn]; done) | decide +kernel
theorem pd2 : parseMethodDescriptor "(I)Z" = some ⟨[.int], some .boolean⟩ := by decide +kernel
theorem ef2 (m : MethodId) (i0 : Int32) : entryFrame m #[(.int i0)] 1 = mkF m 0 #[.val (.int i0)] [] := by first | (simp [entryFrame, mkF, argsToLocals, Value.category]; done) | rfl
theorem d2_0 : decode prog_47_method_2_code 0 = .ok (.iload_n 0, 1) := by decide +kernel
theorem d2_1 : decode prog_47_method_2_code 1 = .ok (.bipush 97, 2) := by decide +kernel
theorem d2_3 : decode prog_47_method_2_code 3 = .ok (.if_icmp .lt 13, 3) := by decide +kernel
theorem d2_6 : decode prog_47_method_2_code 6 = .ok (.iload_n 0, 1) := by decide +kernel
theorem d2_7 : decode prog_47_method_2_code 7 = .ok (.bipush 122, 2) := by decide +kernel
theorem d2_9 : decode prog_47_method_2_code 9 = .ok (.if_icmp .gt 7, 3) := by decide +kernel
theorem d2_12 : decode prog_47_method_2_code 12 = .ok (.iconst 1, 1) := by decide +kernel
theorem d2_13 : decode prog_47_method_2_code 13 = .ok (.goto 4, 3) := by decide +kernel
theorem d2_16 : decode prog_47_method_2_code 16 = .ok (.iconst 0, 1) := by decide +kernel
theorem d2_17 : decode prog_47_method_2_code 17 = .ok (.ireturn, 1) := by decide +kernel
set_option maxRecDepth 65536 in
set_option maxHeartbeats 40000000 in
theorem rm2 (l : Launch) (Z : State) (a0 : Array Value) (hw : ∀ d ∈ tables_1, d.before a0 Z = true) (i0 : Int32) (h0 : Heap) (n0 : Nat) (Z0 : n0 ≤ h0.size) :
    Ctr l Z (⟨"com/example/nestor/nestor/lang/Identifiers", "isStart", "(I)Z"⟩ : MethodName) prog_47_method_2_code 1 (some .boolean) ({ frames := 0, cells := 0, slots := 0, locals := 0 } : Room) #[(.int i0)] h0 n0 (fun v h' => v = some (.int (f2 i0)) ∧ h' = h0) := by
  refine Ctr.body (L := #[.val (.int i0)]) (plainFor_of_name pn2) Z0 (fun m => ef2 m i0) ?_
  intro p e F m below meth c T0 C0
  refine C0.iloadN d2_0 rfl rfl ?_
  refine C0.bipush (97 : Int32) d2_1 rfl rfl ?_
  refine C0.icmp_lt d2_3 (by decide) (by decide : _ = 16) rfl (fun c3 => ?_) (fun c3 => ?_)
  · refine C0.iconst (0 : Int32) d2_16 rfl rfl ?_
    exact C0.retN (t := .boolean) d2_17 rfl (by simp) (by decide) (by decide) (w := (0 : Int32)) rfl ⟨by rw [f2, if_pos c3], rfl⟩
  · refine C0.iloadN d2_6 rfl rfl ?_
    refine C0.bipush (122 : Int32) d2_7 rfl rfl ?_
    refine C0.icmp_gt d2_9 (by decide) (by decide : _ = 16) rfl (fun c9 => ?_) (fun c9 => ?_)
    · refine C0.iconst (0 : Int32) d2_16 rfl rfl ?_
      exact C0.retN (t := .boolean) d2_17 rfl (by simp) (by decide) (by decide) (w := (0 : Int32)) rfl ⟨by rw [f2, if_neg c3, if_pos c9], rfl⟩
    · refine C0.iconst (1 : Int32) d2_12 rfl rfl ?_
      refine C0.goto d2_13 (by decide) (by decide : _ = 17) ?_
      exact C0.retN (t := .boolean) d2_17 rfl (by simp) (by decide) (by decide) (w := (1 : Int32)) rfl ⟨by rw [f2, if_neg c3, if_neg c9], rfl⟩
def f3 (i0 : Int32) : Int32 := if i0 < (65 : Int32) then if i0 = (95 : Int32) then (1 : Int32) else ((0 : Int32)) else (if (90 : Int32) < i0 then if i0 = (95 : Int32) then (1 : Int32) else ((0 : Int32)) else ((1 : Int32)))
theorem pn3 : plainName "com/example/nestor/nestor/lang/Identifiers" = true := by first | (simp [plainName, overriddenIn]; done) | decide +kernel
theorem pd3 : parseMethodDescriptor "(I)Z" = some ⟨[.int], some .boolean⟩ := by decide +kernel
theorem ef3 (m : MethodId) (i0 : Int32) : entryFrame m #[(.int i0)] 1 = mkF m 0 #[.val (.int i0)] [] := by first | (simp [entryFrame, mkF, argsToLocals, Value.category]; done) | rfl
theorem d3_0 : decode prog_47_method_3_code 0 = .ok (.iload_n 0, 1) := by decide +kernel
theorem d3_1 : decode prog_47_method_3_code 1 = .ok (.bipush 65, 2) := by decide +kernel
theorem d3_3 : decode prog_47_method_3_code 3 = .ok (.if_icmp .lt 9, 3) := by decide +kernel
theorem d3_6 : decode prog_47_method_3_code 6 = .ok (.iload_n 0, 1) := by decide +kernel
theorem d3_7 : decode prog_47_method_3_code 7 = .ok (.bipush 90, 2) := by decide +kernel
theorem d3_9 : decode prog_47_method_3_code 9 = .ok (.if_icmp .le 9, 3) := by decide +kernel
theorem d3_12 : decode prog_47_method_3_code 12 = .ok (.iload_n 0, 1) := by decide +kernel
theorem d3_13 : decode prog_47_method_3_code 13 = .ok (.bipush 95, 2) := by decide +kernel
theorem d3_15 : decode prog_47_method_3_code 15 = .ok (.if_icmp .ne 7, 3) := by decide +kernel
theorem d3_18 : decode prog_47_method_3_code 18 = .ok (.iconst 1, 1) := by decide +kernel
theorem d3_19 : decode prog_47_method_3_code 19 = .ok (.goto 4, 3) := by decide +kernel
theorem d3_22 : decode prog_47_method_3_code 22 = .ok (.iconst 0, 1) := by decide +kernel
theorem d3_23 : decode prog_47_method_3_code 23 = .ok (.ireturn, 1) := by decide +kernel
set_option maxRecDepth 65536 in
set_option maxHeartbeats 40000000 in
theorem rm3 (l : Launch) (Z : State) (a0 : Array Value) (hw : ∀ d ∈ tables_1, d.before a0 Z = true) (i0 : Int32) (h0 : Heap) (n0 : Nat) (Z0 : n0 ≤ h0.size) :
    Ctr l Z (⟨"com/example/nestor/nestor/lang/Identifiers", "isVariableStart", "(I)Z"⟩ : MethodName) prog_47_method_3_code 1 (some .boolean) ({ frames := 0, cells := 0, slots := 0, locals := 0 } : Room) #[(.int i0)] h0 n0 (fun v h' => v = some (.int (f3 i0)) ∧ h' = h0) := by
  refine Ctr.body (L := #[.val (.int i0)]) (plainFor_of_name pn3) Z0 (fun m => ef3 m i0) ?_
  intro p e F m below meth c T0 C0
  refine C0.iloadN d3_0 rfl rfl ?_
  refine C0.bipush (65 : Int32) d3_1 rfl rfl ?_
  refine C0.icmp_lt d3_3 (by decide) (by decide : _ = 12) rfl (fun c3 => ?_) (fun c3 => ?_)
  · refine C0.iloadN d3_12 rfl rfl ?_
    refine C0.bipush (95 : Int32) d3_13 rfl rfl ?_
    refine C0.icmp_ne d3_15 (by decide) (by decide : _ = 22) rfl (fun c15 => ?_) (fun c15 => ?_)
    · refine C0.iconst (0 : Int32) d3_22 rfl rfl ?_
      exact C0.retN (t := .boolean) d3_23 rfl (by simp) (by decide) (by decide) (w := (0 : Int32)) rfl ⟨by rw [f3, if_pos c3, if_neg c15], rfl⟩
    · refine C0.iconst (1 : Int32) d3_18 rfl rfl ?_
      refine C0.goto d3_19 (by decide) (by decide : _ = 23) ?_
      exact C0.retN (t := .boolean) d3_23 rfl (by simp) (by decide) (by decide) (w := (1 : Int32)) rfl ⟨by rw [f3, if_pos c3, if_pos c15], rfl⟩
  · refine C0.iloadN d3_6 rfl rfl ?_
    refine C0.bipush (90 : Int32) d3_7 rfl rfl ?_
    refine C0.icmp_le d3_9 (by decide) (by decide : _ = 18) rfl (fun c9 => ?_) (fun c9 => ?_)
    · refine C0.iconst (1 : Int32) d3_18 rfl rfl ?_
      refine C0.goto d3_19 (by decide) (by decide : _ = 23) ?_
      exact C0.retN (t := .boolean) d3_23 rfl (by simp) (by decide) (by decide) (w := (1 : Int32)) rfl ⟨by rw [f3, if_neg c3, if_neg c9], rfl⟩
    · refine C0.iloadN d3_12 rfl rfl ?_
      refine C0.bipush (95 : Int32) d3_13 rfl rfl ?_
      refine C0.icmp_ne d3_15 (by decide) (by decide : _ = 22) rfl (fun c15 => ?_) (fun c15 => ?_)
      · refine C0.iconst (0 : Int32) d3_22 rfl rfl ?_
        exact C0.retN (t := .boolean) d3_23 rfl (by simp) (by decide) (by decide) (w := (0 : Int32)) rfl ⟨by rw [f3, if_neg c3, if_pos c9, if_neg c15], rfl⟩
      · refine C0.iconst (1 : Int32) d3_18 rfl rfl ?_
        refine C0.goto d3_19 (by decide) (by decide : _ = 23) ?_
        exact C0.retN (t := .boolean) d3_23 rfl (by simp) (by decide) (by decide) (w := (1 : Int32)) rfl ⟨by rw [f3, if_neg c3, if_pos c9, if_pos c15], rfl⟩
set_option maxRecDepth 65536 in
set_option maxHeartbeats 40000000 in
theorem own_bad0 (i0 : Int32) (i1 : Int32) (v1 : Int32) (u2 : Int32) (v4 : Int64) (v5 : Int64) (v6 : Int64) (v7 : Int64) (u8 : Int32) (u10 : Int32) (u12 : Int32) (u14 : Int32) (u16 : Int32) (v19 : Int32) (hv1 : v1 = (i1 &&& (3 : Int32))) (hu2 : u2 = (if v1 = (0 : Int32) then i0 else (if v1 = (1 : Int32) then (i0 &&& (127 : Int32)) else (if v1 = (2 : Int32) then ((i0 &&& (255 : Int32)) - (128 : Int32)) else (i0 &&& (65535 : Int32)))))) (hv4 : v4 = (u2.toInt64)) (hv5 : v5 = (v4 - (97 : Int64))) (hv6 : v6 = (v4 - (65 : Int64))) (hv7 : v7 = (v4 - (48 : Int64))) (hu8 : u8 = (if v5 < (0 : Int64) then (0 : Int32) else (if v5 < (26 : Int64) then (1 : Int32) else (0 : Int32)))) (hu10 : u10 = (if v6 < (0 : Int64) then (0 : Int32) else (if v6 < (26 : Int64) then (1 : Int32) else (0 : Int32)))) (hu12 : u12 = (if v7 < (0 : Int64) then (0 : Int32) else (if v7 < (10 : Int64) then (1 : Int32) else (0 : Int32)))) (hu14 : u14 = (if v4 = (95 : Int64) then (1 : Int32) else (0 : Int32))) (hu16 : u16 = (if u8 = (0 : Int32) then (if u10 = (0 : Int32) then (if u12 = (0 : Int32) then (if u14 = (0 : Int32) then (0 : Int32) else (1 : Int32)) else (1 : Int32)) else (1 : Int32)) else (1 : Int32))) (hv19 : v19 = (f1 u2)) (c199 : v19 = u16) (c208 : (f2 u2) = (0 : Int32)) (c222 : ¬ (f3 u2) = (0 : Int32)) (c227 : v19 = (0 : Int32)) : False := by
  clear hu2 hv1
  have ca_0 := c_i2l u2
  have ca_1 := c_lsub v4 97
  have ca_2 := c_lsub v4 65
  have ca_3 := c_lsub v4 48
  have bl_0 := (u2).le_toInt; have bu_0 := (u2).toInt_lt
  have bl_1 := (v4).le_toInt; have bu_1 := (v4).toInt_lt
  have bl_2 := (v4 - 97).le_toInt; have bu_2 := (v4 - 97).toInt_lt
  have bl_3 := (v4 - 65).le_toInt; have bu_3 := (v4 - 65).toInt_lt
  have bl_4 := (v4 - 48).le_toInt; have bu_4 := (v4 - 48).toInt_lt
  try simp only [f1, f2, f3, own_eqite, own_iteeq] at *
  try simp only [ne_eq, and_true, true_and, or_true, true_or, and_false, false_and, or_false, false_or, not_true_eq_false, not_false_eq_true, Int32.lt_iff_toInt_lt, Int64.lt_iff_toInt_lt, ← Int32.toInt_inj, ← Int64.toInt_inj, Int32.reduceToInt, Int64.reduceToInt] at *
  omega
set_option maxRecDepth 65536 in
set_option maxHeartbeats 40000000 in
theorem own_bad1 (i0 : Int32) (i1 : Int32) (v1 : Int32) (u2 : Int32) (v4 : Int64) (v5 : Int64) (v6 : Int64) (v7 : Int64) (u8 : Int32) (u10 : Int32) (u12 : Int32) (u14 : Int32) (u16 : Int32) (v19 : Int32) (hv1 : v1 = (i1 &&& (3 : Int32))) (hu2 : u2 = (if v1 = (0 : Int32) then i0 else (if v1 = (1 : Int32) then (i0 &&& (127 : Int32)) else (if v1 = (2 : Int32) then ((i0 &&& (255 : Int32)) - (128 : Int32)) else (i0 &&& (65535 : Int32)))))) (hv4 : v4 = (u2.toInt64)) (hv5 : v5 = (v4 - (97 : Int64))) (hv6 : v6 = (v4 - (65 : Int64))) (hv7 : v7 = (v4 - (48 : Int64))) (hu8 : u8 = (if v5 < (0 : Int64) then (0 : Int32) else (if v5 < (26 : Int64) then (1 : Int32) else (0 : Int32)))) (hu10 : u10 = (if v6 < (0 : Int64) then (0 : Int32) else (if v6 < (26 : Int64) then (1 : Int32) else (0 : Int32)))) (hu12 : u12 = (if v7 < (0 : Int64) then (0 : Int32) else (if v7 < (10 : Int64) then (1 : Int32) else (0 : Int32)))) (hu14 : u14 = (if v4 = (95 : Int64) then (1 : Int32) else (0 : Int32))) (hu16 : u16 = (if u8 = (0 : Int32) then (if u10 = (0 : Int32) then (if u12 = (0 : Int32) then (if u14 = (0 : Int32) then (0 : Int32) else (1 : Int32)) else (1 : Int32)) else (1 : Int32)) else (1 : Int32))) (hv19 : v19 = (f1 u2)) (c199 : v19 = u16) (c208 : ¬ (f2 u2) = (0 : Int32)) (c213 : v19 = (0 : Int32)) : False := by
  clear hu2 hv1
  have ca_0 := c_i2l u2
  have ca_1 := c_lsub v4 97
  have ca_2 := c_lsub v4 65
  have ca_3 := c_lsub v4 48
  have bl_0 := (u2).le_toInt; have bu_0 := (u2).toInt_lt
  have bl_1 := (v4).le_toInt; have bu_1 := (v4).toInt_lt
  have bl_2 := (v4 - 97).le_toInt; have bu_2 := (v4 - 97).toInt_lt
  have bl_3 := (v4 - 65).le_toInt; have bu_3 := (v4 - 65).toInt_lt
  have bl_4 := (v4 - 48).le_toInt; have bu_4 := (v4 - 48).toInt_lt
  try simp only [f1, f2, f3, own_eqite, own_iteeq] at *
  try simp only [ne_eq, and_true, true_and, or_true, true_or, and_false, false_and, or_false, false_or, not_true_eq_false, not_false_eq_true, Int32.lt_iff_toInt_lt, Int64.lt_iff_toInt_lt, ← Int32.toInt_inj, ← Int64.toInt_inj, Int32.reduceToInt, Int64.reduceToInt] at *
  omega
set_option maxRecDepth 65536 in
set_option maxHeartbeats 40000000 in
theorem own_bad2 (i0 : Int32) (i1 : Int32) (v1 : Int32) (u2 : Int32) (v4 : Int64) (v5 : Int64) (v6 : Int64) (v7 : Int64) (u8 : Int32) (u10 : Int32) (u12 : Int32) (u14 : Int32) (u16 : Int32) (v19 : Int32) (hv1 : v1 = (i1 &&& (3 : Int32))) (hu2 : u2 = (if v1 = (0 : Int32) then i0 else (if v1 = (1 : Int32) then (i0 &&& (127 : Int32)) else (if v1 = (2 : Int32) then ((i0 &&& (255 : Int32)) - (128 : Int32)) else (i0 &&& (65535 : Int32)))))) (hv4 : v4 = (u2.toInt64)) (hv5 : v5 = (v4 - (97 : Int64))) (hv6 : v6 = (v4 - (65 : Int64))) (hv7 : v7 = (v4 - (48 : Int64))) (hu8 : u8 = (if v5 < (0 : Int64) then (0 : Int32) else (if v5 < (26 : Int64) then (1 : Int32) else (0 : Int32)))) (hu10 : u10 = (if v6 < (0 : Int64) then (0 : Int32) else (if v6 < (26 : Int64) then (1 : Int32) else (0 : Int32)))) (hu12 : u12 = (if v7 < (0 : Int64) then (0 : Int32) else (if v7 < (10 : Int64) then (1 : Int32) else (0 : Int32)))) (hu14 : u14 = (if v4 = (95 : Int64) then (1 : Int32) else (0 : Int32))) (hu16 : u16 = (if u8 = (0 : Int32) then (if u10 = (0 : Int32) then (if u12 = (0 : Int32) then (if u14 = (0 : Int32) then (0 : Int32) else (1 : Int32)) else (1 : Int32)) else (1 : Int32)) else (1 : Int32))) (hv19 : v19 = (f1 u2)) (c199 : ¬ v19 = u16) : False := by
  clear hu2 hv1
  have ca_0 := c_i2l u2
  have ca_1 := c_lsub v4 97
  have ca_2 := c_lsub v4 65
  have ca_3 := c_lsub v4 48
  have bl_0 := (u2).le_toInt; have bu_0 := (u2).toInt_lt
  have bl_1 := (v4).le_toInt; have bu_1 := (v4).toInt_lt
  have bl_2 := (v4 - 97).le_toInt; have bu_2 := (v4 - 97).toInt_lt
  have bl_3 := (v4 - 65).le_toInt; have bu_3 := (v4 - 65).toInt_lt
  have bl_4 := (v4 - 48).le_toInt; have bu_4 := (v4 - 48).toInt_lt
  try simp only [f1, f2, f3, own_eqite, own_iteeq] at *
  try simp only [ne_eq, and_true, true_and, or_true, true_or, and_false, false_and, or_false, false_or, not_true_eq_false, not_false_eq_true, Int32.lt_iff_toInt_lt, Int64.lt_iff_toInt_lt, ← Int32.toInt_inj, ← Int64.toInt_inj, Int32.reduceToInt, Int64.reduceToInt] at *
  omega
theorem pn0 : plainName "com/example/nestor/nestor/lang/IdentifiersIsPartPinLaw" = true := by first | (simp [plainName, overriddenIn]; done) | decide +kernel
theorem ef0 (m : MethodId) (i0 : Int32) (i1 : Int32) : entryFrame m #[(.int i0), (.int i1)] maxLocals = mkF m 0 #[.val (.int i0), .val (.int i1), .unset, .unset, .unset, .unset, .unset, .unset, .unset, .unset, .unset, .unset, .unset, .unset, .unset, .unset, .unset, .unset] [] := by first | (simp [entryFrame, mkF, argsToLocals, Value.category, maxLocals]; done) | rfl
set_option maxRecDepth 65536 in
set_option maxHeartbeats 40000000 in
theorem rm0 (l : Launch) (Z : State) (a0 : Array Value) (hw : ∀ d ∈ tables_1, d.before a0 Z = true) (i0 : Int32) (i1 : Int32) (h0 : Heap) (n0 : Nat) (Z0 : n0 ≤ h0.size) :
    Ctr l Z x code maxLocals ret room_1 #[(.int i0), (.int i1)] h0 n0 (fun v _ => v = some (.int (1 : Int32))) := by
  refine Ctr.body (L := #[.val (.int i0), .val (.int i1), .unset, .unset, .unset, .unset, .unset, .unset, .unset, .unset, .unset, .unset, .unset, .unset, .unset, .unset, .unset, .unset]) (plainFor_of_name pn0) Z0 (fun m => ef0 m i0 i1) ?_
  intro p e F m below meth c T0 C0
  refine C0.iloadN at_0 rfl rfl ?_
  refine C0.iconst (3 : Int32) at_1 rfl rfl ?_
  refine C0.iand at_2 rfl ?_
  refine C0.istoreNV (fun v => #[.val (.int i0), .val (.int i1), .val (.int v), .unset, .unset, .unset, .unset, .unset, .unset, .unset, .unset, .unset, .unset, .unset, .unset, .unset, .unset, .unset]) at_3 rfl (fun _ => rfl) (fun v1 hv1 => ?_)
  refine C0.iloadN at_4 rfl rfl ?_
  have J49 : ∀ (T3 : State) (u2 : Int32), Cx p l e room_1 m #[(.int i0), (.int i1)] below meth c Z x code maxLocals ret n0 false F T3 h0 0 0 → u2 = (if v1 = (0 : Int32) then i0 else (if v1 = (1 : Int32) then (i0 &&& (127 : Int32)) else (if v1 = (2 : Int32) then ((i0 &&& (255 : Int32)) - (128 : Int32)) else (i0 &&& (65535 : Int32))))) → Go p e below F n0 (fun v _ => v = some (.int (1 : Int32))) T3 (mkF m 49 #[.val (.int i0), .val (.int i1), .val (.int v1), .val (.int u2), .unset, .unset, .unset, .unset, .unset, .unset, .unset, .unset, .unset, .unset, .unset, .unset, .unset, .unset] []) := by
    intro T3 u2 C3 hu2
    refine C3.iloadN at_49 rfl rfl ?_
    refine C3.i2l at_50 rfl ?_
    refine C3.lstoreV (fun v => #[.val (.int i0), .val (.int i1), .val (.int v1), .val (.int u2), .val (.long v), .second, .unset, .unset, .unset, .unset, .unset, .unset, .unset, .unset, .unset, .unset, .unset, .unset]) at_51 rfl (fun _ => rfl) (fun v4 hv4 => ?_)
    refine C3.lload at_53 rfl rfl ?_
    refine C3.ldc2 (hw _ (List.mem_of_getElem? (i := 1) rfl)) at_55 rfl ?_
    refine C3.lsub at_58 rfl ?_
    refine C3.lstoreV (fun v => #[.val (.int i0), .val (.int i1), .val (.int v1), .val (.int u2), .val (.long v4), .second, .val (.long v), .second, .unset, .unset, .unset, .unset, .unset, .unset, .unset, .unset, .unset, .unset]) at_59 rfl (fun _ => rfl) (fun v5 hv5 => ?_)
    refine C3.lload at_61 rfl rfl ?_
    refine C3.ldc2 (hw _ (List.mem_of_getElem? (i := 2) rfl)) at_63 rfl ?_
    refine C3.lsub at_66 rfl ?_
    refine C3.lstoreV (fun v => #[.val (.int i0), .val (.int i1), .val (.int v1), .val (.int u2), .val (.long v4), .second, .val (.long v5), .second, .val (.long v), .second, .unset, .unset, .unset, .unset, .unset, .unset, .unset, .unset]) at_67 rfl (fun _ => rfl) (fun v6 hv6 => ?_)
    refine C3.lload at_69 rfl rfl ?_
    refine C3.ldc2 (hw _ (List.mem_of_getElem? (i := 3) rfl)) at_71 rfl ?_
    refine C3.lsub at_74 rfl ?_
    refine C3.lstoreV (fun v => #[.val (.int i0), .val (.int i1), .val (.int v1), .val (.int u2), .val (.long v4), .second, .val (.long v5), .second, .val (.long v6), .second, .val (.long v), .second, .unset, .unset, .unset, .unset, .unset, .unset]) at_75 rfl (fun _ => rfl) (fun v7 hv7 => ?_)
    refine C3.lload at_77 rfl rfl ?_
    refine C3.lconst (0 : Int64) at_79 rfl rfl ?_
    have J98 : ∀ (T9 : State) (u8 : Int32), Cx p l e room_1 m #[(.int i0), (.int i1)] below meth c Z x code maxLocals ret n0 false F T9 h0 0 0 → u8 = (if v5 < (0 : Int64) then (0 : Int32) else (if v5 < (26 : Int64) then (1 : Int32) else (0 : Int32))) → Go p e below F n0 (fun v _ => v = some (.int (1 : Int32))) T9 (mkF m 98 #[.val (.int i0), .val (.int i1), .val (.int v1), .val (.int u2), .val (.long v4), .second, .val (.long v5), .second, .val (.long v6), .second, .val (.long v7), .second, .unset, .unset, .unset, .unset, .unset, .unset] [(.int u8)]) := by
      intro T9 u8 C9 hu8
      refine C9.istore at_98 rfl (L' := #[.val (.int i0), .val (.int i1), .val (.int v1), .val (.int u2), .val (.long v4), .second, .val (.long v5), .second, .val (.long v6), .second, .val (.long v7), .second, .val (.int u8), .unset, .unset, .unset, .unset, .unset]) rfl ?_
      refine C9.lload at_100 rfl rfl ?_
      refine C9.lconst (0 : Int64) at_102 rfl rfl ?_
      have J121 : ∀ (T11 : State) (u10 : Int32), Cx p l e room_1 m #[(.int i0), (.int i1)] below meth c Z x code maxLocals ret n0 false F T11 h0 0 0 → u10 = (if v6 < (0 : Int64) then (0 : Int32) else (if v6 < (26 : Int64) then (1 : Int32) else (0 : Int32))) → Go p e below F n0 (fun v _ => v = some (.int (1 : Int32))) T11 (mkF m 121 #[.val (.int i0), .val (.int i1), .val (.int v1), .val (.int u2), .val (.long v4), .second, .val (.long v5), .second, .val (.long v6), .second, .val (.long v7), .second, .val (.int u8), .unset, .unset, .unset, .unset, .unset] [(.int u10)]) := by
        intro T11 u10 C11 hu10
        refine C11.istore at_121 rfl (L' := #[.val (.int i0), .val (.int i1), .val (.int v1), .val (.int u2), .val (.long v4), .second, .val (.long v5), .second, .val (.long v6), .second, .val (.long v7), .second, .val (.int u8), .val (.int u10), .unset, .unset, .unset, .unset]) rfl ?_
        refine C11.lload at_123 rfl rfl ?_
        refine C11.lconst (0 : Int64) at_125 rfl rfl ?_
        have J144 : ∀ (T13 : State) (u12 : Int32), Cx p l e room_1 m #[(.int i0), (.int i1)] below meth c Z x code maxLocals ret n0 false F T13 h0 0 0 → u12 = (if v7 < (0 : Int64) then (0 : Int32) else (if v7 < (10 : Int64) then (1 : Int32) else (0 : Int32))) → Go p e below F n0 (fun v _ => v = some (.int (1 : Int32))) T13 (mkF m 144 #[.val (.int i0), .val (.int i1), .val (.int v1), .val (.int u2), .val (.long v4), .second, .val (.long v5), .second, .val (.long v6), .second, .val (.long v7), .second, .val (.int u8), .val (.int u10), .unset, .unset, .unset, .unset] [(.int u12)]) := by
          intro T13 u12 C13 hu12
          refine C13.istore at_144 rfl (L' := #[.val (.int i0), .val (.int i1), .val (.int v1), .val (.int u2), .val (.long v4), .second, .val (.long v5), .second, .val (.long v6), .second, .val (.long v7), .second, .val (.int u8), .val (.int u10), .val (.int u12), .unset, .unset, .unset]) rfl ?_
          refine C13.lload at_146 rfl rfl ?_
          refine C13.ldc2 (hw _ (List.mem_of_getElem? (i := 4) rfl)) at_148 rfl ?_
          have J160 : ∀ (T15 : State) (u14 : Int32), Cx p l e room_1 m #[(.int i0), (.int i1)] below meth c Z x code maxLocals ret n0 false F T15 h0 0 0 → u14 = (if v4 = (95 : Int64) then (1 : Int32) else (0 : Int32)) → Go p e below F n0 (fun v _ => v = some (.int (1 : Int32))) T15 (mkF m 160 #[.val (.int i0), .val (.int i1), .val (.int v1), .val (.int u2), .val (.long v4), .second, .val (.long v5), .second, .val (.long v6), .second, .val (.long v7), .second, .val (.int u8), .val (.int u10), .val (.int u12), .unset, .unset, .unset] [(.int u14)]) := by
            intro T15 u14 C15 hu14
            refine C15.istore at_160 rfl (L' := #[.val (.int i0), .val (.int i1), .val (.int v1), .val (.int u2), .val (.long v4), .second, .val (.long v5), .second, .val (.long v6), .second, .val (.long v7), .second, .val (.int u8), .val (.int u10), .val (.int u12), .val (.int u14), .unset, .unset]) rfl ?_
            refine C15.iload at_162 rfl rfl ?_
            have J187 : ∀ (T17 : State) (u16 : Int32), Cx p l e room_1 m #[(.int i0), (.int i1)] below meth c Z x code maxLocals ret n0 false F T17 h0 0 0 → u16 = (if u8 = (0 : Int32) then (if u10 = (0 : Int32) then (if u12 = (0 : Int32) then (if u14 = (0 : Int32) then (0 : Int32) else (1 : Int32)) else (1 : Int32)) else (1 : Int32)) else (1 : Int32)) → Go p e below F n0 (fun v _ => v = some (.int (1 : Int32))) T17 (mkF m 187 #[.val (.int i0), .val (.int i1), .val (.int v1), .val (.int u2), .val (.long v4), .second, .val (.long v5), .second, .val (.long v6), .second, .val (.long v7), .second, .val (.int u8), .val (.int u10), .val (.int u12), .val (.int u14), .unset, .unset] [(.int u16)]) := by
              intro T17 u16 C17 hu16
              refine C17.istore at_187 rfl (L' := #[.val (.int i0), .val (.int i1), .val (.int v1), .val (.int u2), .val (.long v4), .second, .val (.long v5), .second, .val (.long v6), .second, .val (.long v7), .second, .val (.int u8), .val (.int u10), .val (.int u12), .val (.int u14), .val (.int u16), .unset]) rfl ?_
              refine C17.iloadN at_189 rfl rfl ?_
              refine C17.callSP (w := (.int (f1 u2))) (hw _ (List.mem_of_getElem? (i := 5) rfl)) (hw _ (List.mem_of_getElem? (i := 6) rfl)) (hw _ (List.mem_of_getElem? (i := 7) rfl)) (hw _ (List.mem_of_getElem? (i := 8) rfl)) (by decide) (rm1 l Z a0 hw u2 h0 n0 C17.size) (argsL := [(.int u2)]) pd1 rfl 0 (by decide) (by decide) rfl rfl (by decide) (by decide) (rest := []) rfl rfl (Nat.le_of_eq rfl) at_190 rfl (fun T18 C18 => ?_)
              refine C18.istoreV (fun v => #[.val (.int i0), .val (.int i1), .val (.int v1), .val (.int u2), .val (.long v4), .second, .val (.long v5), .second, .val (.long v6), .second, .val (.long v7), .second, .val (.int u8), .val (.int u10), .val (.int u12), .val (.int u14), .val (.int u16), .val (.int v)]) at_193 rfl (fun _ => rfl) (fun v19 hv19 => ?_)
              refine C18.iload at_195 rfl rfl ?_
              refine C18.iload at_197 rfl rfl ?_
              refine C18.icmp_eq at_199 (by decide) (by decide : _ = 204) rfl (fun c199 => ?_) (fun c199 => ?_)
              · refine C18.iloadN at_204 rfl rfl ?_
                refine C18.callSP (w := (.int (f2 u2))) (hw _ (List.mem_of_getElem? (i := 9) rfl)) (hw _ (List.mem_of_getElem? (i := 10) rfl)) (hw _ (List.mem_of_getElem? (i := 7) rfl)) (hw _ (List.mem_of_getElem? (i := 11) rfl)) (by decide) (rm2 l Z a0 hw u2 h0 n0 C18.size) (argsL := [(.int u2)]) pd2 rfl 0 (by decide) (by decide) rfl rfl (by decide) (by decide) (rest := []) rfl rfl (Nat.le_of_eq rfl) at_205 rfl (fun T20 C20 => ?_)
                refine C20.if_eq at_208 (by decide) (by decide : _ = 218) rfl (fun c208 => ?_) (fun c208 => ?_)
                · refine C20.iloadN at_218 rfl rfl ?_
                  refine C20.callSP (w := (.int (f3 u2))) (hw _ (List.mem_of_getElem? (i := 12) rfl)) (hw _ (List.mem_of_getElem? (i := 13) rfl)) (hw _ (List.mem_of_getElem? (i := 7) rfl)) (hw _ (List.mem_of_getElem? (i := 14) rfl)) (by decide) (rm3 l Z a0 hw u2 h0 n0 C20.size) (argsL := [(.int u2)]) pd3 rfl 0 (by decide) (by decide) rfl rfl (by decide) (by decide) (rest := []) rfl rfl (Nat.le_of_eq rfl) at_219 rfl (fun T21 C21 => ?_)
                  refine C21.if_eq at_222 (by decide) (by decide : _ = 232) rfl (fun c222 => ?_) (fun c222 => ?_)
                  · refine C21.iconst (1 : Int32) at_232 rfl rfl ?_
                    exact C21.retN (t := .boolean) at_233 rfl (by simp) (by decide) (by decide) (w := (1 : Int32)) rfl rfl
                  · refine C21.iload at_225 rfl rfl ?_
                    refine C21.if_ne at_227 (by decide) (by decide : _ = 232) rfl (fun c227 => ?_) (fun c227 => ?_)
                    · refine C21.iconst (1 : Int32) at_232 rfl rfl ?_
                      exact C21.retN (t := .boolean) at_233 rfl (by simp) (by decide) (by decide) (w := (1 : Int32)) rfl rfl
                    · refine C21.iconst (0 : Int32) at_230 rfl rfl ?_
                      exact (own_bad0 i0 i1 v1 u2 v4 v5 v6 v7 u8 u10 u12 u14 u16 v19 hv1 hu2 hv4 hv5 hv6 hv7 hu8 hu10 hu12 hu14 hu16 hv19 c199 c208 c222 c227).elim
                · refine C20.iload at_211 rfl rfl ?_
                  refine C20.if_ne at_213 (by decide) (by decide : _ = 218) rfl (fun c213 => ?_) (fun c213 => ?_)
                  · refine C20.iloadN at_218 rfl rfl ?_
                    refine C20.callSP (w := (.int (f3 u2))) (hw _ (List.mem_of_getElem? (i := 12) rfl)) (hw _ (List.mem_of_getElem? (i := 13) rfl)) (hw _ (List.mem_of_getElem? (i := 7) rfl)) (hw _ (List.mem_of_getElem? (i := 14) rfl)) (by decide) (rm3 l Z a0 hw u2 h0 n0 C20.size) (argsL := [(.int u2)]) pd3 rfl 0 (by decide) (by decide) rfl rfl (by decide) (by decide) (rest := []) rfl rfl (Nat.le_of_eq rfl) at_219 rfl (fun T22 C22 => ?_)
                    refine C22.if_eq at_222 (by decide) (by decide : _ = 232) rfl (fun c222 => ?_) (fun c222 => ?_)
                    · refine C22.iconst (1 : Int32) at_232 rfl rfl ?_
                      exact C22.retN (t := .boolean) at_233 rfl (by simp) (by decide) (by decide) (w := (1 : Int32)) rfl rfl
                    · refine C22.iload at_225 rfl rfl ?_
                      refine C22.if_ne at_227 (by decide) (by decide : _ = 232) rfl (fun _ => ?_) (fun q => absurd q c213)
                      refine C22.iconst (1 : Int32) at_232 rfl rfl ?_
                      exact C22.retN (t := .boolean) at_233 rfl (by simp) (by decide) (by decide) (w := (1 : Int32)) rfl rfl
                  · refine C20.iconst (0 : Int32) at_216 rfl rfl ?_
                    exact (own_bad1 i0 i1 v1 u2 v4 v5 v6 v7 u8 u10 u12 u14 u16 v19 hv1 hu2 hv4 hv5 hv6 hv7 hu8 hu10 hu12 hu14 hu16 hv19 c199 c208 c213).elim
              · refine C18.iconst (0 : Int32) at_202 rfl rfl ?_
                exact (own_bad2 i0 i1 v1 u2 v4 v5 v6 v7 u8 u10 u12 u14 u16 v19 hv1 hu2 hv4 hv5 hv6 hv7 hu8 hu10 hu12 hu14 hu16 hv19 c199).elim
            refine C15.if_ne at_164 (by decide) (by decide : _ = 182) rfl (fun c164 => ?_) (fun c164 => ?_)
            · refine C15.iconst (1 : Int32) at_182 rfl rfl ?_
              refine C15.goto at_183 (by decide) (by decide : _ = 187) ?_
              exact J187 _ (1 : Int32) C15 (by simp only [if_neg c164])
            · refine C15.iload at_167 rfl rfl ?_
              refine C15.if_ne at_169 (by decide) (by decide : _ = 182) rfl (fun c169 => ?_) (fun c169 => ?_)
              · refine C15.iconst (1 : Int32) at_182 rfl rfl ?_
                refine C15.goto at_183 (by decide) (by decide : _ = 187) ?_
                exact J187 _ (1 : Int32) C15 (by simp only [if_pos c164, if_neg c169])
              · refine C15.iload at_172 rfl rfl ?_
                refine C15.if_ne at_174 (by decide) (by decide : _ = 182) rfl (fun c174 => ?_) (fun c174 => ?_)
                · refine C15.iconst (1 : Int32) at_182 rfl rfl ?_
                  refine C15.goto at_183 (by decide) (by decide : _ = 187) ?_
                  exact J187 _ (1 : Int32) C15 (by simp only [if_pos c164, if_pos c169, if_neg c174])
                · refine C15.iload at_177 rfl rfl ?_
                  refine C15.if_eq at_179 (by decide) (by decide : _ = 186) rfl (fun c179 => ?_) (fun c179 => ?_)
                  · refine C15.iconst (0 : Int32) at_186 rfl rfl ?_
                    exact J187 _ (0 : Int32) C15 (by simp only [if_pos c164, if_pos c169, if_pos c174, if_pos c179])
                  · refine C15.iconst (1 : Int32) at_182 rfl rfl ?_
                    refine C15.goto at_183 (by decide) (by decide : _ = 187) ?_
                    exact J187 _ (1 : Int32) C15 (by simp only [if_pos c164, if_pos c169, if_pos c174, if_neg c179])
          refine C13.lif_ne at_151 rfl at_152 (by decide) (by decide : _ = 159) rfl (fun c152 => ?_) (fun c152 => ?_)
          · refine C13.iconst (0 : Int32) at_159 rfl rfl ?_
            exact J160 _ (0 : Int32) C13 (by simp only [if_neg c152])
          · refine C13.iconst (1 : Int32) at_155 rfl rfl ?_
            refine C13.goto at_156 (by decide) (by decide : _ = 160) ?_
            exact J160 _ (1 : Int32) C13 (by simp only [if_pos c152])
        refine C11.lif_lt at_126 rfl at_127 (by decide) (by decide : _ = 143) rfl (fun c127 => ?_) (fun c127 => ?_)
        · refine C11.iconst (0 : Int32) at_143 rfl rfl ?_
          exact J144 _ (0 : Int32) C11 (by simp only [if_pos c127])
        · refine C11.lload at_130 rfl rfl ?_
          refine C11.ldc2 (hw _ (List.mem_of_getElem? (i := 16) rfl)) at_132 rfl ?_
          refine C11.lif_ge at_135 rfl at_136 (by decide) (by decide : _ = 143) rfl (fun c136 => ?_) (fun c136 => ?_)
          · refine C11.iconst (0 : Int32) at_143 rfl rfl ?_
            exact J144 _ (0 : Int32) C11 (by simp only [if_neg c127, if_neg c136])
          · refine C11.iconst (1 : Int32) at_139 rfl rfl ?_
            refine C11.goto at_140 (by decide) (by decide : _ = 144) ?_
            exact J144 _ (1 : Int32) C11 (by simp only [if_neg c127, if_pos c136])
      refine C9.lif_lt at_103 rfl at_104 (by decide) (by decide : _ = 120) rfl (fun c104 => ?_) (fun c104 => ?_)
      · refine C9.iconst (0 : Int32) at_120 rfl rfl ?_
        exact J121 _ (0 : Int32) C9 (by simp only [if_pos c104])
      · refine C9.lload at_107 rfl rfl ?_
        refine C9.ldc2 (hw _ (List.mem_of_getElem? (i := 15) rfl)) at_109 rfl ?_
        refine C9.lif_ge at_112 rfl at_113 (by decide) (by decide : _ = 120) rfl (fun c113 => ?_) (fun c113 => ?_)
        · refine C9.iconst (0 : Int32) at_120 rfl rfl ?_
          exact J121 _ (0 : Int32) C9 (by simp only [if_neg c104, if_neg c113])
        · refine C9.iconst (1 : Int32) at_116 rfl rfl ?_
          refine C9.goto at_117 (by decide) (by decide : _ = 121) ?_
          exact J121 _ (1 : Int32) C9 (by simp only [if_neg c104, if_pos c113])
    refine C3.lif_lt at_80 rfl at_81 (by decide) (by decide : _ = 97) rfl (fun c81 => ?_) (fun c81 => ?_)
    · refine C3.iconst (0 : Int32) at_97 rfl rfl ?_
      exact J98 _ (0 : Int32) C3 (by simp only [if_pos c81])
    · refine C3.lload at_84 rfl rfl ?_
      refine C3.ldc2 (hw _ (List.mem_of_getElem? (i := 15) rfl)) at_86 rfl ?_
      refine C3.lif_ge at_89 rfl at_90 (by decide) (by decide : _ = 97) rfl (fun c90 => ?_) (fun c90 => ?_)
      · refine C3.iconst (0 : Int32) at_97 rfl rfl ?_
        exact J98 _ (0 : Int32) C3 (by simp only [if_neg c81, if_neg c90])
      · refine C3.iconst (1 : Int32) at_93 rfl rfl ?_
        refine C3.goto at_94 (by decide) (by decide : _ = 98) ?_
        exact J98 _ (1 : Int32) C3 (by simp only [if_neg c81, if_pos c90])
  refine C0.if_ne at_5 (by decide) (by decide : _ = 13) rfl (fun c5 => ?_) (fun c5 => ?_)
  · refine C0.iloadN at_13 rfl rfl ?_
    refine C0.iconst (1 : Int32) at_14 rfl rfl ?_
    refine C0.icmp_ne at_15 (by decide) (by decide : _ = 26) rfl (fun c15 => ?_) (fun c15 => ?_)
    · refine C0.iloadN at_26 rfl rfl ?_
      refine C0.iconst (2 : Int32) at_27 rfl rfl ?_
      refine C0.icmp_ne at_28 (by decide) (by decide : _ = 44) rfl (fun c28 => ?_) (fun c28 => ?_)
      · refine C0.iloadN at_44 rfl rfl ?_
        refine C0.ldc (hw _ (List.mem_of_getElem? (i := 0) rfl)) at_45 rfl ?_
        refine C0.iand at_47 rfl ?_
        refine C0.istoreN at_48 rfl (L' := #[.val (.int i0), .val (.int i1), .val (.int v1), .val (.int (i0 &&& (65535 : Int32))), .unset, .unset, .unset, .unset, .unset, .unset, .unset, .unset, .unset, .unset, .unset, .unset, .unset, .unset]) rfl ?_
        exact J49 _ (i0 &&& (65535 : Int32)) C0 (by simp only [if_neg c5, if_neg c15, if_neg c28])
      · refine C0.iloadN at_31 rfl rfl ?_
        refine C0.sipush (255 : Int32) at_32 rfl rfl ?_
        refine C0.iand at_35 rfl ?_
        refine C0.sipush (128 : Int32) at_36 rfl rfl ?_
        refine C0.isub at_39 rfl ?_
        refine C0.istoreN at_40 rfl (L' := #[.val (.int i0), .val (.int i1), .val (.int v1), .val (.int ((i0 &&& (255 : Int32)) - (128 : Int32))), .unset, .unset, .unset, .unset, .unset, .unset, .unset, .unset, .unset, .unset, .unset, .unset, .unset, .unset]) rfl ?_
        refine C0.goto at_41 (by decide) (by decide : _ = 49) ?_
        exact J49 _ ((i0 &&& (255 : Int32)) - (128 : Int32)) C0 (by simp only [if_neg c5, if_neg c15, if_pos c28])
    · refine C0.iloadN at_18 rfl rfl ?_
      refine C0.bipush (127 : Int32) at_19 rfl rfl ?_
      refine C0.iand at_21 rfl ?_
      refine C0.istoreN at_22 rfl (L' := #[.val (.int i0), .val (.int i1), .val (.int v1), .val (.int (i0 &&& (127 : Int32))), .unset, .unset, .unset, .unset, .unset, .unset, .unset, .unset, .unset, .unset, .unset, .unset, .unset, .unset]) rfl ?_
      refine C0.goto at_23 (by decide) (by decide : _ = 49) ?_
      exact J49 _ (i0 &&& (127 : Int32)) C0 (by simp only [if_neg c5, if_pos c15])
  · refine C0.iloadN at_8 rfl rfl ?_
    refine C0.istoreN at_9 rfl (L' := #[.val (.int i0), .val (.int i1), .val (.int v1), .val (.int i0), .unset, .unset, .unset, .unset, .unset, .unset, .unset, .unset, .unset, .unset, .unset, .unset, .unset, .unset]) rfl ?_
    refine C0.goto at_10 (by decide) (by decide : _ = 49) ?_
    exact J49 _ i0 C0 (by simp only [if_pos c5])
set_option maxRecDepth 65536 in
set_option maxHeartbeats 40000000 in
theorem comes_1 {Post : Tables → Env → Array Value → State → Outcome → State → Prop} (hpost : ∀ tb e args s v u, (limb_1_1.after args s (.returned v) u = true ∧ limb_1_2.after args s (.returned v) u = true ∧ True) → FrameEnd s (.returned v) u (Jvm.fieldLocs frame_1_writes args s ++ Jvm.arrayLocs frame_1_arrays args s ++ Jvm.staticLocs frame_1_statics s) 0 0 → Post tb e args s (.returned v) u) :
    ArmFor flags0 classFile x code maxLocals ret World_1 tables_1 room_1 Calls_1 rest_1 Pre_1 Post := by
  intro l hfl _ _ p e ha hc hk s m args below hf hA hF happ hP
  obtain ⟨hcalls, hrest, hpre⟩ := hP
  obtain ⟨-, -, -, hnamed, -, -, -, hat⟩ := (Spec.applies_iff hf).mp happ
  obtain ⟨hg, hn⟩ := and_e (Cond.before_iff.mp (show (Jvm.Cond.and given_1 narrow_1).before args s = true from hpre))
  obtain ⟨g1, g2⟩ := and_e hg
  obtain ⟨g3, g4⟩ := and_e g2
  obtain ⟨w0, w1, rfl⟩ : ∃ w0 w1 : Value, args = #[w0, w1] := by
    have hs : args.size = 2 := by simpa [Cond.value, given_1] using g1
    obtain ⟨L⟩ := args
    match L, hs with
    | [w0, w1], _ => exact ⟨w0, w1, rfl⟩
  have hw := fun d (hd : d ∈ tables_1) => atoms_spec (ws := Jvm.Cond.code x code maxLocals ret :: tables_1) hat d (List.mem_cons_of_mem _ hd)
  have hfit : Fit s := fun {y c} hc i hi => by
    obtain ⟨ha, rfl⟩ := Array.getElem?_eq_some_iff.mp hc
    have q := List.all_eq_true.mp ((Array.all_eq_true_iff_forall_mem.mp hF) _ (Array.getElem_mem ha)) i (List.mem_range.mpr hi)
    simpa [Array.getElem?_eq_getElem hi] using q
  obtain ⟨i0, ei0⟩ := is_v g3
  obtain rfl : w0 = (.int i0) := Option.some.inj ei0
  obtain ⟨i1, ei1⟩ := is_v g4
  obtain rfl : w1 = (.int i1) := Option.some.inj ei1
  obtain ⟨n, o, h1, h2, h3, _, L, rfl, ⟨⟨rfl, -⟩, N⟩, hq⟩ := rm0 l s _ hw i0 i1 s.heap s.heap.size (Nat.le_refl _) tables_1 p e ha hc hk s m _ below hf ((Spec.applies_iff_loose hf).mp happ).1 ⟨rfl, State.Warmed39.refl s, rfl⟩ trivial
  refine ⟨n, _, h1, h2, h3, hpost _ _ _ _ _ _ ⟨Cond.after_iff.mpr rfl, Cond.after_iff.mpr (eq_i res_at (Term.int_eval (1)) rfl), trivial⟩ ⟨hq.1, hq.2.1, (hq.2.2.sift fun y hy => Or.inr (N y hy)).mono (by decide) (by decide)⟩⟩
theorem main_1_1 : Claimed_1_1 := comes_1 fun _ _ _ _ _ _ h hF => ⟨h.1, hF⟩
theorem main_1_2 : Claimed_1_2 := comes_1 fun _ _ _ _ _ _ h hF => ⟨h.2.1, hF⟩
end Jvm.Pilot.@@N@@
namespace Jvm.Pilot.@@N@@
open Jvm Jvm.ClassFile Sem Op Lib Jvm.Free Jvm.Stand Jvm.Pilot.@@N@@.Jvm.D
/-! MADE BY PROGRAM (witnessworld.py) out of the Statement's table words and the real class files: 9 classes; the members and pool entries that the words name. The judged class is class 1, her method 1. -/
namespace start1
open Jvm.ClassFile
def u (s : String) : CpInfo := .utf8 (stringToUtf16 s)
/-- a pool by its gaps: so many unusable entries, then the entry; so many at the end -/
def gap : Nat → List CpInfo → List CpInfo
  | 0, r => r
  | n + 1, r => .unusable :: gap n r
def poolList (es : List (Nat × CpInfo)) (last : Nat) : List CpInfo := es.foldr (fun e r => gap e.1 (e.2 :: r)) (gap last [])
def pool (es : List (Nat × CpInfo)) (last : Nat) : Array CpInfo := ⟨poolList es last⟩
def fileOf (pool : Array CpInfo) (this : Nat) (attrs : Array Attribute := #[]) (ms : Array MethodInfo := #[]) (fl : Nat := 33) (sup : Nat := 0) (ifs : Array Nat := #[]) (fds : Array FieldInfo := #[]) : ClassFile where
  minorVersion := 0
  majorVersion := 65
  constantPool := pool
  accessFlags := fl
  thisClass := this
  superClass := sup
  interfaces := ifs
  fields := fds
  methods := ms
  attributes := attrs
def plain (name : String) (sup : Option ClassId) : Class where
  name := name
  kind := .ordinary
  loader := none
  accessFlags := 33
  super := sup
  interfaces := #[]
  cf := none
  fields := #[]
  methods := #[]
  instanceTypes := #[]
  staticTypes := #[]
  resolved := #[]
  callSites := []
  init := .initialized
  statics := none
  mirror := none

def pool0 : Array CpInfo := pool [(5, u "<init>"), (0, u "()V"), (1, .class_ 10), (1, u "java/lang/Object")] 113

def k0m0 : Method := { name := "<init>", desc := "()V", sig := { parameters := [], returnType := none }, accessFlags := 1, code := none }
/-- java/lang/Object -/
def k0 : Class := { plain "java/lang/Object" none with
  accessFlags := 33
  interfaces := #[]
  cf := some (fileOf pool0 8 #[] #[{ accessFlags := 1, nameIndex := 5, descriptorIndex := 6, attributes := #[] }] 33 0 #[] #[])
  fields := #[]
  methods := #[k0m0]
  instanceTypes := #[]
  staticTypes := #[]
  resolved := Array.replicate 124 none
  statics := none }

def pool1 : Array CpInfo := pool [(2, .class_ 4), (1, u "java/lang/Object"), (0, u "<init>"), (0, u "()V"), (0, .integer 65535), (0, .long 97), (1, .long 65), (1, .long 48), (1, .long 26), (1, .long 10), (1, .long 95), (1, .methodref 21 22), (0, .class_ 23), (0, .nameAndType 24 25), (0, u "com/example/nestor/nestor/lang/Identifiers"), (0, u "isPart"), (0, u "(I)Z"), (0, .methodref 21 27), (0, .nameAndType 28 25), (0, u "isStart"), (0, .methodref 21 30), (0, .nameAndType 31 25), (0, u "isVariableStart"), (0, .class_ 33), (0, u "com/example/nestor/nestor/lang/IdentifiersIsPartPinLaw"), (2, u "law"), (0, u "(II)Z")] 3

def k1m0 : Method := { name := "<init>", desc := "()V", sig := { parameters := [], returnType := none }, accessFlags := 2, code := none }
def k1c1 : Code := { maxStack := 4, maxLocals := 18, code := code, exceptionTable := #[], attributes := #[] }
def k1m1 : Method := { name := "law", desc := "(II)Z", sig := { parameters := [.int, .int], returnType := some .boolean }, accessFlags := 9, code := some k1c1 }
/-- com/example/nestor/nestor/lang/IdentifiersIsPartPinLaw -/
def k1 : Class := { plain "com/example/nestor/nestor/lang/IdentifiersIsPartPinLaw" (some 0) with
  accessFlags := 49
  interfaces := #[]
  cf := some (fileOf pool1 32 #[] #[{ accessFlags := 2, nameIndex := 5, descriptorIndex := 6, attributes := #[] }, { accessFlags := 9, nameIndex := 36, descriptorIndex := 37, attributes := #[] }] 49 2 #[] #[])
  fields := #[]
  methods := #[k1m0, k1m1]
  instanceTypes := #[]
  staticTypes := #[]
  resolved := Array.replicate 41 none
  statics := none }

def pool2 : Array CpInfo := pool [(2, .class_ 4), (1, u "java/lang/Object"), (0, u "<init>"), (0, u "()V"), (11, .class_ 20), (1, u "com/example/nestor/nestor/lang/Identifiers"), (0, u "isStart"), (0, u "(I)Z"), (6, u "isVariableStart"), (6, u "isPart")] 7

def k2m0 : Method := { name := "<init>", desc := "()V", sig := { parameters := [], returnType := none }, accessFlags := 2, code := none }
def k2c1 : Code := { maxStack := 2, maxLocals := 1, code := prog_47_method_2_code, exceptionTable := #[], attributes := #[] }
def k2m1 : Method := { name := "isStart", desc := "(I)Z", sig := { parameters := [.int], returnType := some .boolean }, accessFlags := 8, code := some k2c1 }
def k2c2 : Code := { maxStack := 2, maxLocals := 1, code := prog_47_method_3_code, exceptionTable := #[], attributes := #[] }
def k2m2 : Method := { name := "isVariableStart", desc := "(I)Z", sig := { parameters := [.int], returnType := some .boolean }, accessFlags := 8, code := some k2c2 }
def k2c3 : Code := { maxStack := 2, maxLocals := 1, code := prog_47_method_4_code, exceptionTable := #[], attributes := #[] }
def k2m3 : Method := { name := "isPart", desc := "(I)Z", sig := { parameters := [.int], returnType := some .boolean }, accessFlags := 8, code := some k2c3 }
/-- com/example/nestor/nestor/lang/Identifiers -/
def k2 : Class := { plain "com/example/nestor/nestor/lang/Identifiers" (some 0) with
  accessFlags := 32
  interfaces := #[]
  cf := some (fileOf pool2 18 #[] #[{ accessFlags := 2, nameIndex := 5, descriptorIndex := 6, attributes := #[] }, { accessFlags := 8, nameIndex := 21, descriptorIndex := 22, attributes := #[] }, { accessFlags := 8, nameIndex := 29, descriptorIndex := 22, attributes := #[] }, { accessFlags := 8, nameIndex := 36, descriptorIndex := 22, attributes := #[] }] 32 2 #[] #[])
  fields := #[]
  methods := #[k2m0, k2m1, k2m2, k2m3]
  instanceTypes := #[]
  staticTypes := #[]
  resolved := Array.replicate 44 none
  statics := none }

def pool3 : Array CpInfo := pool [(1, u "java/lang/Cloneable"), (0, .class_ 1), (0, u "java/lang/Object"), (0, .class_ 3)] 3

/-- java/lang/Cloneable -/
def k3 : Class := { plain "java/lang/Cloneable" (some 0) with
  accessFlags := 1537
  interfaces := #[]
  cf := some (fileOf pool3 2 #[] #[] 1537 4 #[] #[])
  fields := #[]
  methods := #[]
  instanceTypes := #[]
  staticTypes := #[]
  resolved := Array.replicate 8 none
  statics := none }

def pool4 : Array CpInfo := pool [(1, u "java/io/Serializable"), (0, .class_ 1), (0, u "java/lang/Object"), (0, .class_ 3)] 3

/-- java/io/Serializable -/
def k4 : Class := { plain "java/io/Serializable" (some 0) with
  accessFlags := 1537
  interfaces := #[]
  cf := some (fileOf pool4 2 #[] #[] 1537 4 #[] #[])
  fields := #[]
  methods := #[]
  instanceTypes := #[]
  staticTypes := #[]
  resolved := Array.replicate 8 none
  statics := none }

/-- the primitive byte -/
def k5 : Class := { plain "byte" none with kind := .primitive 'B', accessFlags := 0x411 }
/-- [B -/
def k6 : Class := { plain "[B" (some 0) with kind := .array 5 .byte, interfaces := #[3, 4], accessFlags := 1041 }

/-- the primitive int -/
def k7 : Class := { plain "int" none with kind := .primitive 'I', accessFlags := 0x411 }
/-- [I -/
def k8 : Class := { plain "[I" (some 0) with kind := .array 7 .int, interfaces := #[3, 4], accessFlags := 1041 }

def heap : Heap := #[]
def classes : Array Class := #[k0, k1, k2, k3, k4, k5, k6, k7, k8]
def interned : List (Array UInt16 × Addr) := []
def slotsUsed : Nat := 0
def theMethod : MethodId := ⟨1, 1⟩
def args0 : Array Value := #[.int 70, .int 2]
def aboutOver (below : List Frame) : State where
  vm := { classes := classes, interned := interned.toArray }
  heap := heap
  slotsUsed := slotsUsed
  threads := #[{ frames := .invoking theMethod args0 :: below }]
def below0 : List Frame := [.native { method := ⟨0, 0⟩, args := #[] }]
def about1 : State := aboutOver below0
def p0 : Program := .bare "" "" ""
def e0 : Env := launch0.env 0 0 0
theorem w_frames : about1.frames = Frame.invoking theMethod args0 :: below0 := rfl
set_option maxRecDepth 65536 in
theorem w_args : argsFit about1.vm theMethod args0 = true := by decide +kernel
set_option maxRecDepth 65536 in
theorem w_heap : heapFits about1 = true := by decide +kernel
set_option maxRecDepth 65536 in
theorem w_runnable : about1.curStatus? = some .runnable := by decide +kernel
set_option maxRecDepth 65536 in
theorem w_alone : about1.alone = true := by decide +kernel
set_option maxRecDepth 65536 in
theorem w_named : about1.methodNamed? x = some theMethod := by decide +kernel
set_option maxRecDepth 65536 in
theorem w_hears : about1.hears theMethod below0 = true := by decide +kernel
set_option maxRecDepth 65536 in
theorem w_ripe : about1.ripe theMethod args0 below0 = true := by decide +kernel
theorem w_running : about1.status = .running := rfl
set_option maxRecDepth 65536 in
theorem w_room : about1.hasRoom e0.platform room_1 = true :=
  launch0.hasRoom_least _ room_1 (by decide +kernel) (by decide +kernel) (by decide +kernel) (by decide +kernel) (by decide +kernel) (by decide +kernel)
theorem allAtoms_all (ts : List Jvm.Cond) (a : Array Jvm.Value) (st : Jvm.State) : (allAtoms ts).before a st = ts.all (fun c => c.before a st) := by
  induction ts with
  | nil => rfl
  | cons c t ih =>
    show (Jvm.Cond.and c (allAtoms t)).before a st = _
    rw [Jvm.Cond.before_and, ih, List.all_cons]
def words1 : List Jvm.Cond := Jvm.Cond.code x code maxLocals ret :: tables_1
/-- a 'code' word, met by the world's own term for the bytes: nothing is compared byte by byte -/
theorem code_word {y : MethodName} {bytes : ByteArray} {mx : Nat} {rt : Option FieldType} {a : Array Value} {s : State} {m : MethodId} {meth : Method} {c : Code} (h1 : s.methodNamed? y = some m) (h2 : s.vm.method? m = some meth) (h3 : meth.code = some c) (h4 : c.code = bytes)
    (h5 : (c.maxLocals == mx && c.exceptionTable.isEmpty && decide (c.maxStack ≤ mostOperands) && decide (meth.sig.returnType = rt) && !meth.locks && decide (parseMethodDescriptor y.desc = some meth.sig)) = true) : (Jvm.Cond.code y bytes mx rt).before a s = true := by
  simp only [Bool.and_eq_true, beq_iff_eq, Bool.not_eq_true', decide_eq_true_eq] at h5
  obtain ⟨⟨⟨⟨⟨g1, g2⟩, g3⟩, g4⟩, g5⟩, g6⟩ := h5
  simp [Cond.before, Cond.holds, Cond.value, h1, h2, h3, h4, g1, g2, g3, g4, g5, g6]
def isCode : Jvm.Cond → Bool
  | .code _ _ _ _ => true
  | _ => false
theorem all_split {L : List Jvm.Cond} {P : Jvm.Cond → Bool} (h1 : L.all (fun c => isCode c || P c) = true) (h2 : ∀ c ∈ L.filter isCode, P c = true) : L.all P = true := by
  refine List.all_eq_true.mpr fun c hc => ?_
  have h := List.all_eq_true.mp h1 c hc
  rcases Bool.eq_false_or_eq_true (isCode c) with hi | hi
  · exact h2 c (List.mem_filter.mpr ⟨hc, hi⟩)
  · simpa [hi] using h
set_option maxRecDepth 65536 in
theorem w_c0 : (Jvm.Cond.code x code maxLocals ret).before args0 about1 = true := code_word (m := ⟨1, 1⟩) (meth := k1m1) (c := k1c1) (by decide +kernel) rfl rfl rfl (by decide +kernel)
set_option maxRecDepth 65536 in
theorem w_c1 : (Jvm.Cond.code ({ cls := "com/example/nestor/nestor/lang/Identifiers", name := "isPart", desc := "(I)Z" } : Jvm.MethodName) prog_47_method_4_code (1 : Nat) (Option.some Jvm.ClassFile.FieldType.boolean)).before args0 about1 = true := code_word (m := ⟨2, 3⟩) (meth := k2m3) (c := k2c3) (by decide +kernel) rfl rfl rfl (by decide +kernel)
set_option maxRecDepth 65536 in
theorem w_c2 : (Jvm.Cond.code ({ cls := "com/example/nestor/nestor/lang/Identifiers", name := "isStart", desc := "(I)Z" } : Jvm.MethodName) prog_47_method_2_code (1 : Nat) (Option.some Jvm.ClassFile.FieldType.boolean)).before args0 about1 = true := code_word (m := ⟨2, 1⟩) (meth := k2m1) (c := k2c1) (by decide +kernel) rfl rfl rfl (by decide +kernel)
set_option maxRecDepth 65536 in
theorem w_c3 : (Jvm.Cond.code ({ cls := "com/example/nestor/nestor/lang/Identifiers", name := "isVariableStart", desc := "(I)Z" } : Jvm.MethodName) prog_47_method_3_code (1 : Nat) (Option.some Jvm.ClassFile.FieldType.boolean)).before args0 about1 = true := code_word (m := ⟨2, 2⟩) (meth := k2m2) (c := k2c2) (by decide +kernel) rfl rfl rfl (by decide +kernel)
def codes1 : List Jvm.Cond := [Jvm.Cond.code x code maxLocals ret, Jvm.Cond.code ({ cls := "com/example/nestor/nestor/lang/Identifiers", name := "isPart", desc := "(I)Z" } : Jvm.MethodName) prog_47_method_4_code (1 : Nat) (Option.some Jvm.ClassFile.FieldType.boolean), Jvm.Cond.code ({ cls := "com/example/nestor/nestor/lang/Identifiers", name := "isStart", desc := "(I)Z" } : Jvm.MethodName) prog_47_method_2_code (1 : Nat) (Option.some Jvm.ClassFile.FieldType.boolean), Jvm.Cond.code ({ cls := "com/example/nestor/nestor/lang/Identifiers", name := "isVariableStart", desc := "(I)Z" } : Jvm.MethodName) prog_47_method_3_code (1 : Nat) (Option.some Jvm.ClassFile.FieldType.boolean)]
set_option maxRecDepth 65536 in
theorem codes_eq : words1.filter isCode = codes1 := rfl
theorem w_codes : ∀ c ∈ words1.filter isCode, c.before args0 about1 = true := by
  rw [codes_eq]
  intro c hc
  simp only [codes1, List.mem_cons, List.not_mem_nil, or_false] at hc
  rcases hc with rfl | rfl | rfl | rfl
  · exact w_c0
  · exact w_c1
  · exact w_c2
  · exact w_c3
set_option maxRecDepth 65536 in
theorem w_t1 : words1.all (fun c => isCode c || c.before args0 about1) = true := by decide +kernel
theorem w_tables : (allAtoms (Jvm.Cond.code x code maxLocals ret :: tables_1)).before args0 about1 = true := by
  rw [allAtoms_all]
  show words1.all (fun c => c.before args0 about1) = true
  refine all_split ?_ w_codes
  rw [w_t1]
set_option maxRecDepth 65536 in
theorem w_case : (Jvm.Cond.and given_1 narrow_1).before args0 about1 = true := by decide +kernel
theorem w_applies : (headSpec (Jvm.Cond.code x code maxLocals ret :: tables_1) room_1).applies x e0.platform about1 = true :=
  (Spec.applies_iff w_frames).mpr ⟨w_running, w_runnable, w_alone, w_named, w_hears, w_ripe, w_room, w_tables⟩
theorem atStart : AtStart classFile x code maxLocals ret World_1 tables_1 room_1 Calls_1 rest_1 Pre_1 launch0 p0 e0 about1 theMethod args0 below0 :=
  ⟨lists_1, trivial, launch0.admits_env _ _ _, launch0.least_env, fairChoices_fair.cas, fairChoices_fair.clock, w_frames, w_args, w_heap, w_applies, trivial, trivial, w_case⟩
end start1
theorem witness_1 : WitnessClaimed_1 := ⟨start1.p0, start1.e0, start1.about1, start1.theMethod, start1.args0, start1.below0, start1.atStart⟩
end Jvm.Pilot.@@N@@
