import JvmDerived
import JvmDerived.Pilot.@@N@@Statement
import JvmDerived.Pilot.@@N@@Code
set_option linter.unusedVariables false
set_option linter.unusedSimpArgs false
namespace Jvm.Ow
open Sem ClassFile Op Lib Jvm.Stand Jvm.Free Jvm.LawKit Jvm.RoadKit
def WideEnd (s : State) (o : Outcome) (t : State) (L : List Loc) (k n : Nat) : Prop :=
  (∃ v : Option Value, o = Outcome.returned v) ∧ s.Warmed39 t.vm ∧ (∀ (j : Nat) (p : Array UInt16 × Addr), s.vm.interned.size ≤ j → t.vm.interned[j]? = some p → s.heap.size ≤ p.2 ∧ p.2 < t.heap.size) ∧ s.sameButNew { t with vm := s.vm } L k n
def EndF (wd : Bool) (s : State) (o : Outcome) (t : State) (L : List Loc) (k n : Nat) : Prop := match wd with
  | true => WideEnd s o t L k n
  | false => FrameEnd s o t L k n
theorem EndF.of {wd : Bool} {s : State} {o : Outcome} {t : State} {L : List Loc} {k n : Nat} (h : FrameEnd s o t L k n) : EndF wd s o t L k n := by
  cases wd
  · exact h
  · exact wide h
def Cx (p : Program) (l : Launch) (e : Env) (R : Room) (m : MethodId) (args : Array Value) (below : List Frame) (meth : Method) (c : Code) (Z : State) (y : MethodName) (bytes : ByteArray) (ml : Nat) (ret : Option FieldType) (n0 : Nat) (wd : Bool) (F : Outcome → State → List Loc → Prop) (T : State) (h : Heap) (cells slots : Nat) : Prop :=
  ∃ s locs, Stand p l e R s m args below meth c T locs cells slots ∧ p.tables.exec = Jvm.exec ∧ c.code = bytes ∧ c.maxLocals = ml ∧ Z.Warmed39 s.vm ∧ s.vm.findClass y.cls = some m.cls ∧ meth.name = y.name ∧ meth.sig.returnType = ret ∧ meth.locks = false ∧ T.heap = h ∧ Fr n0 locs ∧ n0 ≤ s.heap.size ∧ ∀ o t L, h.size ≤ t.heap.size → EndF wd s o t L R.cells R.slots → F o t L
def Go (p : Program) (e : Env) (below : List Frame) (F : Outcome → State → List Loc → Prop) (n0 : Nat) (Q : Option Value → Heap → Prop) (T : State) (f : JFrame) : Prop :=
  ∃ s₂ o, Steps p.tables e below (T.setTop f) s₂ ∧ s₂.status = .running ∧ Ended s₂ below o ∧ ∃ v L, o = .returned v ∧ (Q v s₂.heap ∧ Fr n0 L ∧ n0 ≤ s₂.heap.size) ∧ F o s₂ L
def Ctr (l : Launch) (Z : State) (y : MethodName) (bytes : ByteArray) (ml : Nat) (ret : Option FieldType) (R : Room) (as' : Array Value) (h : Heap) (n0 : Nat) (Q : Option Value → Heap → Prop) : Prop :=
  ∀ ws : List Jvm.Cond, MetFree l y (head1 (Jvm.Cond.code y bytes ml ret :: ws) R) (fun a U => a = as' ∧ Z.Warmed39 U.vm ∧ U.heap = h) (fun _ _ _ _ _ => True) (fun _ U o U' => ∃ v L, o = .returned v ∧ ((Q v U'.heap ∧ h.size ≤ U'.heap.size) ∧ Fr n0 L) ∧ FrameEnd U o U' L R.cells R.slots)
section Layer
variable {p : Program} {l : Launch} {e : Env} {R : Room} {m : MethodId} {args : Array Value} {below : List Frame} {meth : Method} {c : Code} {T T' : State} {cells slots : Nat} {Z : State} {a0 : Array Value} {h : Heap} {y : MethodName} {bytes : ByteArray} {ml n0 : Nat} {ret : Option FieldType} {wd : Bool} {F : Outcome → State → List Loc → Prop} {Q : Option Value → Heap → Prop} {pc pc' : Nat} {L L' : Array Slot} {S : List Value}
theorem Ctr.body {as' : Array Value} (hpl : plainFor y = true) (hn : n0 ≤ h.size) (ef : ∀ m, entryFrame m as' ml = mkF m 0 L [])
    (k : ∀ (p : Program) (e : Env) (F : Outcome → State → List Loc → Prop) (m : MethodId) (below : List Frame) (meth : Method) (c : Code) (T : State), Cx p l e R m as' below meth c Z y bytes ml ret n0 false F T h 0 0 → Go p e below F n0 Q T (mkF m 0 L [])) : Ctr l Z y bytes ml ret R as' h n0 Q := by
  intro ws
  refine MetFree.of_bodySF hpl hisR ?_
  intro p e s m args below meth c s₁ Bd hml0 hP hK
  obtain ⟨rfl, hZ, hh⟩ := hP
  obtain ⟨s₂, o, g1, g2, g3, v, L9, g4, ⟨g5, g6, -⟩, g7⟩ := k p e (fun o t L => FrameEnd s o t L R.cells R.slots) m below meth c s₁ ⟨s, [], Stand.of_body Bd, Bd.exec, Bd.bytes, hml0, hZ, findClass_of_methodNamed Bd.named, (name_of_methodNamed Bd.named Bd.method).1, Bd.returns, Bd.notSynchronized, by rw [← hh, Bd.state]; rfl, Fr.nil n0, by rw [hh]; exact hn, fun _ _ _ _ q => q⟩
  rw [ef m]
  exact ⟨s₂, o, g1, g2, g3, v, L9, g4, ⟨⟨g5, by rw [← hh]; exact g7.2.2.2.1⟩, g6⟩, g7⟩
theorem Go.via {f f' : JFrame} (k : Go p e below F n0 Q T' f') (hs : ∀ t, Steps p.tables e below (T'.setTop f') t → Steps p.tables e below (T.setTop f) t) : Go p e below F n0 Q T f := by
  obtain ⟨s₂, o, h1, h2⟩ := k; exact ⟨s₂, o, hs _ h1, h2⟩
theorem Cx.size (C : Cx p l e R m args below meth c Z y bytes ml ret n0 wd F T h cells slots) : n0 ≤ h.size := by
  obtain ⟨s, locs, X, -, -, -, -, -, -, -, -, rfl, -, hn, -⟩ := C
  exact Nat.le_trans hn X.same.2.1
theorem Cx.iload (C : Cx p l e R m args below meth c Z y bytes ml ret n0 wd F T h cells slots) {k : Nat} {v : Int32} (hd : decode bytes pc = .ok (.iload k, 2)) (hp : pc + 2 = pc') (hl : L[k]? = some (.val (.int v))) (K : Go p e below F n0 Q T (mkF m pc' L (.int v :: S))) : Go p e below F n0 Q T (mkF m pc L S) := by
  obtain ⟨s, locs, X, hx, rfl, -⟩ := C; subst hp
  exact K.via fun t k => XS.iload X.here hx rfl hd hl k
theorem Cx.istore (C : Cx p l e R m args below meth c Z y bytes ml ret n0 wd F T h cells slots) {k : Nat} {x : Int32} (hd : decode bytes pc = .ok (.istore k, 2)) (hp : pc + 2 = pc') (hl : storeLocals L k (.int x) = some L') (K : Go p e below F n0 Q T (mkF m pc' L' S)) : Go p e below F n0 Q T (mkF m pc L (.int x :: S)) := by
  obtain ⟨s, locs, X, hx, rfl, -⟩ := C; subst hp
  exact K.via fun t k => XS.istore X.here hx rfl hd rfl hl k
theorem Cx.istoreV (C : Cx p l e R m args below meth c Z y bytes ml ret n0 wd F T h cells slots) {k : Nat} {x : Int32} (Lf : Int32 → Array Slot) (hd : decode bytes pc = .ok (.istore k, 2)) (hp : pc + 2 = pc') (hl : ∀ v, storeLocals L k (.int v) = some (Lf v)) (K : ∀ v, v = x → Go p e below F n0 Q T (mkF m pc' (Lf v) S)) : Go p e below F n0 Q T (mkF m pc L (.int x :: S)) :=
  C.istore hd hp (hl x) (K x rfl)
theorem Cx.lloadN (C : Cx p l e R m args below meth c Z y bytes ml ret n0 wd F T h cells slots) {k : Fin 4} {v : Int64} (hd : decode bytes pc = .ok (.lload_n k, 1)) (hp : pc + 1 = pc') (hl : L[k.val]? = some (.val (.long v))) (K : Go p e below F n0 Q T (mkF m pc' L (.long v :: S))) : Go p e below F n0 Q T (mkF m pc L S) := by
  obtain ⟨s, locs, X, hx, rfl, -⟩ := C; subst hp
  exact K.via fun t k => XT.lloadN X.here hx rfl hd hl k
theorem Cx.lload (C : Cx p l e R m args below meth c Z y bytes ml ret n0 wd F T h cells slots) {k : Nat} {v : Int64} (hd : decode bytes pc = .ok (.lload k, 2)) (hp : pc + 2 = pc') (hl : L[k]? = some (.val (.long v))) (K : Go p e below F n0 Q T (mkF m pc' L (.long v :: S))) : Go p e below F n0 Q T (mkF m pc L S) := by
  obtain ⟨s, locs, X, hx, rfl, -⟩ := C; subst hp
  exact K.via fun t k => XT.lload X.here hx rfl hd hl k
theorem Cx.lstore (C : Cx p l e R m args below meth c Z y bytes ml ret n0 wd F T h cells slots) {k : Nat} {x : Int64} (hd : decode bytes pc = .ok (.lstore k, 2)) (hp : pc + 2 = pc') (hl : storeLocals L k (.long x) = some L') (K : Go p e below F n0 Q T (mkF m pc' L' S)) : Go p e below F n0 Q T (mkF m pc L (.long x :: S)) := by
  obtain ⟨s, locs, X, hx, rfl, -⟩ := C; subst hp
  exact K.via fun t k => XT.lstore X.here hx rfl hd rfl hl k
theorem Cx.lstoreV (C : Cx p l e R m args below meth c Z y bytes ml ret n0 wd F T h cells slots) {k : Nat} {x : Int64} (Lf : Int64 → Array Slot) (hd : decode bytes pc = .ok (.lstore k, 2)) (hp : pc + 2 = pc') (hl : ∀ v, storeLocals L k (.long v) = some (Lf v)) (K : ∀ v, v = x → Go p e below F n0 Q T (mkF m pc' (Lf v) S)) : Go p e below F n0 Q T (mkF m pc L (.long x :: S)) :=
  C.lstore hd hp (hl x) (K x rfl)
theorem Cx.aloadN (C : Cx p l e R m args below meth c Z y bytes ml ret n0 wd F T h cells slots) {k : Fin 4} {v : Value} (hd : decode bytes pc = .ok (.aload_n k, 1)) (hp : pc + 1 = pc') (hl : L[k.val]? = some (.val v)) (hv : v.isRef = true) (K : Go p e below F n0 Q T (mkF m pc' L (v :: S))) : Go p e below F n0 Q T (mkF m pc L S) := by
  obtain ⟨s, locs, X, hx, rfl, -⟩ := C; subst hp
  exact K.via fun t k => XS.aloadN X.here hx rfl hd hl hv k
theorem Cx.aload (C : Cx p l e R m args below meth c Z y bytes ml ret n0 wd F T h cells slots) {k : Nat} {v : Value} (hd : decode bytes pc = .ok (.aload k, 2)) (hp : pc + 2 = pc') (hl : L[k]? = some (.val v)) (hv : v.isRef = true) (K : Go p e below F n0 Q T (mkF m pc' L (v :: S))) : Go p e below F n0 Q T (mkF m pc L S) := by
  obtain ⟨s, locs, X, hx, rfl, -⟩ := C; subst hp
  exact K.via fun t k => XS.aload X.here hx rfl hd hl hv k
theorem Cx.astore (C : Cx p l e R m args below meth c Z y bytes ml ret n0 wd F T h cells slots) {k : Nat} {x : Value} (hd : decode bytes pc = .ok (.astore k, 2)) (hp : pc + 2 = pc') (hv : x.isRef = true) (hl : storeLocals L k x = some L') (K : Go p e below F n0 Q T (mkF m pc' L' S)) : Go p e below F n0 Q T (mkF m pc L (x :: S)) := by
  obtain ⟨s, locs, X, hx, rfl, -⟩ := C; subst hp
  exact K.via fun t k => XS.astore X.here hx rfl hd rfl hv hl k
theorem Cx.iconst (C : Cx p l e R m args below meth c Z y bytes ml ret n0 wd F T h cells slots) {i : Int} (v : Int32) (hd : decode bytes pc = .ok (.iconst i, 1)) (hp : pc + 1 = pc') (hv : Int32.ofInt i = v) (K : Go p e below F n0 Q T (mkF m pc' L (.int v :: S))) : Go p e below F n0 Q T (mkF m pc L S) := by
  obtain ⟨s, locs, X, hx, rfl, -⟩ := C; subst hp
  exact K.via fun t k => XT.iconstV X.here hx rfl v hd hv k
theorem Cx.lconst (C : Cx p l e R m args below meth c Z y bytes ml ret n0 wd F T h cells slots) {i : Fin 2} (v : Int64) (hd : decode bytes pc = .ok (.lconst i, 1)) (hp : pc + 1 = pc') (hv : Int64.ofNat i = v) (K : Go p e below F n0 Q T (mkF m pc' L (.long v :: S))) : Go p e below F n0 Q T (mkF m pc L S) := by
  obtain ⟨s, locs, X, hx, rfl, -⟩ := C; subst hp
  exact K.via fun t k => XT.lconstV X.here hx rfl v hd hv k
theorem Cx.iand (C : Cx p l e R m args below meth c Z y bytes ml ret n0 wd F T h cells slots) {x z : Int32} (hd : decode bytes pc = .ok (.iand, 1)) (hp : pc + 1 = pc')  (K : Go p e below F n0 Q T (mkF m pc' L (.int (x &&& z) :: S))) : Go p e below F n0 Q T (mkF m pc L (.int z :: .int x :: S)) := by
  obtain ⟨s, locs, X, hx, rfl, -⟩ := C; subst hp
  exact K.via fun t k => XS.iand X.here hx rfl hd rfl k
theorem Cx.ladd (C : Cx p l e R m args below meth c Z y bytes ml ret n0 wd F T h cells slots) {x z : Int64} (hd : decode bytes pc = .ok (.ladd, 1)) (hp : pc + 1 = pc')  (K : Go p e below F n0 Q T (mkF m pc' L (.long (x + z) :: S))) : Go p e below F n0 Q T (mkF m pc L (.long z :: .long x :: S)) := by
  obtain ⟨s, locs, X, hx, rfl, -⟩ := C; subst hp
  exact K.via fun t k => XT.ladd X.here hx rfl hd rfl k
theorem Cx.lsub (C : Cx p l e R m args below meth c Z y bytes ml ret n0 wd F T h cells slots) {x z : Int64} (hd : decode bytes pc = .ok (.lsub, 1)) (hp : pc + 1 = pc')  (K : Go p e below F n0 Q T (mkF m pc' L (.long (x - z) :: S))) : Go p e below F n0 Q T (mkF m pc L (.long z :: .long x :: S)) := by
  obtain ⟨s, locs, X, hx, rfl, -⟩ := C; subst hp
  exact K.via fun t k => XT.lsub X.here hx rfl hd rfl k
theorem Cx.land (C : Cx p l e R m args below meth c Z y bytes ml ret n0 wd F T h cells slots) {x z : Int64} (hd : decode bytes pc = .ok (.land, 1)) (hp : pc + 1 = pc')  (K : Go p e below F n0 Q T (mkF m pc' L (.long (x &&& z) :: S))) : Go p e below F n0 Q T (mkF m pc L (.long z :: .long x :: S)) := by
  obtain ⟨s, locs, X, hx, rfl, -⟩ := C; subst hp
  exact K.via fun t k => XT.land X.here hx rfl hd rfl k
theorem Cx.dup (C : Cx p l e R m args below meth c Z y bytes ml ret n0 wd F T h cells slots) {x : Value} (hd : decode bytes pc = .ok (.dup, 1)) (hp : pc + 1 = pc') (hc : x.category = 1) (K : Go p e below F n0 Q T (mkF m pc' L (x :: x :: S))) : Go p e below F n0 Q T (mkF m pc L (x :: S)) := by
  obtain ⟨s, locs, X, hx, rfl, -⟩ := C; subst hp
  exact K.via fun t k => XS.dup X.here hx rfl hd rfl hc k
theorem Cx.goto (C : Cx p l e R m args below meth c Z y bytes ml ret n0 wd F T h cells slots) {o : Int} (hd : decode bytes pc = .ok (.goto o, 3)) (ho : 0 ≤ (pc : Int) + o) (hp : ((pc : Int) + o).toNat = pc') (K : Go p e below F n0 Q T (mkF m pc' L S)) : Go p e below F n0 Q T (mkF m pc L S) := by
  obtain ⟨s, locs, X, hx, rfl, -⟩ := C
  exact K.via fun t k => XS.goto X.here hx rfl rfl hd ho hp k
theorem Cx.if_eq (C : Cx p l e R m args below meth c Z y bytes ml ret n0 wd F T h cells slots) {x : Int32} {o : Int} {py pn : Nat} (hd : decode bytes pc = .ok (.ifCond .eq o, 3)) (ho : 0 ≤ (pc : Int) + o) (hy : ((pc : Int) + o).toNat = py) (hn : pc + 3 = pn) (K1 : x = (0 : Int32) → Go p e below F n0 Q T (mkF m py L S)) (K2 : ¬ x = (0 : Int32) → Go p e below F n0 Q T (mkF m pn L S)) : Go p e below F n0 Q T (mkF m pc L (.int x :: S)) := by
  obtain ⟨s, locs, X, hx, rfl, -⟩ := C; subst hn
  by_cases q : x = (0 : Int32)
  · exact (K1 q).via fun t k => XS.ifYes X.here hx rfl rfl hd rfl (XT.i0_eq_t q) ho hy k
  · exact (K2 q).via fun t k => XS.ifNo X.here hx rfl hd rfl (XT.i0_eq_f q) k
theorem Cx.icmp_ne (C : Cx p l e R m args below meth c Z y bytes ml ret n0 wd F T h cells slots) {x z : Int32} {o : Int} {py pn : Nat} (hd : decode bytes pc = .ok (.if_icmp .ne o, 3)) (ho : 0 ≤ (pc : Int) + o) (hy : ((pc : Int) + o).toNat = py) (hn : pc + 3 = pn) (K1 : ¬ x = z → Go p e below F n0 Q T (mkF m py L S)) (K2 : x = z → Go p e below F n0 Q T (mkF m pn L S)) : Go p e below F n0 Q T (mkF m pc L (.int z :: .int x :: S)) := by
  obtain ⟨s, locs, X, hx, rfl, -⟩ := C; subst hn
  by_cases q : x = z
  · exact (K2 q).via fun t k => XS.icmpNo X.here hx rfl hd rfl (XT.ii_ne_f q) k
  · exact (K1 q).via fun t k => XS.icmpYes X.here hx rfl rfl hd rfl (XT.ii_ne_t q) ho hy k
theorem Cx.if_ne (C : Cx p l e R m args below meth c Z y bytes ml ret n0 wd F T h cells slots) {x : Int32} {o : Int} {py pn : Nat} (hd : decode bytes pc = .ok (.ifCond .ne o, 3)) (ho : 0 ≤ (pc : Int) + o) (hy : ((pc : Int) + o).toNat = py) (hn : pc + 3 = pn) (K1 : ¬ x = (0 : Int32) → Go p e below F n0 Q T (mkF m py L S)) (K2 : x = (0 : Int32) → Go p e below F n0 Q T (mkF m pn L S)) : Go p e below F n0 Q T (mkF m pc L (.int x :: S)) := by
  obtain ⟨s, locs, X, hx, rfl, -⟩ := C; subst hn
  by_cases q : x = (0 : Int32)
  · exact (K2 q).via fun t k => XS.ifNo X.here hx rfl hd rfl (XT.i0_ne_f q) k
  · exact (K1 q).via fun t k => XS.ifYes X.here hx rfl rfl hd rfl (XT.i0_ne_t q) ho hy k
theorem Cx.lif_lt (C : Cx p l e R m args below meth c Z y bytes ml ret n0 wd F T h cells slots) {x z : Int64} {o : Int} {p1 py pn : Nat} (hd1 : decode bytes pc = .ok (.lcmp, 1)) (hp1 : pc + 1 = p1) (hd : decode bytes p1 = .ok (.ifCond .lt o, 3)) (ho : 0 ≤ (p1 : Int) + o) (hy : ((p1 : Int) + o).toNat = py) (hn : p1 + 3 = pn) (K1 : x < z → Go p e below F n0 Q T (mkF m py L S)) (K2 : ¬ x < z → Go p e below F n0 Q T (mkF m pn L S)) : Go p e below F n0 Q T (mkF m pc L (.long z :: .long x :: S)) := by
  obtain ⟨s, locs, X, hx, rfl, -⟩ := C; subst hn; subst hp1
  by_cases q : x < z
  · exact (K1 q).via fun t k => XT.lcmp X.here hx rfl hd1 rfl (XS.ifYes X.here hx rfl rfl hd rfl (XT.ll_lt_t q) ho hy k)
  · exact (K2 q).via fun t k => XT.lcmp X.here hx rfl hd1 rfl (XS.ifNo X.here hx rfl hd rfl (XT.ll_lt_f q) k)
theorem Cx.lif_ge (C : Cx p l e R m args below meth c Z y bytes ml ret n0 wd F T h cells slots) {x z : Int64} {o : Int} {p1 py pn : Nat} (hd1 : decode bytes pc = .ok (.lcmp, 1)) (hp1 : pc + 1 = p1) (hd : decode bytes p1 = .ok (.ifCond .ge o, 3)) (ho : 0 ≤ (p1 : Int) + o) (hy : ((p1 : Int) + o).toNat = py) (hn : p1 + 3 = pn) (K1 : ¬ x < z → Go p e below F n0 Q T (mkF m py L S)) (K2 : x < z → Go p e below F n0 Q T (mkF m pn L S)) : Go p e below F n0 Q T (mkF m pc L (.long z :: .long x :: S)) := by
  obtain ⟨s, locs, X, hx, rfl, -⟩ := C; subst hn; subst hp1
  by_cases q : x < z
  · exact (K2 q).via fun t k => XT.lcmp X.here hx rfl hd1 rfl (XS.ifNo X.here hx rfl hd rfl (XT.ll_ge_f q) k)
  · exact (K1 q).via fun t k => XT.lcmp X.here hx rfl hd1 rfl (XS.ifYes X.here hx rfl rfl hd rfl (XT.ll_ge_t q) ho hy k)
theorem Cx.lif_le (C : Cx p l e R m args below meth c Z y bytes ml ret n0 wd F T h cells slots) {x z : Int64} {o : Int} {p1 py pn : Nat} (hd1 : decode bytes pc = .ok (.lcmp, 1)) (hp1 : pc + 1 = p1) (hd : decode bytes p1 = .ok (.ifCond .le o, 3)) (ho : 0 ≤ (p1 : Int) + o) (hy : ((p1 : Int) + o).toNat = py) (hn : p1 + 3 = pn) (K1 : ¬ z < x → Go p e below F n0 Q T (mkF m py L S)) (K2 : z < x → Go p e below F n0 Q T (mkF m pn L S)) : Go p e below F n0 Q T (mkF m pc L (.long z :: .long x :: S)) := by
  obtain ⟨s, locs, X, hx, rfl, -⟩ := C; subst hn; subst hp1
  by_cases q : z < x
  · exact (K2 q).via fun t k => XT.lcmp X.here hx rfl hd1 rfl (XS.ifNo X.here hx rfl hd rfl (XT.ll_le_f q) k)
  · exact (K1 q).via fun t k => XT.lcmp X.here hx rfl hd1 rfl (XS.ifYes X.here hx rfl rfl hd rfl (XT.ll_le_t q) ho hy k)
theorem Cx.done (C : Cx p l e R m args below meth c Z y bytes ml ret n0 wd F T h cells slots) {v : Option Value} (hv : ret = none → v = none) (hc : cells ≤ R.cells) (hs : slots ≤ R.slots) (hq : Q v h) {f : JFrame}
    (k : ∀ s locs fs, Stand p l e R s m args below meth c T locs cells slots → (∀ (f : JFrame) (acts : List Action), f.method = m → f.locked = none → f.entered = [] → (doReturn e (T.setTop f) acts v).1 = T.setFrames fs) → Steps p.tables e below (T.setTop f) (T.setFrames fs)) : Go p e below F n0 Q T f := by
  have hz := C.size
  obtain ⟨s, locs, X, hx, rfl, rfl, hZ, hown, hnm, rfl, hlk, rfl, N, hn, hF⟩ := C
  obtain ⟨fs, hr, hrun, hended, hW, hsame⟩ := X.leave (v := v) hv
  exact ⟨_, _, k s locs fs X hr, hrun, hended, v, locs, rfl, ⟨hq, N, hz⟩, hF _ _ _ (Nat.le_refl _) (EndF.of ⟨⟨v, rfl⟩, hW, hsame.mono hc hs⟩)⟩
theorem Cx.retN (C : Cx p l e R m args below meth c Z y bytes ml ret n0 wd F T h cells slots) {z w : Int32} {t : FieldType} (hd : decode bytes pc = .ok (.ireturn, 1)) (hret : ret = some t) (ht : t = .boolean ∨ t = .byte ∨ t = .char ∨ t = .short) (hc : cells ≤ R.cells) (hs : slots ≤ R.slots) (hw : nar t z = w) (hq : Q (some (.int w)) h) : Go p e below F n0 Q T (mkF m pc L (.int z :: S)) := by
  subst hw
  refine C.done (fun q => by rw [hret] at q; cases q) hc hs hq fun s locs fs X hr => ?_
  obtain ⟨_, _, -, hx, rfl, -, -, -, -, rfl, -⟩ := C
  exact Jvm.RoadKit.retN X hx hret ht hd hr
theorem Cx.retV (C : Cx p l e R m args below meth c Z y bytes ml ret n0 wd F T h cells slots) (hd : decode bytes pc = .ok (.return_, 1)) (hret : ret = none) (hc : cells ≤ R.cells) (hs : slots ≤ R.slots) (hq : Q none h) : Go p e below F n0 Q T (mkF m pc L []) := by
  refine C.done (fun q => rfl) hc hs hq fun s locs fs X hr => ?_
  obtain ⟨_, _, -, hx, rfl, -, -, -, -, rfl, -⟩ := C
  exact X.returnOut hx hret hd hr
theorem Cx.ldc2 (C : Cx p l e R m args below meth c Z y bytes ml ret n0 wd F T h cells slots) {idx : Nat} {v : Int64} (w : (Jvm.Cond.constantLong y.cls idx v).before a0 Z = true) (hd : decode bytes pc = .ok (.ldc2_w idx, 3)) (hp : pc + 3 = pc') (K : Go p e below F n0 Q T (mkF m pc' L (.long v :: S))) : Go p e below F n0 Q T (mkF m pc L S) := by
  obtain ⟨s, locs, X, hx, rfl, rfl, hZ, hown, -⟩ := C; subst hp
  exact K.via fun t k => X.ldc2Long hx hown (mvT hZ w) (g := mkF m pc L S) rfl hd t k
theorem Cx.callS (C : Cx p l e R m args below meth c Z y bytes ml ret n0 wd F T h cells slots) {idx : Nat} {y' : MethodName} {bytes' : ByteArray} {ml' : Nat} {ret' : Option FieldType} {R' : Room} {Q' : Option Value → Heap → Prop} {argsL : List Value} (w1 : (Jvm.Cond.methodLink y.cls idx y').before a0 Z = true) (w2 : (Jvm.Cond.static y').before a0 Z = true) (w3 : (Jvm.Cond.initialized y'.cls).before a0 Z = true) (w4 : (Jvm.Cond.code y' bytes' ml' ret').before a0 Z = true)
    (hy : y'.cls ≠ "java/lang/invoke/MethodHandle" ∧ y'.cls ≠ "java/lang/invoke/VarHandle") (M : Ctr l Z y' bytes' ml' ret' R' argsL.toArray h n0 Q') {ps : List FieldType} {rt : Option FieldType} (hpd : parseMethodDescriptor y'.desc = some ⟨ps, rt⟩) (hlen : argsL.length = ps.length)
    (W : Nat) (hf : R'.frames + 1 ≤ R.frames) (hl : W + (ml' + 11) + R'.locals ≤ R.locals) (hc : cells + R'.cells ≤ R.cells) (hs : slots + R'.slots ≤ R.slots) {rest : List Value} (hst : S = argsL.reverse ++ rest) (hsz : L.size = ml) (hW : (rest.map fun v => v.category).sum ≤ W)
    (hd : decode bytes pc = .ok (.invokestatic idx, 3)) (hp : pc + 3 = pc') (K : ∀ v T' h', Cx p l e R m args below meth c Z y bytes ml ret n0 wd F T' h' (cells + R'.cells) (slots + R'.slots) → Q' v h' → Go p e below F n0 Q T' (mkF m pc' L (v.toList ++ rest))) : Go p e below F n0 Q T (mkF m pc L S) := by
  obtain ⟨s, locs, X, hx, rfl, rfl, hZ, hown, hnm, hr, hlk, eT, N, hn, hF⟩ := C; subst hp
  obtain ⟨v, _, ⟨T', L', k', n'⟩, -, X', ⟨Lc, hQ, e1, e2, e3⟩, st⟩ := Jvm.LawKit.callS X hx (y := y') hown (mvT hZ w1) (mvT hZ w2) (mvT hZ w3) (mvT hZ w4) hy (backOf (W := W) (Q := fun v h9 L => (Q' v h9 ∧ h.size ≤ h9.size) ∧ Fr n0 L) (M []) hZ w4 w3 hf hl) (g := mkF m pc L S) rfl hsz (argsL := argsL) (rest := rest) (lenOf hpd hlen) hst (by show 2 * 0 + _ ≤ _; omega) hd (fun _ _ => ⟨rfl, eT, hc, hs⟩)
  dsimp only [Pt.U, Pt.locs, Pt.cells, Pt.slots] at X' e1 e2 e3 st hQ
  subst e1 e2 e3
  exact (K v T' T'.heap ⟨s, _, X', hx, rfl, rfl, hZ, hown, hnm, hr, hlk, rfl, N.app hQ.2, hn, fun o t L q => hF o t L (Nat.le_trans hQ.1.2 q)⟩ hQ.1.1).via st
theorem Cx.new (C : Cx p l e R m args below meth c Z y bytes ml ret n0 wd F T h cells slots) {idx n : Nat} {Cl : String} (w : (Jvm.Cond.classLink y.cls idx Cl).before a0 Z = true) (wi : (Jvm.Cond.instantiable Cl n).before a0 Z = true) (wz : (Jvm.Cond.initialized Cl).before a0 Z = true) (hd : decode bytes pc = .ok (.new idx, 3)) (hp : pc + 3 = pc') (hc : cells + 1 ≤ R.cells) (hl : slots + n ≤ R.slots)
    (K : ∀ T' h' b, Cx p l e R m args below meth c Z y bytes ml ret n0 wd F T' h' (cells + 1) (slots + n) → b = h.size → n0 ≤ b → Ext h h' → Exa Z h' b Cl → (∀ {O nm d : String} {ty : FieldType}, Laid Z a0 Cl O nm d → parseFieldDescriptor d = some ty → Fld Z h' b O nm d (defaultValue ty)) → Go p e below F n0 Q T' (mkF m pc' L (.ref b :: S))) : Go p e below F n0 Q T (mkF m pc L S) := by
  have hz := C.size
  obtain ⟨s, locs, X, hx, rfl, rfl, hZ, hown, hnm, hr, hlk, eT, N, hn, hF⟩ := C; subst hp
  obtain ⟨T', h', X', e', E, A, D, -, st⟩ := newO X hx hZ hown w wi wz eT (g := mkF m pc L S) rfl hd hc hl
  exact (K T' h' h.size ⟨s, locs, X', hx, rfl, rfl, hZ, hown, hnm, hr, hlk, e', N, hn, fun o t L q => hF o t L (Nat.le_trans E.1 q)⟩ rfl hz E A D).via st
theorem Cx.getF (C : Cx p l e R m args below meth c Z y bytes ml ret n0 wd F T h cells slots) {idx : Nat} {R0 O n d host : String} {a : Addr} {v : Value} (w : (Jvm.Cond.fieldLink y.cls idx R0 n d).before a0 Z = true ∨ (Jvm.Cond.fieldLinkNest y.cls idx R0 n d host).before a0 Z = true) (via : Via Z R0 O n d) (Fd : Fld Z h a O n d v) (hd : decode bytes pc = .ok (.getfield idx, 3)) (hp : pc + 3 = pc')
    (K : ∀ T', Cx p l e R m args below meth c Z y bytes ml ret n0 wd F T' h cells slots → Go p e below F n0 Q T' (mkF m pc' L (v :: S))) : Go p e below F n0 Q T (mkF m pc L (.ref a :: S)) := by
  obtain ⟨s, locs, X, hx, rfl, rfl, hZ, hown, hnm, hr, hlk, eT, N, hn, hF⟩ := C; subst hp
  obtain ⟨T', X', e', st⟩ := Jvm.RoadKit.getF X hx hZ hown w via eT Fd (g := mkF m pc L (.ref a :: S)) rfl rfl hd
  exact (K T' ⟨s, locs, X', hx, rfl, rfl, hZ, hown, hnm, hr, hlk, e', N, hn, hF⟩).via st
theorem Cx.putF (C : Cx p l e R m args below meth c Z y bytes ml ret n0 wd F T h cells slots) {idx kk : Nat} {R0 O n d host Cl : String} {a : Addr} {v old : Value} {ty : FieldType} (w : (Jvm.Cond.fieldLink y.cls idx R0 n d).before a0 Z = true ∨ (Jvm.Cond.fieldLinkNest y.cls idx R0 n d host).before a0 Z = true) (via : Via Z R0 O n d) (Fd : Fld Z h a O n d old) (E : Exa Z h a Cl) (Lw : (Jvm.Cond.lays Cl O n d).before a0 Z = true ∨ ((Jvm.Cond.laysFinal Cl O n d).before a0 Z = true ∧ y.cls = O ∧ y.name = "<init>")) (wi : (Jvm.Cond.instantiable Cl kk).before a0 Z = true)
    (hty : parseFieldDescriptor d = some ty) (hnr : narrow ty v = v) (hf : fits ty v = true) (g : n0 ≤ a) (hd : decode bytes pc = .ok (.putfield idx, 3)) (hp : pc + 3 = pc') (K : ∀ T' h', Cx p l e R m args below meth c Z y bytes ml ret n0 wd F T' h' cells slots → Wr h h' a (Jvm.RoadKit.slotOf Z O n d) v → Go p e below F n0 Q T' (mkF m pc' L S)) : Go p e below F n0 Q T (mkF m pc L (v :: .ref a :: S)) := by
  obtain ⟨s, locs, X, hx, rfl, rfl, hZ, hown, hnm, hr, hlk, eT, N, hn, hF⟩ := C; subst hp
  obtain ⟨T', h', X', e', W, st⟩ := Jvm.RoadKit.putF X hx hZ hown w via eT Fd E (Lw.imp id fun q => ⟨q.1, q.2.1, hnm.trans q.2.2⟩) wi hty hnr hf (g := mkF m pc L (v :: .ref a :: S)) rfl rfl hd
  exact (K T' h' ⟨s, _, X', hx, rfl, rfl, hZ, hown, hnm, hr, hlk, e', Fr.snoc X' N g, hn, fun o t L q => hF o t L (W.size ▸ q)⟩ W).via st
theorem Cx.initObj (C : Cx p l e R m args below meth c Z y bytes ml ret n0 wd F T h cells slots) {idx : Nat} {a : Addr} (w1 : (Jvm.Cond.methodLink y.cls idx Lib.objectInit).before a0 Z = true) (w2 : (Jvm.Cond.instanceMethod Lib.objectInit).before a0 Z = true) (w3 : (Jvm.Cond.code Lib.objectInit ⟨#[0xb1]⟩ 1 none).before a0 Z = true) (hsz : L.size = ml) (hf : 1 ≤ R.frames) (W : Nat) (hW : (S.map fun v => v.category).sum ≤ W) (hl : W + 12 ≤ R.locals) (hd : decode bytes pc = .ok (.invokespecial idx, 3)) (hp : pc + 3 = pc')
    (K : ∀ T', Cx p l e R m args below meth c Z y bytes ml ret n0 wd F T' h cells slots → Go p e below F n0 Q T' (mkF m pc' L S)) : Go p e below F n0 Q T (mkF m pc L (.ref a :: S)) := by
  obtain ⟨s, locs, X, hx, rfl, rfl, hZ, hown, hnm, hr, hlk, eT, N, hn, hF⟩ := C; subst hp
  obtain ⟨T', X', e', st⟩ := initO X hx hZ hown w1 w2 w3 eT (g := mkF m pc L (.ref a :: S)) rfl hsz rfl hd hf (W := W) (by show 2 * 0 + _ ≤ _; omega) hl
  exact (K T' ⟨s, locs, X', hx, rfl, rfl, hZ, hown, hnm, hr, hlk, e', N, hn, hF⟩).via st
theorem Cx.callN (C : Cx p l e R m args below meth c Z y bytes ml ret n0 wd F T h cells slots) {a : Addr} {idx : Nat} {y' : MethodName} {bytes' : ByteArray} {ml' : Nat} {R' : Room} {Q' : Option Value → Heap → Prop} {argsL : List Value} (hin : y'.name = "<init>") (w1 : (Jvm.Cond.methodLink y.cls idx y').before a0 Z = true) (w2 : (Jvm.Cond.instanceMethod y').before a0 Z = true) (wz : (Jvm.Cond.initialized y'.cls).before a0 Z = true) (wc : (Jvm.Cond.code y' bytes' ml' none).before a0 Z = true)
    (hy : y'.cls ≠ "java/lang/invoke/MethodHandle" ∧ y'.cls ≠ "java/lang/invoke/VarHandle") (M : Ctr l Z y' bytes' ml' none R' (.ref a :: argsL).toArray h n0 Q') {ps : List FieldType} {rt : Option FieldType} (hpd : parseMethodDescriptor y'.desc = some ⟨ps, rt⟩) (hlen : argsL.length = ps.length) (W : Nat) (hf : R'.frames + 1 ≤ R.frames) (hl : W + (ml' + 11) + R'.locals ≤ R.locals) (hc : cells + R'.cells ≤ R.cells) (hs : slots + R'.slots ≤ R.slots) {rest : List Value} (hst : S = argsL.reverse ++ .ref a :: rest) (hsz : L.size = ml) (hW : (rest.map fun v => v.category).sum ≤ W) (hd : decode bytes pc = .ok (.invokespecial idx, 3)) (hp : pc + 3 = pc') (K : ∀ v T' h', Cx p l e R m args below meth c Z y bytes ml ret n0 wd F T' h' (cells + R'.cells) (slots + R'.slots) → Q' v h' → Go p e below F n0 Q T' (mkF m pc' L (v.toList ++ rest))) : Go p e below F n0 Q T (mkF m pc L S) := by
  obtain ⟨s, locs, X, hx, rfl, rfl, hZ, hown, hnm, hr, hlk, eT, N, hn, hF⟩ := C; subst hp
  obtain ⟨v, _, ⟨T', L', k', n'⟩, -, X', ⟨Lc, hQ, e1, e2, e3⟩, st⟩ := X.specialBack hx (y := y') hin hown (mvT hZ w1) (mvT hZ w2) (mvT hZ wc) hy (backOf (W := W) (Q := fun v h9 L => (Q' v h9 ∧ h.size ≤ h9.size) ∧ Fr n0 L) (M []) hZ wc wz hf hl) (g := mkF m pc L S) rfl hsz (Steps.refl _) (a := a) (argsL := argsL) (rest := rest) (lenOf hpd hlen) hst (by show 2 * 0 + _ ≤ _; omega) hd (fun _ _ => ⟨rfl, eT, hc, hs⟩)
  dsimp only [Pt.U, Pt.locs, Pt.cells, Pt.slots] at X' e1 e2 e3 st hQ
  subst e1 e2 e3
  exact (K v T' T'.heap ⟨s, _, X', hx, rfl, rfl, hZ, hown, hnm, hr, hlk, rfl, N.app hQ.2, hn, fun o t L q => hF o t L (Nat.le_trans hQ.1.2 q)⟩ hQ.1.1).via fun t k => st.trans k
theorem Cx.callV (C : Cx p l e R m args below meth c Z y bytes ml ret n0 wd F T h cells slots) {a : Addr} {idx : Nat} {y' : MethodName} {bytes' : ByteArray} {ml' : Nat} {ret' : Option FieldType} {R' : Room} {Q' : Option Value → Heap → Prop} {argsL : List Value} {Cl : String} (w1 : (Jvm.Cond.methodLink y.cls idx y').before a0 Z = true) (w2 : (Jvm.Cond.declares y').before a0 Z = true) (w3 : (Jvm.Cond.selects Cl y' y').before a0 Z = true) (w4 : (Jvm.Cond.instanceMethod y').before a0 Z = true) (wz : (Jvm.Cond.initialized y'.cls).before a0 Z = true) (wc : (Jvm.Cond.code y' bytes' ml' ret').before a0 Z = true) (E : Exa Z h a Cl)
    (hy : y'.cls ≠ "java/lang/invoke/MethodHandle" ∧ y'.cls ≠ "java/lang/invoke/VarHandle") (M : Ctr l Z y' bytes' ml' ret' R' (.ref a :: argsL).toArray h n0 Q') {ps : List FieldType} {rt : Option FieldType} (hpd : parseMethodDescriptor y'.desc = some ⟨ps, rt⟩) (hlen : argsL.length = ps.length) (W : Nat) (hf : R'.frames + 1 ≤ R.frames) (hl : W + (ml' + 11) + R'.locals ≤ R.locals) (hc : cells + R'.cells ≤ R.cells) (hs : slots + R'.slots ≤ R.slots) {rest : List Value} (hst : S = argsL.reverse ++ .ref a :: rest) (hsz : L.size = ml) (hW : (rest.map fun v => v.category).sum ≤ W) (hd : decode bytes pc = .ok (.invokevirtual idx, 3)) (hp : pc + 3 = pc') (K : ∀ v T' h', Cx p l e R m args below meth c Z y bytes ml ret n0 wd F T' h' (cells + R'.cells) (slots + R'.slots) → Q' v h' → Go p e below F n0 Q T' (mkF m pc' L (v.toList ++ rest))) : Go p e below F n0 Q T (mkF m pc L S) := by
  obtain ⟨s, locs, X, hx, rfl, rfl, hZ, hown, hnm, hr, hlk, eT, N, hn, hF⟩ := C; subst hp
  obtain ⟨cB, kB, qa, qb, qc⟩ := isOf hZ eT E
  obtain ⟨v, _, ⟨T', L', k', n'⟩, -, X', ⟨Lc, hQ, e1, e2, e3⟩, st⟩ := X.virtualBack hx (y := y') (z := y') hown (mvT hZ w1) (mvT hZ w2) (notFace_of_selects (args := #[]) (mvT hZ w3)) (mvT hZ w3) (mvT hZ w4) hy (backOf (W := W) (Q := fun v h9 L => (Q' v h9 ∧ h.size ≤ h9.size) ∧ Fr n0 L) (M []) hZ wc wz hf hl) qa qc (g := mkF m pc L S) rfl hsz (Steps.refl _) (argsL := argsL) (rest := rest) (lenOf hpd hlen) hst (by show 2 * 0 + _ ≤ _; omega) hd (fun _ _ => ⟨rfl, eT, hc, hs⟩)
  dsimp only [Pt.U, Pt.locs, Pt.cells, Pt.slots] at X' e1 e2 e3 st hQ
  subst e1 e2 e3
  exact (K v T' T'.heap ⟨s, _, X', hx, rfl, rfl, hZ, hown, hnm, hr, hlk, rfl, N.app hQ.2, hn, fun o t L q => hF o t L (Nat.le_trans hQ.1.2 q)⟩ hQ.1.1).via fun t k => st.trans k
end Layer
end Jvm.Ow
namespace Jvm.Pilot.@@N@@
open Jvm Jvm.ClassFile Sem Op Lib Jvm.Free Jvm.Stand Jvm.LawKit Jvm.RoadKit Bundle Jvm.Ow Jvm.Pilot.@@N@@.Jvm.D
theorem own_nea {Z : State} {h : Heap} {a b : Addr} {C : String} {k : ClassId} {ty : FieldType} {n : Int32} {vs : List Value} {dv : Value} {a0 : Array Value} {kk : Nat} (E : Exa Z h a C) (wi : (Jvm.Cond.instantiable C kk).before a0 Z = true) (F : Arv Z h b k ty n vs dv) : a ≠ b := by
  obtain ⟨c, A, -⟩ := F; exact ne_arr E wi A
theorem own_eqite {α : Type} {P : Prop} [Decidable P] {u a b : α} : (u = if P then a else b) ↔ ((P ∧ u = a) ∨ (¬ P ∧ u = b)) := by by_cases h : P <;> simp [h]
theorem own_iteeq {α : Type} {P : Prop} [Decidable P] {u a b : α} : ((if P then a else b) = u) ↔ ((P ∧ a = u) ∨ (¬ P ∧ b = u)) := by by_cases h : P <;> simp [h]

theorem pn1 : plainName "com/example/privy_attest/privyattest/protocol/Freshness" = true := by first | (simp [plainName, overriddenIn]; done) | decide +kernel
theorem pd1 : parseMethodDescriptor "(JJ)V" = some ⟨[.long, .long], none⟩ := by decide +kernel
theorem ef1 (m : MethodId) (o0 : Addr) (j1 : Int64) (j2 : Int64) : entryFrame m #[(.ref o0), (.long j1), (.long j2)] 5 = mkF m 0 #[.val (.ref o0), .val (.long j1), .second, .val (.long j2), .second] [] := by first | (simp [entryFrame, mkF, argsToLocals, Value.category]; done) | rfl
theorem d1_0 : decode prog_20_method_1_code 0 = .ok (.aload_n 0, 1) := by decide +kernel
theorem d1_1 : decode prog_20_method_1_code 1 = .ok (.invokespecial 1, 3) := by decide +kernel
theorem d1_4 : decode prog_20_method_1_code 4 = .ok (.lload_n 1, 1) := by decide +kernel
theorem d1_5 : decode prog_20_method_1_code 5 = .ok (.lconst 0, 1) := by decide +kernel
theorem d1_6 : decode prog_20_method_1_code 6 = .ok (.lcmp, 1) := by decide +kernel
theorem d1_7 : decode prog_20_method_1_code 7 = .ok (.ifCond .lt 9, 3) := by decide +kernel
theorem d1_10 : decode prog_20_method_1_code 10 = .ok (.lload_n 3, 1) := by decide +kernel
theorem d1_11 : decode prog_20_method_1_code 11 = .ok (.lconst 0, 1) := by decide +kernel
theorem d1_12 : decode prog_20_method_1_code 12 = .ok (.lcmp, 1) := by decide +kernel
theorem d1_13 : decode prog_20_method_1_code 13 = .ok (.ifCond .ge 13, 3) := by decide +kernel
theorem d1_26 : decode prog_20_method_1_code 26 = .ok (.aload_n 0, 1) := by decide +kernel
theorem d1_27 : decode prog_20_method_1_code 27 = .ok (.lload_n 1, 1) := by decide +kernel
theorem d1_28 : decode prog_20_method_1_code 28 = .ok (.putfield 14, 3) := by decide +kernel
theorem d1_31 : decode prog_20_method_1_code 31 = .ok (.aload_n 0, 1) := by decide +kernel
theorem d1_32 : decode prog_20_method_1_code 32 = .ok (.lload_n 3, 1) := by decide +kernel
theorem d1_33 : decode prog_20_method_1_code 33 = .ok (.putfield 20, 3) := by decide +kernel
theorem d1_36 : decode prog_20_method_1_code 36 = .ok (.return_, 1) := by decide +kernel
set_option maxRecDepth 65536 in
set_option maxHeartbeats 40000000 in
theorem rm1 (l : Launch) (Z : State) (a0 : Array Value) (hw : ∀ d ∈ tables_1, d.before a0 Z = true) (o0 : Addr) (j1 : Int64) (j2 : Int64) (u1 : Value) (u2 : Value) (h0 : Heap) (n0 : Nat) (Z0 : n0 ≤ h0.size) (E_o0 : Exa Z h0 o0 "com/example/privy_attest/privyattest/protocol/Freshness") (F_o0_now : Fld Z h0 o0 "com/example/privy_attest/privyattest/protocol/Freshness" "now" "J" u1) (F_o0_maxAge : Fld Z h0 o0 "com/example/privy_attest/privyattest/protocol/Freshness" "maxAge" "J" u2) (g_o0 : n0 ≤ o0) (hn1 : ¬ j1 < (0 : Int64)) (hn2 : ¬ j2 < (0 : Int64)) :
    Ctr l Z (⟨"com/example/privy_attest/privyattest/protocol/Freshness", "<init>", "(JJ)V"⟩ : MethodName) prog_20_method_1_code 5 none ({ frames := 1, cells := 0, slots := 0, locals := 12 } : Room) #[(.ref o0), (.long j1), (.long j2)] h0 n0 (fun v h' => v = none ∧ Keep h0 h' [o0] ∧ Exa Z h' o0 "com/example/privy_attest/privyattest/protocol/Freshness" ∧ Fld Z h' o0 "com/example/privy_attest/privyattest/protocol/Freshness" "now" "J" (.long j1) ∧ Fld Z h' o0 "com/example/privy_attest/privyattest/protocol/Freshness" "maxAge" "J" (.long j2)) := by
  refine Ctr.body (L := #[.val (.ref o0), .val (.long j1), .second, .val (.long j2), .second]) (plainFor_of_name pn1) Z0 (fun m => ef1 m o0 j1 j2) ?_
  intro p e F m below meth c T0 C0
  have KP : Keep h0 h0 [o0] := Keep.refl h0 _
  refine C0.aloadN d1_0 rfl rfl rfl ?_
  refine C0.initObj (hw _ (List.mem_of_getElem? (i := 8) rfl)) (hw _ (List.mem_of_getElem? (i := 9) rfl)) (hw _ (List.mem_of_getElem? (i := 10) rfl)) rfl (by decide) 0 (Nat.le_of_eq rfl) (by decide) d1_1 rfl (fun T1 C1 => ?_)
  refine C1.lloadN d1_4 rfl rfl ?_
  refine C1.lconst (0 : Int64) d1_5 rfl rfl ?_
  refine C1.lif_lt d1_6 rfl d1_7 (by decide) (by decide : _ = 16) rfl (fun q => absurd q hn1) (fun _ => ?_)
  refine C1.lloadN d1_10 rfl rfl ?_
  refine C1.lconst (0 : Int64) d1_11 rfl rfl ?_
  refine C1.lif_ge d1_12 rfl d1_13 (by decide) (by decide : _ = 26) rfl (fun _ => ?_) (fun q => absurd q hn2)
  refine C1.aloadN d1_26 rfl rfl rfl ?_
  refine C1.lloadN d1_27 rfl rfl ?_
  refine C1.putF (host := "") (Or.inl (hw _ (List.mem_of_getElem? (i := 11) rfl))) Via.refl F_o0_now E_o0 (Or.inr ⟨(hw _ (List.mem_of_getElem? (i := 12) rfl)), rfl, rfl⟩) (hw _ (List.mem_of_getElem? (i := 3) rfl)) (ty := .long) (by decide) rfl rfl g_o0 d1_28 rfl (fun T2 h2 C2 W2 => ?_)
  have E_o0 := E_o0.wr W2
  have F_o0_maxAge := F_o0_maxAge.other W2 (Or.inr (slot_ne (Or.inr (hw _ (List.mem_of_getElem? (i := 14) rfl))) (Or.inr (hw _ (List.mem_of_getElem? (i := 12) rfl))) (by decide) (t := .long) (t' := .long) (by decide) (by decide)))
  have KP := KP.wr W2 (Or.inl (by simp))
  have F_o0_now := F_o0_now.same W2
  refine C2.aloadN d1_31 rfl rfl rfl ?_
  refine C2.lloadN d1_32 rfl rfl ?_
  refine C2.putF (host := "") (Or.inl (hw _ (List.mem_of_getElem? (i := 13) rfl))) Via.refl F_o0_maxAge E_o0 (Or.inr ⟨(hw _ (List.mem_of_getElem? (i := 14) rfl)), rfl, rfl⟩) (hw _ (List.mem_of_getElem? (i := 3) rfl)) (ty := .long) (by decide) rfl rfl g_o0 d1_33 rfl (fun T3 h3 C3 W3 => ?_)
  have E_o0 := E_o0.wr W3
  have F_o0_now := F_o0_now.other W3 (Or.inr (slot_ne (Or.inr (hw _ (List.mem_of_getElem? (i := 12) rfl))) (Or.inr (hw _ (List.mem_of_getElem? (i := 14) rfl))) (by decide) (t := .long) (t' := .long) (by decide) (by decide)))
  have KP := KP.wr W3 (Or.inl (by simp))
  have F_o0_maxAge := F_o0_maxAge.same W3
  exact C3.retV d1_36 rfl (by decide) (by decide) ⟨rfl, KP, E_o0, F_o0_now, F_o0_maxAge⟩
def f5 (j0 : Int64) (j1 : Int64) (j2 : Int64) : Int32 := if j2 < j0 then if (j0 - j2) < (0 : Int64) then (1 : Int32) else (if j1 < (j0 - j2) then (1 : Int32) else ((0 : Int32))) else (if (j2 - j0) < (0 : Int64) then (1 : Int32) else (if j1 < (j2 - j0) then (1 : Int32) else ((0 : Int32))))
theorem pn5 : plainName "com/example/privy_attest/privyattest/protocol/FreshnessIsOutsidePinLaw" = true := by first | (simp [plainName, overriddenIn]; done) | decide +kernel
theorem pd5 : parseMethodDescriptor "(JJJ)Z" = some ⟨[.long, .long, .long], some .boolean⟩ := by decide +kernel
theorem ef5 (m : MethodId) (j0 : Int64) (j1 : Int64) (j2 : Int64) : entryFrame m #[(.long j0), (.long j1), (.long j2)] 8 = mkF m 0 #[.val (.long j0), .second, .val (.long j1), .second, .val (.long j2), .second, .unset, .unset] [] := by first | (simp [entryFrame, mkF, argsToLocals, Value.category]; done) | rfl
theorem d5_0 : decode method_3_code 0 = .ok (.lload 4, 2) := by decide +kernel
theorem d5_2 : decode method_3_code 2 = .ok (.lload_n 0, 1) := by decide +kernel
theorem d5_3 : decode method_3_code 3 = .ok (.lcmp, 1) := by decide +kernel
theorem d5_4 : decode method_3_code 4 = .ok (.ifCond .lt 12, 3) := by decide +kernel
theorem d5_7 : decode method_3_code 7 = .ok (.lload 4, 2) := by decide +kernel
theorem d5_9 : decode method_3_code 9 = .ok (.lload_n 0, 1) := by decide +kernel
theorem d5_10 : decode method_3_code 10 = .ok (.lsub, 1) := by decide +kernel
theorem d5_11 : decode method_3_code 11 = .ok (.lstore 6, 2) := by decide +kernel
theorem d5_13 : decode method_3_code 13 = .ok (.goto 9, 3) := by decide +kernel
theorem d5_16 : decode method_3_code 16 = .ok (.lload_n 0, 1) := by decide +kernel
theorem d5_17 : decode method_3_code 17 = .ok (.lload 4, 2) := by decide +kernel
theorem d5_19 : decode method_3_code 19 = .ok (.lsub, 1) := by decide +kernel
theorem d5_20 : decode method_3_code 20 = .ok (.lstore 6, 2) := by decide +kernel
theorem d5_22 : decode method_3_code 22 = .ok (.lload 6, 2) := by decide +kernel
theorem d5_24 : decode method_3_code 24 = .ok (.lconst 0, 1) := by decide +kernel
theorem d5_25 : decode method_3_code 25 = .ok (.lcmp, 1) := by decide +kernel
theorem d5_26 : decode method_3_code 26 = .ok (.ifCond .ge 5, 3) := by decide +kernel
theorem d5_29 : decode method_3_code 29 = .ok (.iconst 1, 1) := by decide +kernel
theorem d5_30 : decode method_3_code 30 = .ok (.ireturn, 1) := by decide +kernel
theorem d5_31 : decode method_3_code 31 = .ok (.lload 6, 2) := by decide +kernel
theorem d5_33 : decode method_3_code 33 = .ok (.lload_n 2, 1) := by decide +kernel
theorem d5_34 : decode method_3_code 34 = .ok (.lcmp, 1) := by decide +kernel
theorem d5_35 : decode method_3_code 35 = .ok (.ifCond .le 7, 3) := by decide +kernel
theorem d5_38 : decode method_3_code 38 = .ok (.iconst 1, 1) := by decide +kernel
theorem d5_39 : decode method_3_code 39 = .ok (.goto 4, 3) := by decide +kernel
theorem d5_42 : decode method_3_code 42 = .ok (.iconst 0, 1) := by decide +kernel
theorem d5_43 : decode method_3_code 43 = .ok (.ireturn, 1) := by decide +kernel
set_option maxRecDepth 65536 in
set_option maxHeartbeats 40000000 in
theorem rm5 (l : Launch) (Z : State) (a0 : Array Value) (hw : ∀ d ∈ tables_1, d.before a0 Z = true) (j0 : Int64) (j1 : Int64) (j2 : Int64) (h0 : Heap) (n0 : Nat) (Z0 : n0 ≤ h0.size) :
    Ctr l Z (⟨"com/example/privy_attest/privyattest/protocol/FreshnessIsOutsidePinLaw", "expected", "(JJJ)Z"⟩ : MethodName) method_3_code 8 (some .boolean) ({ frames := 0, cells := 0, slots := 0, locals := 0 } : Room) #[(.long j0), (.long j1), (.long j2)] h0 n0 (fun v h' => v = some (.int (f5 j0 j1 j2)) ∧ h' = h0) := by
  refine Ctr.body (L := #[.val (.long j0), .second, .val (.long j1), .second, .val (.long j2), .second, .unset, .unset]) (plainFor_of_name pn5) Z0 (fun m => ef5 m j0 j1 j2) ?_
  intro p e F m below meth c T0 C0
  refine C0.lload d5_0 rfl rfl ?_
  refine C0.lloadN d5_2 rfl rfl ?_
  refine C0.lif_lt d5_3 rfl d5_4 (by decide) (by decide : _ = 16) rfl (fun c4 => ?_) (fun c4 => ?_)
  · refine C0.lloadN d5_16 rfl rfl ?_
    refine C0.lload d5_17 rfl rfl ?_
    refine C0.lsub d5_19 rfl ?_
    refine C0.lstore d5_20 rfl (L' := #[.val (.long j0), .second, .val (.long j1), .second, .val (.long j2), .second, .val (.long (j0 - j2)), .second]) rfl ?_
    refine C0.lload d5_22 rfl rfl ?_
    refine C0.lconst (0 : Int64) d5_24 rfl rfl ?_
    refine C0.lif_ge d5_25 rfl d5_26 (by decide) (by decide : _ = 31) rfl (fun c26 => ?_) (fun c26 => ?_)
    · refine C0.lload d5_31 rfl rfl ?_
      refine C0.lloadN d5_33 rfl rfl ?_
      refine C0.lif_le d5_34 rfl d5_35 (by decide) (by decide : _ = 42) rfl (fun c35 => ?_) (fun c35 => ?_)
      · refine C0.iconst (0 : Int32) d5_42 rfl rfl ?_
        exact C0.retN (t := .boolean) d5_43 rfl (by simp) (by decide) (by decide) (w := (0 : Int32)) rfl ⟨by rw [f5, if_pos c4, if_neg c26, if_neg c35], rfl⟩
      · refine C0.iconst (1 : Int32) d5_38 rfl rfl ?_
        refine C0.goto d5_39 (by decide) (by decide : _ = 43) ?_
        exact C0.retN (t := .boolean) d5_43 rfl (by simp) (by decide) (by decide) (w := (1 : Int32)) rfl ⟨by rw [f5, if_pos c4, if_neg c26, if_pos c35], rfl⟩
    · refine C0.iconst (1 : Int32) d5_29 rfl rfl ?_
      exact C0.retN (t := .boolean) d5_30 rfl (by simp) (by decide) (by decide) (w := (1 : Int32)) rfl ⟨by rw [f5, if_pos c4, if_pos c26], rfl⟩
  · refine C0.lload d5_7 rfl rfl ?_
    refine C0.lloadN d5_9 rfl rfl ?_
    refine C0.lsub d5_10 rfl ?_
    refine C0.lstore d5_11 rfl (L' := #[.val (.long j0), .second, .val (.long j1), .second, .val (.long j2), .second, .val (.long (j2 - j0)), .second]) rfl ?_
    refine C0.goto d5_13 (by decide) (by decide : _ = 22) ?_
    refine C0.lload d5_22 rfl rfl ?_
    refine C0.lconst (0 : Int64) d5_24 rfl rfl ?_
    refine C0.lif_ge d5_25 rfl d5_26 (by decide) (by decide : _ = 31) rfl (fun c26 => ?_) (fun c26 => ?_)
    · refine C0.lload d5_31 rfl rfl ?_
      refine C0.lloadN d5_33 rfl rfl ?_
      refine C0.lif_le d5_34 rfl d5_35 (by decide) (by decide : _ = 42) rfl (fun c35 => ?_) (fun c35 => ?_)
      · refine C0.iconst (0 : Int32) d5_42 rfl rfl ?_
        exact C0.retN (t := .boolean) d5_43 rfl (by simp) (by decide) (by decide) (w := (0 : Int32)) rfl ⟨by rw [f5, if_neg c4, if_neg c26, if_neg c35], rfl⟩
      · refine C0.iconst (1 : Int32) d5_38 rfl rfl ?_
        refine C0.goto d5_39 (by decide) (by decide : _ = 43) ?_
        exact C0.retN (t := .boolean) d5_43 rfl (by simp) (by decide) (by decide) (w := (1 : Int32)) rfl ⟨by rw [f5, if_neg c4, if_neg c26, if_pos c35], rfl⟩
    · refine C0.iconst (1 : Int32) d5_29 rfl rfl ?_
      exact C0.retN (t := .boolean) d5_30 rfl (by simp) (by decide) (by decide) (w := (1 : Int32)) rfl ⟨by rw [f5, if_neg c4, if_pos c26], rfl⟩
def f4 (j1 : Int64) (y1 : Int64) (y2 : Int64) : Int32 := if j1 < (y1 - y2) then (1 : Int32) else ((0 : Int32))
theorem pn4 : plainName "com/example/privy_attest/privyattest/protocol/Freshness" = true := by first | (simp [plainName, overriddenIn]; done) | decide +kernel
theorem pd4 : parseMethodDescriptor "(J)Z" = some ⟨[.long], some .boolean⟩ := by decide +kernel
theorem ef4 (m : MethodId) (o0 : Addr) (j1 : Int64) : entryFrame m #[(.ref o0), (.long j1)] 3 = mkF m 0 #[.val (.ref o0), .val (.long j1), .second] [] := by first | (simp [entryFrame, mkF, argsToLocals, Value.category]; done) | rfl
theorem d4_0 : decode prog_20_method_4_code 0 = .ok (.lload_n 1, 1) := by decide +kernel
theorem d4_1 : decode prog_20_method_4_code 1 = .ok (.aload_n 0, 1) := by decide +kernel
theorem d4_2 : decode prog_20_method_4_code 2 = .ok (.getfield 14, 3) := by decide +kernel
theorem d4_5 : decode prog_20_method_4_code 5 = .ok (.aload_n 0, 1) := by decide +kernel
theorem d4_6 : decode prog_20_method_4_code 6 = .ok (.getfield 20, 3) := by decide +kernel
theorem d4_9 : decode prog_20_method_4_code 9 = .ok (.lsub, 1) := by decide +kernel
theorem d4_10 : decode prog_20_method_4_code 10 = .ok (.lcmp, 1) := by decide +kernel
theorem d4_11 : decode prog_20_method_4_code 11 = .ok (.ifCond .ge 7, 3) := by decide +kernel
theorem d4_14 : decode prog_20_method_4_code 14 = .ok (.iconst 1, 1) := by decide +kernel
theorem d4_15 : decode prog_20_method_4_code 15 = .ok (.goto 4, 3) := by decide +kernel
theorem d4_18 : decode prog_20_method_4_code 18 = .ok (.iconst 0, 1) := by decide +kernel
theorem d4_19 : decode prog_20_method_4_code 19 = .ok (.ireturn, 1) := by decide +kernel
set_option maxRecDepth 65536 in
set_option maxHeartbeats 40000000 in
theorem rm4 (l : Launch) (Z : State) (a0 : Array Value) (hw : ∀ d ∈ tables_1, d.before a0 Z = true) (o0 : Addr) (j1 : Int64) (y1 : Int64) (y2 : Int64) (h0 : Heap) (n0 : Nat) (Z0 : n0 ≤ h0.size) (F_o0_now : Fld Z h0 o0 "com/example/privy_attest/privyattest/protocol/Freshness" "now" "J" (.long y1)) (F_o0_maxAge : Fld Z h0 o0 "com/example/privy_attest/privyattest/protocol/Freshness" "maxAge" "J" (.long y2)) :
    Ctr l Z (⟨"com/example/privy_attest/privyattest/protocol/Freshness", "isStale", "(J)Z"⟩ : MethodName) prog_20_method_4_code 3 (some .boolean) ({ frames := 0, cells := 0, slots := 0, locals := 0 } : Room) #[(.ref o0), (.long j1)] h0 n0 (fun v h' => v = some (.int (f4 j1 y1 y2)) ∧ h' = h0) := by
  refine Ctr.body (L := #[.val (.ref o0), .val (.long j1), .second]) (plainFor_of_name pn4) Z0 (fun m => ef4 m o0 j1) ?_
  intro p e F m below meth c T0 C0
  refine C0.lloadN d4_0 rfl rfl ?_
  refine C0.aloadN d4_1 rfl rfl rfl ?_
  refine C0.getF (host := "") (Or.inl (hw _ (List.mem_of_getElem? (i := 11) rfl))) Via.refl F_o0_now d4_2 rfl (fun T1 C1 => ?_)
  refine C1.aloadN d4_5 rfl rfl rfl ?_
  refine C1.getF (host := "") (Or.inl (hw _ (List.mem_of_getElem? (i := 13) rfl))) Via.refl F_o0_maxAge d4_6 rfl (fun T2 C2 => ?_)
  refine C2.lsub d4_9 rfl ?_
  refine C2.lif_ge d4_10 rfl d4_11 (by decide) (by decide : _ = 18) rfl (fun c11 => ?_) (fun c11 => ?_)
  · refine C2.iconst (0 : Int32) d4_18 rfl rfl ?_
    exact C2.retN (t := .boolean) d4_19 rfl (by simp) (by decide) (by decide) (w := (0 : Int32)) rfl ⟨by rw [f4, if_neg c11], rfl⟩
  · refine C2.iconst (1 : Int32) d4_14 rfl rfl ?_
    refine C2.goto d4_15 (by decide) (by decide : _ = 19) ?_
    exact C2.retN (t := .boolean) d4_19 rfl (by simp) (by decide) (by decide) (w := (1 : Int32)) rfl ⟨by rw [f4, if_pos c11], rfl⟩
def f3 (j1 : Int64) (y1 : Int64) (y2 : Int64) : Int32 := if (f4 j1 y1 y2) = (0 : Int32) then if y1 < j1 then if y2 < (j1 - y1) then (1 : Int32) else ((0 : Int32)) else ((0 : Int32)) else ((1 : Int32))
theorem pn3 : plainName "com/example/privy_attest/privyattest/protocol/Freshness" = true := by first | (simp [plainName, overriddenIn]; done) | decide +kernel
theorem pd3 : parseMethodDescriptor "(J)Z" = some ⟨[.long], some .boolean⟩ := by decide +kernel
theorem ef3 (m : MethodId) (o0 : Addr) (j1 : Int64) : entryFrame m #[(.ref o0), (.long j1)] 3 = mkF m 0 #[.val (.ref o0), .val (.long j1), .second] [] := by first | (simp [entryFrame, mkF, argsToLocals, Value.category]; done) | rfl
theorem d3_0 : decode prog_20_method_3_code 0 = .ok (.aload_n 0, 1) := by decide +kernel
theorem d3_1 : decode prog_20_method_3_code 1 = .ok (.lload_n 1, 1) := by decide +kernel
theorem d3_2 : decode prog_20_method_3_code 2 = .ok (.invokevirtual 23, 3) := by decide +kernel
theorem d3_5 : decode prog_20_method_3_code 5 = .ok (.ifCond .ne 26, 3) := by decide +kernel
theorem d3_8 : decode prog_20_method_3_code 8 = .ok (.lload_n 1, 1) := by decide +kernel
theorem d3_9 : decode prog_20_method_3_code 9 = .ok (.aload_n 0, 1) := by decide +kernel
theorem d3_10 : decode prog_20_method_3_code 10 = .ok (.getfield 14, 3) := by decide +kernel
theorem d3_13 : decode prog_20_method_3_code 13 = .ok (.lcmp, 1) := by decide +kernel
theorem d3_14 : decode prog_20_method_3_code 14 = .ok (.ifCond .le 21, 3) := by decide +kernel
theorem d3_17 : decode prog_20_method_3_code 17 = .ok (.lload_n 1, 1) := by decide +kernel
theorem d3_18 : decode prog_20_method_3_code 18 = .ok (.aload_n 0, 1) := by decide +kernel
theorem d3_19 : decode prog_20_method_3_code 19 = .ok (.getfield 14, 3) := by decide +kernel
theorem d3_22 : decode prog_20_method_3_code 22 = .ok (.lsub, 1) := by decide +kernel
theorem d3_23 : decode prog_20_method_3_code 23 = .ok (.aload_n 0, 1) := by decide +kernel
theorem d3_24 : decode prog_20_method_3_code 24 = .ok (.getfield 20, 3) := by decide +kernel
theorem d3_27 : decode prog_20_method_3_code 27 = .ok (.lcmp, 1) := by decide +kernel
theorem d3_28 : decode prog_20_method_3_code 28 = .ok (.ifCond .le 7, 3) := by decide +kernel
theorem d3_31 : decode prog_20_method_3_code 31 = .ok (.iconst 1, 1) := by decide +kernel
theorem d3_32 : decode prog_20_method_3_code 32 = .ok (.goto 4, 3) := by decide +kernel
theorem d3_35 : decode prog_20_method_3_code 35 = .ok (.iconst 0, 1) := by decide +kernel
theorem d3_36 : decode prog_20_method_3_code 36 = .ok (.ireturn, 1) := by decide +kernel
set_option maxRecDepth 65536 in
set_option maxHeartbeats 40000000 in
theorem rm3 (l : Launch) (Z : State) (a0 : Array Value) (hw : ∀ d ∈ tables_1, d.before a0 Z = true) (o0 : Addr) (j1 : Int64) (y1 : Int64) (y2 : Int64) (h0 : Heap) (n0 : Nat) (Z0 : n0 ≤ h0.size) (E_o0 : Exa Z h0 o0 "com/example/privy_attest/privyattest/protocol/Freshness") (F_o0_now : Fld Z h0 o0 "com/example/privy_attest/privyattest/protocol/Freshness" "now" "J" (.long y1)) (F_o0_maxAge : Fld Z h0 o0 "com/example/privy_attest/privyattest/protocol/Freshness" "maxAge" "J" (.long y2)) :
    Ctr l Z (⟨"com/example/privy_attest/privyattest/protocol/Freshness", "isOutside", "(J)Z"⟩ : MethodName) prog_20_method_3_code 3 (some .boolean) ({ frames := 1, cells := 0, slots := 0, locals := 14 } : Room) #[(.ref o0), (.long j1)] h0 n0 (fun v h' => v = some (.int (f3 j1 y1 y2)) ∧ h' = h0) := by
  refine Ctr.body (L := #[.val (.ref o0), .val (.long j1), .second]) (plainFor_of_name pn3) Z0 (fun m => ef3 m o0 j1) ?_
  intro p e F m below meth c T0 C0
  refine C0.aloadN d3_0 rfl rfl rfl ?_
  refine C0.lloadN d3_1 rfl rfl ?_
  refine C0.callV (hw _ (List.mem_of_getElem? (i := 20) rfl)) (hw _ (List.mem_of_getElem? (i := 21) rfl)) (hw _ (List.mem_of_getElem? (i := 23) rfl)) (hw _ (List.mem_of_getElem? (i := 22) rfl)) (hw _ (List.mem_of_getElem? (i := 4) rfl)) (hw _ (List.mem_of_getElem? (i := 24) rfl)) E_o0 (by decide) (a := o0) (rm4 l Z a0 hw o0 j1 y1 y2 h0 n0 C0.size F_o0_now F_o0_maxAge) (argsL := [(.long j1)]) pd4 rfl 0 (by decide) (by decide) (by decide) (by decide) (rest := []) rfl rfl (Nat.le_of_eq rfl) d3_2 rfl (fun v1 T1 h1 C1 qq1 => ?_)
  obtain ⟨rfl, hh1⟩ := qq1
  have hh1 := hh1.symm; subst hh1
  show Go p e below F n0 (fun v h' => v = some (.int (f3 j1 y1 y2)) ∧ h' = h0) T1 (mkF m 5 #[.val (.ref o0), .val (.long j1), .second] [(.int (f4 j1 y1 y2))])
  refine C1.if_ne d3_5 (by decide) (by decide : _ = 31) rfl (fun c5 => ?_) (fun c5 => ?_)
  · refine C1.iconst (1 : Int32) d3_31 rfl rfl ?_
    refine C1.goto d3_32 (by decide) (by decide : _ = 36) ?_
    exact C1.retN (t := .boolean) d3_36 rfl (by simp) (by decide) (by decide) (w := (1 : Int32)) rfl ⟨by rw [f3, if_neg c5], rfl⟩
  · refine C1.lloadN d3_8 rfl rfl ?_
    refine C1.aloadN d3_9 rfl rfl rfl ?_
    refine C1.getF (host := "") (Or.inl (hw _ (List.mem_of_getElem? (i := 11) rfl))) Via.refl F_o0_now d3_10 rfl (fun T2 C2 => ?_)
    refine C2.lif_le d3_13 rfl d3_14 (by decide) (by decide : _ = 35) rfl (fun c14 => ?_) (fun c14 => ?_)
    · refine C2.iconst (0 : Int32) d3_35 rfl rfl ?_
      exact C2.retN (t := .boolean) d3_36 rfl (by simp) (by decide) (by decide) (w := (0 : Int32)) rfl ⟨by rw [f3, if_pos c5, if_neg c14], rfl⟩
    · refine C2.lloadN d3_17 rfl rfl ?_
      refine C2.aloadN d3_18 rfl rfl rfl ?_
      refine C2.getF (host := "") (Or.inl (hw _ (List.mem_of_getElem? (i := 11) rfl))) Via.refl F_o0_now d3_19 rfl (fun T3 C3 => ?_)
      refine C3.lsub d3_22 rfl ?_
      refine C3.aloadN d3_23 rfl rfl rfl ?_
      refine C3.getF (host := "") (Or.inl (hw _ (List.mem_of_getElem? (i := 13) rfl))) Via.refl F_o0_maxAge d3_24 rfl (fun T4 C4 => ?_)
      refine C4.lif_le d3_27 rfl d3_28 (by decide) (by decide : _ = 35) rfl (fun c28 => ?_) (fun c28 => ?_)
      · refine C4.iconst (0 : Int32) d3_35 rfl rfl ?_
        exact C4.retN (t := .boolean) d3_36 rfl (by simp) (by decide) (by decide) (w := (0 : Int32)) rfl ⟨by rw [f3, if_pos c5, if_pos c14, if_neg c28], rfl⟩
      · refine C4.iconst (1 : Int32) d3_31 rfl rfl ?_
        refine C4.goto d3_32 (by decide) (by decide : _ = 36) ?_
        exact C4.retN (t := .boolean) d3_36 rfl (by simp) (by decide) (by decide) (w := (1 : Int32)) rfl ⟨by rw [f3, if_pos c5, if_pos c14, if_pos c28], rfl⟩
set_option maxRecDepth 65536 in
set_option maxHeartbeats 40000000 in
theorem own_pre0 (j0 : Int64) (j1 : Int64) (j2 : Int64) (i3 : Int32) (v1 : Int64) (u2 : Int64) (v4 : Int64) (v5 : Int32) (u6 : Int64) (hv1 : v1 = (j0 &&& (9223372036854775807 : Int64))) (hu2 : u2 = (if (i3 &&& (4 : Int32)) = (0 : Int32) then (j1 &&& (9223372036854775807 : Int64)) else (j1 &&& (7 : Int64)))) (hv4 : v4 = ((j2 &&& (3 : Int64)) - (1 : Int64))) (hv5 : v5 = (i3 &&& (3 : Int32))) (hu6 : u6 = (if v5 = (0 : Int32) then j2 else (if v5 = (1 : Int32) then ((v1 - u2) + v4) else (if v5 = (2 : Int32) then ((v1 + u2) + v4) else (v1 + v4))))) : ¬ v1 < (0 : Int64) := by
  clear hu6 hv4 hv5
  have ca_0 := c_maskL j0 9223372036854775807 63 (by decide) (by decide)
  have ca_1 := c_maskL j1 7 3 (by decide) (by decide)
  have ca_2 := c_maskL j1 9223372036854775807 63 (by decide) (by decide)
  have ca_3 := c_maskL j0 7 3 (by decide) (by decide)
  try simp only [own_eqite, own_iteeq] at *
  try simp only [ne_eq, and_true, true_and, or_true, true_or, and_false, false_and, or_false, false_or, not_true_eq_false, not_false_eq_true, Int32.lt_iff_toInt_lt, Int64.lt_iff_toInt_lt, ← Int32.toInt_inj, ← Int64.toInt_inj, Int32.reduceToInt, Int64.reduceToInt] at *
  omega
set_option maxRecDepth 65536 in
set_option maxHeartbeats 40000000 in
theorem own_pre1 (j0 : Int64) (j1 : Int64) (j2 : Int64) (i3 : Int32) (v1 : Int64) (u2 : Int64) (v4 : Int64) (v5 : Int32) (u6 : Int64) (hv1 : v1 = (j0 &&& (9223372036854775807 : Int64))) (hu2 : u2 = (if (i3 &&& (4 : Int32)) = (0 : Int32) then (j1 &&& (9223372036854775807 : Int64)) else (j1 &&& (7 : Int64)))) (hv4 : v4 = ((j2 &&& (3 : Int64)) - (1 : Int64))) (hv5 : v5 = (i3 &&& (3 : Int32))) (hu6 : u6 = (if v5 = (0 : Int32) then j2 else (if v5 = (1 : Int32) then ((v1 - u2) + v4) else (if v5 = (2 : Int32) then ((v1 + u2) + v4) else (v1 + v4))))) : ¬ u2 < (0 : Int64) := by
  clear hu6 hv4 hv5
  have ca_0 := c_maskL j0 9223372036854775807 63 (by decide) (by decide)
  have ca_1 := c_maskL j1 7 3 (by decide) (by decide)
  have ca_2 := c_maskL j1 9223372036854775807 63 (by decide) (by decide)
  have ca_3 := c_maskL j0 7 3 (by decide) (by decide)
  try simp only [own_eqite, own_iteeq] at *
  try simp only [ne_eq, and_true, true_and, or_true, true_or, and_false, false_and, or_false, false_or, not_true_eq_false, not_false_eq_true, Int32.lt_iff_toInt_lt, Int64.lt_iff_toInt_lt, ← Int32.toInt_inj, ← Int64.toInt_inj, Int32.reduceToInt, Int64.reduceToInt] at *
  omega
set_option maxRecDepth 65536 in
set_option maxHeartbeats 40000000 in
theorem own_bad0 (j0 : Int64) (j1 : Int64) (j2 : Int64) (i3 : Int32) (v1 : Int64) (u2 : Int64) (v4 : Int64) (v5 : Int32) (u6 : Int64) (v11 : Int32) (hv1 : v1 = (j0 &&& (9223372036854775807 : Int64))) (hu2 : u2 = (if (i3 &&& (4 : Int32)) = (0 : Int32) then (j1 &&& (9223372036854775807 : Int64)) else (j1 &&& (7 : Int64)))) (hv4 : v4 = ((j2 &&& (3 : Int64)) - (1 : Int64))) (hv5 : v5 = (i3 &&& (3 : Int32))) (hu6 : u6 = (if v5 = (0 : Int32) then j2 else (if v5 = (1 : Int32) then ((v1 - u2) + v4) else (if v5 = (2 : Int32) then ((v1 + u2) + v4) else (v1 + v4))))) (hv11 : v11 = (f3 u6 v1 u2)) (c135 : ¬ v11 = (f5 v1 u2 u6)) : False := by
  clear hu6 hv4 hv5
  have ca_0 := c_maskL j0 9223372036854775807 63 (by decide) (by decide)
  have ca_1 := c_maskL j1 7 3 (by decide) (by decide)
  have ca_2 := c_maskL j1 9223372036854775807 63 (by decide) (by decide)
  have ca_3 := c_maskL j0 7 3 (by decide) (by decide)
  have ca_4 := c_lsub v1 u6
  have ca_5 := c_lsub v1 u2
  have ca_6 := c_lsub u6 v1
  have bl_0 := (v1).le_toInt; have bu_0 := (v1).toInt_lt
  have bl_1 := (u2).le_toInt; have bu_1 := (u2).toInt_lt
  have bl_2 := (u6).le_toInt; have bu_2 := (u6).toInt_lt
  have bl_3 := (v1 - u6).le_toInt; have bu_3 := (v1 - u6).toInt_lt
  have bl_4 := (v1 - u2).le_toInt; have bu_4 := (v1 - u2).toInt_lt
  have bl_5 := (u6 - v1).le_toInt; have bu_5 := (u6 - v1).toInt_lt
  try simp only [f3, f4, f5, own_eqite, own_iteeq] at *
  try simp only [ne_eq, and_true, true_and, or_true, true_or, and_false, false_and, or_false, false_or, not_true_eq_false, not_false_eq_true, Int32.lt_iff_toInt_lt, Int64.lt_iff_toInt_lt, ← Int32.toInt_inj, ← Int64.toInt_inj, Int32.reduceToInt, Int64.reduceToInt] at *
  omega
theorem pn0 : plainName "com/example/privy_attest/privyattest/protocol/FreshnessIsOutsidePinLaw" = true := by first | (simp [plainName, overriddenIn]; done) | decide +kernel
theorem ef0 (m : MethodId) (j0 : Int64) (j1 : Int64) (j2 : Int64) (i3 : Int32) : entryFrame m #[(.long j0), (.long j1), (.long j2), (.int i3)] maxLocals = mkF m 0 #[.val (.long j0), .second, .val (.long j1), .second, .val (.long j2), .second, .val (.int i3), .unset, .unset, .unset, .unset, .unset, .unset, .unset, .unset, .unset, .unset, .unset] [] := by first | (simp [entryFrame, mkF, argsToLocals, Value.category, maxLocals]; done) | rfl
set_option maxRecDepth 65536 in
set_option maxHeartbeats 40000000 in
theorem rm0 (l : Launch) (Z : State) (a0 : Array Value) (hw : ∀ d ∈ tables_1, d.before a0 Z = true) (j0 : Int64) (j1 : Int64) (j2 : Int64) (i3 : Int32) (h0 : Heap) (n0 : Nat) (Z0 : n0 ≤ h0.size) :
    Ctr l Z x code maxLocals ret room_1 #[(.long j0), (.long j1), (.long j2), (.int i3)] h0 n0 (fun v _ => v = some (.int (1 : Int32))) := by
  refine Ctr.body (L := #[.val (.long j0), .second, .val (.long j1), .second, .val (.long j2), .second, .val (.int i3), .unset, .unset, .unset, .unset, .unset, .unset, .unset, .unset, .unset, .unset, .unset]) (plainFor_of_name pn0) Z0 (fun m => ef0 m j0 j1 j2 i3) ?_
  intro p e F m below meth c T0 C0
  refine C0.lloadN at_0 rfl rfl ?_
  refine C0.ldc2 (hw _ (List.mem_of_getElem? (i := 0) rfl)) at_1 rfl ?_
  refine C0.land at_4 rfl ?_
  refine C0.lstoreV (fun v => #[.val (.long j0), .second, .val (.long j1), .second, .val (.long j2), .second, .val (.int i3), .val (.long v), .second, .unset, .unset, .unset, .unset, .unset, .unset, .unset, .unset, .unset]) at_5 rfl (fun _ => rfl) (fun v1 hv1 => ?_)
  refine C0.iload at_7 rfl rfl ?_
  refine C0.iconst (4 : Int32) at_9 rfl rfl ?_
  refine C0.iand at_10 rfl ?_
  have J27 : ∀ (T3 : State) (u2 : Int64), Cx p l e room_1 m #[(.long j0), (.long j1), (.long j2), (.int i3)] below meth c Z x code maxLocals ret n0 false F T3 h0 0 0 → u2 = (if (i3 &&& (4 : Int32)) = (0 : Int32) then (j1 &&& (9223372036854775807 : Int64)) else (j1 &&& (7 : Int64))) → Go p e below F n0 (fun v _ => v = some (.int (1 : Int32))) T3 (mkF m 27 #[.val (.long j0), .second, .val (.long j1), .second, .val (.long j2), .second, .val (.int i3), .val (.long v1), .second, .unset, .unset, .unset, .unset, .unset, .unset, .unset, .unset, .unset] [(.long u2)]) := by
    intro T3 u2 C3 hu2
    refine C3.lstore at_27 rfl (L' := #[.val (.long j0), .second, .val (.long j1), .second, .val (.long j2), .second, .val (.int i3), .val (.long v1), .second, .val (.long u2), .second, .unset, .unset, .unset, .unset, .unset, .unset, .unset]) rfl ?_
    refine C3.lload at_29 rfl rfl ?_
    refine C3.ldc2 (hw _ (List.mem_of_getElem? (i := 1) rfl)) at_31 rfl ?_
    refine C3.land at_34 rfl ?_
    refine C3.lconst (1 : Int64) at_35 rfl rfl ?_
    refine C3.lsub at_36 rfl ?_
    refine C3.lstoreV (fun v => #[.val (.long j0), .second, .val (.long j1), .second, .val (.long j2), .second, .val (.int i3), .val (.long v1), .second, .val (.long u2), .second, .val (.long v), .second, .unset, .unset, .unset, .unset, .unset]) at_37 rfl (fun _ => rfl) (fun v4 hv4 => ?_)
    refine C3.iload at_39 rfl rfl ?_
    refine C3.iconst (3 : Int32) at_41 rfl rfl ?_
    refine C3.iand at_42 rfl ?_
    refine C3.istoreV (fun v => #[.val (.long j0), .second, .val (.long j1), .second, .val (.long j2), .second, .val (.int i3), .val (.long v1), .second, .val (.long u2), .second, .val (.long v4), .second, .val (.int v), .unset, .unset, .unset, .unset]) at_43 rfl (fun _ => rfl) (fun v5 hv5 => ?_)
    refine C3.iload at_45 rfl rfl ?_
    have J102 : ∀ (T7 : State) (u6 : Int64), Cx p l e room_1 m #[(.long j0), (.long j1), (.long j2), (.int i3)] below meth c Z x code maxLocals ret n0 false F T7 h0 0 0 → u6 = (if v5 = (0 : Int32) then j2 else (if v5 = (1 : Int32) then ((v1 - u2) + v4) else (if v5 = (2 : Int32) then ((v1 + u2) + v4) else (v1 + v4)))) → Go p e below F n0 (fun v _ => v = some (.int (1 : Int32))) T7 (mkF m 102 #[.val (.long j0), .second, .val (.long j1), .second, .val (.long j2), .second, .val (.int i3), .val (.long v1), .second, .val (.long u2), .second, .val (.long v4), .second, .val (.int v5), .val (.long u6), .second, .unset, .unset] []) := by
      intro T7 u6 C7 hu6
      refine C7.new (hw _ (List.mem_of_getElem? (i := 2) rfl)) (hw _ (List.mem_of_getElem? (i := 3) rfl)) (hw _ (List.mem_of_getElem? (i := 4) rfl)) at_102 rfl (by decide) (by decide) (fun T8 h8 b8 C8 e8 g_b8 E8 E_b8 D8 => ?_)
      have F_b8_now : Fld Z h8 b8 "com/example/privy_attest/privyattest/protocol/Freshness" "now" "J" (.long (0 : Int64)) := D8 (Or.inr (hw _ (List.mem_of_getElem? (i := 12) rfl))) (ty := .long) (by decide)
      have F_b8_maxAge : Fld Z h8 b8 "com/example/privy_attest/privyattest/protocol/Freshness" "maxAge" "J" (.long (0 : Int64)) := D8 (Or.inr (hw _ (List.mem_of_getElem? (i := 14) rfl))) (ty := .long) (by decide)
      refine C8.dup at_105 rfl rfl ?_
      refine C8.lload at_106 rfl rfl ?_
      refine C8.lload at_108 rfl rfl ?_
      refine C8.callN rfl (hw _ (List.mem_of_getElem? (i := 5) rfl)) (hw _ (List.mem_of_getElem? (i := 6) rfl)) (hw _ (List.mem_of_getElem? (i := 4) rfl)) (hw _ (List.mem_of_getElem? (i := 7) rfl)) (by decide) (a := b8) (rm1 l Z a0 hw b8 v1 u2 (.long (0 : Int64)) (.long (0 : Int64)) h8 n0 C8.size E_b8 F_b8_now F_b8_maxAge g_b8 (own_pre0 j0 j1 j2 i3 v1 u2 v4 v5 u6 hv1 hu2 hv4 hv5 hu6) (own_pre1 j0 j1 j2 i3 v1 u2 v4 v5 u6 hv1 hu2 hv4 hv5 hu6)) (argsL := [(.long v1), (.long u2)]) pd1 rfl 1 (by decide) (by decide) (by decide) (by decide) (rest := [(.ref b8)]) rfl rfl (Nat.le_of_eq rfl) at_110 rfl (fun v9 T9 h9 C9 qq9 => ?_)
      obtain ⟨rfl, K9, p9_0, p9_1, p9_2⟩ := qq9
      have E_b8 := E_b8.keep K9
      have E_b8 := p9_0
      have F_b8_now := p9_1
      have F_b8_maxAge := p9_2
      show Go p e below F n0 (fun v _ => v = some (.int (1 : Int32))) T9 (mkF m 113 #[.val (.long j0), .second, .val (.long j1), .second, .val (.long j2), .second, .val (.int i3), .val (.long v1), .second, .val (.long u2), .second, .val (.long v4), .second, .val (.int v5), .val (.long u6), .second, .unset, .unset] [(.ref b8)])
      refine C9.astore at_113 rfl rfl (L' := #[.val (.long j0), .second, .val (.long j1), .second, .val (.long j2), .second, .val (.int i3), .val (.long v1), .second, .val (.long u2), .second, .val (.long v4), .second, .val (.int v5), .val (.long u6), .second, .val (.ref b8), .unset]) rfl ?_
      refine C9.aload at_115 rfl rfl rfl ?_
      refine C9.lload at_117 rfl rfl ?_
      refine C9.callV (hw _ (List.mem_of_getElem? (i := 15) rfl)) (hw _ (List.mem_of_getElem? (i := 16) rfl)) (hw _ (List.mem_of_getElem? (i := 18) rfl)) (hw _ (List.mem_of_getElem? (i := 17) rfl)) (hw _ (List.mem_of_getElem? (i := 4) rfl)) (hw _ (List.mem_of_getElem? (i := 19) rfl)) E_b8 (by decide) (a := b8) (rm3 l Z a0 hw b8 u6 v1 u2 h9 n0 C9.size E_b8 F_b8_now F_b8_maxAge) (argsL := [(.long u6)]) pd3 rfl 0 (by decide) (by decide) (by decide) (by decide) (rest := []) rfl rfl (Nat.le_of_eq rfl) at_119 rfl (fun v10 T10 h10 C10 qq10 => ?_)
      obtain ⟨rfl, hh10⟩ := qq10
      have hh10 := hh10.symm; subst hh10
      show Go p e below F n0 (fun v _ => v = some (.int (1 : Int32))) T10 (mkF m 122 #[.val (.long j0), .second, .val (.long j1), .second, .val (.long j2), .second, .val (.int i3), .val (.long v1), .second, .val (.long u2), .second, .val (.long v4), .second, .val (.int v5), .val (.long u6), .second, .val (.ref b8), .unset] [(.int (f3 u6 v1 u2))])
      refine C10.istoreV (fun v => #[.val (.long j0), .second, .val (.long j1), .second, .val (.long j2), .second, .val (.int i3), .val (.long v1), .second, .val (.long u2), .second, .val (.long v4), .second, .val (.int v5), .val (.long u6), .second, .val (.ref b8), .val (.int v)]) at_122 rfl (fun _ => rfl) (fun v11 hv11 => ?_)
      refine C10.iload at_124 rfl rfl ?_
      refine C10.lload at_126 rfl rfl ?_
      refine C10.lload at_128 rfl rfl ?_
      refine C10.lload at_130 rfl rfl ?_
      refine C10.callS (hw _ (List.mem_of_getElem? (i := 25) rfl)) (hw _ (List.mem_of_getElem? (i := 26) rfl)) (hw _ (List.mem_of_getElem? (i := 27) rfl)) (hw _ (List.mem_of_getElem? (i := 28) rfl)) (by decide) (rm5 l Z a0 hw v1 u2 u6 h9 n0 C10.size ) (argsL := [(.long v1), (.long u2), (.long u6)]) pd5 rfl 1 (by decide) (by decide) (by decide) (by decide) (rest := [(.int v11)]) rfl rfl (Nat.le_of_eq rfl) at_132 rfl (fun v12 T12 h12 C12 qq12 => ?_)
      obtain ⟨rfl, hh12⟩ := qq12
      have hh12 := hh12.symm; subst hh12
      show Go p e below F n0 (fun v _ => v = some (.int (1 : Int32))) T12 (mkF m 135 #[.val (.long j0), .second, .val (.long j1), .second, .val (.long j2), .second, .val (.int i3), .val (.long v1), .second, .val (.long u2), .second, .val (.long v4), .second, .val (.int v5), .val (.long u6), .second, .val (.ref b8), .val (.int v11)] [(.int (f5 v1 u2 u6)), (.int v11)])
      refine C12.icmp_ne at_135 (by decide) (by decide : _ = 142) rfl (fun c135 => ?_) (fun c135 => ?_)
      · refine C12.iconst (0 : Int32) at_142 rfl rfl ?_
        exact (own_bad0 j0 j1 j2 i3 v1 u2 v4 v5 u6 v11 hv1 hu2 hv4 hv5 hu6 hv11 c135).elim
      · refine C12.iconst (1 : Int32) at_138 rfl rfl ?_
        refine C12.goto at_139 (by decide) (by decide : _ = 143) ?_
        exact C12.retN (t := .boolean) at_143 rfl (by simp) (by decide) (by decide) (w := (1 : Int32)) rfl rfl
    refine C3.if_ne at_47 (by decide) (by decide : _ = 57) rfl (fun c47 => ?_) (fun c47 => ?_)
    · refine C3.iload at_57 rfl rfl ?_
      refine C3.iconst (1 : Int32) at_59 rfl rfl ?_
      refine C3.icmp_ne at_60 (by decide) (by decide : _ = 76) rfl (fun c60 => ?_) (fun c60 => ?_)
      · refine C3.iload at_76 rfl rfl ?_
        refine C3.iconst (2 : Int32) at_78 rfl rfl ?_
        refine C3.icmp_ne at_79 (by decide) (by decide : _ = 95) rfl (fun c79 => ?_) (fun c79 => ?_)
        · refine C3.lload at_95 rfl rfl ?_
          refine C3.lload at_97 rfl rfl ?_
          refine C3.ladd at_99 rfl ?_
          refine C3.lstore at_100 rfl (L' := #[.val (.long j0), .second, .val (.long j1), .second, .val (.long j2), .second, .val (.int i3), .val (.long v1), .second, .val (.long u2), .second, .val (.long v4), .second, .val (.int v5), .val (.long (v1 + v4)), .second, .unset, .unset]) rfl ?_
          exact J102 _ (v1 + v4) C3 (by simp only [if_neg c47, if_neg c60, if_neg c79])
        · refine C3.lload at_82 rfl rfl ?_
          refine C3.lload at_84 rfl rfl ?_
          refine C3.ladd at_86 rfl ?_
          refine C3.lload at_87 rfl rfl ?_
          refine C3.ladd at_89 rfl ?_
          refine C3.lstore at_90 rfl (L' := #[.val (.long j0), .second, .val (.long j1), .second, .val (.long j2), .second, .val (.int i3), .val (.long v1), .second, .val (.long u2), .second, .val (.long v4), .second, .val (.int v5), .val (.long ((v1 + u2) + v4)), .second, .unset, .unset]) rfl ?_
          refine C3.goto at_92 (by decide) (by decide : _ = 102) ?_
          exact J102 _ ((v1 + u2) + v4) C3 (by simp only [if_neg c47, if_neg c60, if_pos c79])
      · refine C3.lload at_63 rfl rfl ?_
        refine C3.lload at_65 rfl rfl ?_
        refine C3.lsub at_67 rfl ?_
        refine C3.lload at_68 rfl rfl ?_
        refine C3.ladd at_70 rfl ?_
        refine C3.lstore at_71 rfl (L' := #[.val (.long j0), .second, .val (.long j1), .second, .val (.long j2), .second, .val (.int i3), .val (.long v1), .second, .val (.long u2), .second, .val (.long v4), .second, .val (.int v5), .val (.long ((v1 - u2) + v4)), .second, .unset, .unset]) rfl ?_
        refine C3.goto at_73 (by decide) (by decide : _ = 102) ?_
        exact J102 _ ((v1 - u2) + v4) C3 (by simp only [if_neg c47, if_pos c60])
    · refine C3.lload at_50 rfl rfl ?_
      refine C3.lstore at_52 rfl (L' := #[.val (.long j0), .second, .val (.long j1), .second, .val (.long j2), .second, .val (.int i3), .val (.long v1), .second, .val (.long u2), .second, .val (.long v4), .second, .val (.int v5), .val (.long j2), .second, .unset, .unset]) rfl ?_
      refine C3.goto at_54 (by decide) (by decide : _ = 102) ?_
      exact J102 _ j2 C3 (by simp only [if_pos c47])
  refine C0.if_eq at_11 (by decide) (by decide : _ = 22) rfl (fun c11 => ?_) (fun c11 => ?_)
  · refine C0.lloadN at_22 rfl rfl ?_
    refine C0.ldc2 (hw _ (List.mem_of_getElem? (i := 0) rfl)) at_23 rfl ?_
    refine C0.land at_26 rfl ?_
    exact J27 _ (j1 &&& (9223372036854775807 : Int64)) C0 (by simp only [if_pos c11])
  · refine C0.lloadN at_14 rfl rfl ?_
    refine C0.ldc2 (hw _ (List.mem_of_getElem? (i := 29) rfl)) at_15 rfl ?_
    refine C0.land at_18 rfl ?_
    refine C0.goto at_19 (by decide) (by decide : _ = 27) ?_
    exact J27 _ (j1 &&& (7 : Int64)) C0 (by simp only [if_neg c11])
set_option maxRecDepth 65536 in
set_option maxHeartbeats 40000000 in
theorem comes_1 {Post : Tables → Env → Array Value → State → Outcome → State → Prop} (hpost : ∀ tb e args s v u, (limb_1_1.after args s (.returned v) u = true ∧ limb_1_2.after args s (.returned v) u = true ∧ True) → FrameEnd s (.returned v) u (Jvm.fieldLocs frame_1_writes args s ++ Jvm.arrayLocs frame_1_arrays args s ++ Jvm.staticLocs frame_1_statics s) 16 128 → Post tb e args s (.returned v) u) :
    ArmFor flags0 classFile x code maxLocals ret World_1 tables_1 room_1 Calls_1 rest_1 Pre_1 Post := by
  intro l hfl _ _ p e ha hc hk s m args below hf hA hF happ hP
  obtain ⟨hcalls, hrest, hpre⟩ := hP
  obtain ⟨-, -, -, hnamed, -, -, -, hat⟩ := (Spec.applies_iff hf).mp happ
  obtain ⟨hg, hn⟩ := and_e (Cond.before_iff.mp (show (Jvm.Cond.and given_1 narrow_1).before args s = true from hpre))
  obtain ⟨g1, g2⟩ := and_e hg
  obtain ⟨g3, g4⟩ := and_e g2
  obtain ⟨g5, g6⟩ := and_e g4
  obtain ⟨g7, g8⟩ := and_e g6
  obtain ⟨w0, w1, w2, w3, rfl⟩ : ∃ w0 w1 w2 w3 : Value, args = #[w0, w1, w2, w3] := by
    have hs : args.size = 4 := by simpa [Cond.value, given_1] using g1
    obtain ⟨L⟩ := args
    match L, hs with
    | [w0, w1, w2, w3], _ => exact ⟨w0, w1, w2, w3, rfl⟩
  have hw := fun d (hd : d ∈ tables_1) => atoms_spec (ws := Jvm.Cond.code x code maxLocals ret :: tables_1) hat d (List.mem_cons_of_mem _ hd)
  have hfit : Fit s := fun {y c} hc i hi => by
    obtain ⟨ha, rfl⟩ := Array.getElem?_eq_some_iff.mp hc
    have q := List.all_eq_true.mp ((Array.all_eq_true_iff_forall_mem.mp hF) _ (Array.getElem_mem ha)) i (List.mem_range.mpr hi)
    simpa [Array.getElem?_eq_getElem hi] using q
  obtain ⟨i0, ei0⟩ := isL_v g3
  obtain rfl : w0 = (.long i0) := Option.some.inj ei0
  obtain ⟨i1, ei1⟩ := isL_v g5
  obtain rfl : w1 = (.long i1) := Option.some.inj ei1
  obtain ⟨i2, ei2⟩ := isL_v g7
  obtain rfl : w2 = (.long i2) := Option.some.inj ei2
  obtain ⟨i3, ei3⟩ := is_v g8
  obtain rfl : w3 = (.int i3) := Option.some.inj ei3
  obtain ⟨n, o, h1, h2, h3, _, L, rfl, ⟨⟨rfl, -⟩, N⟩, hq⟩ := rm0 l s _ hw i0 i1 i2 i3 s.heap s.heap.size (Nat.le_refl _) tables_1 p e ha hc hk s m _ below hf ((Spec.applies_iff_loose hf).mp happ).1 ⟨rfl, State.Warmed39.refl s, rfl⟩ trivial
  refine ⟨n, _, h1, h2, h3, hpost _ _ _ _ _ _ ⟨Cond.after_iff.mpr rfl, Cond.after_iff.mpr (eq_i res_at (Term.int_eval (1)) rfl), trivial⟩ ⟨hq.1, hq.2.1, (hq.2.2.sift fun y hy => Or.inr (N y hy)).mono (by decide) (by decide)⟩⟩
theorem main_1_1 : Claimed_1_1 := comes_1 fun _ _ _ _ _ _ h hF => ⟨h.1, hF⟩
theorem main_1_2 : Claimed_1_2 := comes_1 fun _ _ _ _ _ _ h hF => ⟨h.2.1, hF⟩
end Jvm.Pilot.@@N@@
namespace Jvm.Pilot.@@N@@
open Jvm Jvm.ClassFile Sem Op Lib Jvm.Free Jvm.Stand Jvm.Pilot.@@N@@.Jvm.D
/-! MADE BY PROGRAM (witnessworld.py) out of the Statement's table words and the real class files: 9 classes; the members and pool entries that the words name. The judged class is class 1, her method 1. -/
namespace start1
open Jvm.ClassFile
def u (s : String) : CpInfo := .utf8 (stringToUtf16 s)
/-- a pool by its gaps: so many unusable entries, then the entry; so many at the end -/
def gap : Nat → List CpInfo → List CpInfo
  | 0, r => r
  | n + 1, r => .unusable :: gap n r
def poolList (es : List (Nat × CpInfo)) (last : Nat) : List CpInfo := es.foldr (fun e r => gap e.1 (e.2 :: r)) (gap last [])
def pool (es : List (Nat × CpInfo)) (last : Nat) : Array CpInfo := ⟨poolList es last⟩
def fileOf (pool : Array CpInfo) (this : Nat) (attrs : Array Attribute := #[]) (ms : Array MethodInfo := #[]) (fl : Nat := 33) (sup : Nat := 0) (ifs : Array Nat := #[]) (fds : Array FieldInfo := #[]) : ClassFile where
  minorVersion := 0
  majorVersion := 65
  constantPool := pool
  accessFlags := fl
  thisClass := this
  superClass := sup
  interfaces := ifs
  fields := fds
  methods := ms
  attributes := attrs
def plain (name : String) (sup : Option ClassId) : Class where
  name := name
  kind := .ordinary
  loader := none
  accessFlags := 33
  super := sup
  interfaces := #[]
  cf := none
  fields := #[]
  methods := #[]
  instanceTypes := #[]
  staticTypes := #[]
  resolved := #[]
  callSites := []
  init := .initialized
  statics := none
  mirror := none

def pool0 : Array CpInfo := pool [(5, u "<init>"), (0, u "()V"), (1, .class_ 10), (1, u "java/lang/Object")] 113

def k0c0 : Code := { maxStack := 0, maxLocals := 1, code := object_method_1_code, exceptionTable := #[], attributes := #[] }
def k0m0 : Method := { name := "<init>", desc := "()V", sig := { parameters := [], returnType := none }, accessFlags := 1, code := some k0c0 }
/-- java/lang/Object -/
def k0 : Class := { plain "java/lang/Object" none with
  accessFlags := 33
  interfaces := #[]
  cf := some (fileOf pool0 8 #[] #[{ accessFlags := 1, nameIndex := 5, descriptorIndex := 6, attributes := #[] }] 33 0 #[] #[])
  fields := #[]
  methods := #[k0m0]
  instanceTypes := #[]
  staticTypes := #[]
  resolved := Array.replicate 124 none
  statics := none }

def pool1 : Array CpInfo := pool [(2, .class_ 4), (1, u "java/lang/Object"), (0, u "<init>"), (0, u "()V"), (2, .long 9223372036854775807), (1, .long 7), (1, .long 3), (1, .class_ 16), (0, u "com/example/privy_attest/privyattest/protocol/Freshness"), (0, .methodref 15 18), (0, .nameAndType 5 19), (0, u "(JJ)V"), (0, .methodref 15 21), (0, .nameAndType 22 23), (0, u "isOutside"), (0, u "(J)Z"), (0, .methodref 25 26), (0, .class_ 27), (0, .nameAndType 28 29), (0, u "com/example/privy_attest/privyattest/protocol/FreshnessIsOutsidePinLaw"), (0, u "expected"), (0, u "(JJJ)Z"), (2, u "law"), (0, u "(JJJI)Z")] 3

def k1m0 : Method := { name := "<init>", desc := "()V", sig := { parameters := [], returnType := none }, accessFlags := 1, code := none }
def k1c1 : Code := { maxStack := 7, maxLocals := 18, code := code, exceptionTable := #[], attributes := #[] }
def k1m1 : Method := { name := "law", desc := "(JJJI)Z", sig := { parameters := [.long, .long, .long, .int], returnType := some .boolean }, accessFlags := 9, code := some k1c1 }
def k1c2 : Code := { maxStack := 4, maxLocals := 8, code := method_3_code, exceptionTable := #[], attributes := #[] }
def k1m2 : Method := { name := "expected", desc := "(JJJ)Z", sig := { parameters := [.long, .long, .long], returnType := some .boolean }, accessFlags := 10, code := some k1c2 }
/-- com/example/privy_attest/privyattest/protocol/FreshnessIsOutsidePinLaw -/
def k1 : Class := { plain "com/example/privy_attest/privyattest/protocol/FreshnessIsOutsidePinLaw" (some 0) with
  accessFlags := 49
  interfaces := #[]
  cf := some (fileOf pool1 25 #[] #[{ accessFlags := 1, nameIndex := 5, descriptorIndex := 6, attributes := #[] }, { accessFlags := 9, nameIndex := 32, descriptorIndex := 33, attributes := #[] }, { accessFlags := 10, nameIndex := 28, descriptorIndex := 29, attributes := #[] }] 49 2 #[] #[])
  fields := #[]
  methods := #[k1m0, k1m1, k1m2]
  instanceTypes := #[]
  staticTypes := #[]
  resolved := Array.replicate 37 none
  statics := none }

def pool2 : Array CpInfo := pool [(1, .methodref 2 3), (0, .class_ 4), (0, .nameAndType 5 6), (0, u "java/lang/Object"), (0, u "<init>"), (0, u "()V"), (7, .fieldref 15 16), (0, .class_ 17), (0, .nameAndType 18 19), (0, u "com/example/privy_attest/privyattest/protocol/Freshness"), (0, u "now"), (0, u "J"), (0, .fieldref 15 21), (0, .nameAndType 22 19), (0, u "maxAge"), (0, .methodref 15 24), (0, .nameAndType 25 26), (0, u "isStale"), (0, u "(J)Z"), (0, u "DEFAULT_MAX_AGE"), (3, u "(JJ)V"), (4, u "isOutside")] 2

def k2c0 : Code := { maxStack := 4, maxLocals := 5, code := prog_20_method_1_code, exceptionTable := #[], attributes := #[] }
def k2m0 : Method := { name := "<init>", desc := "(JJ)V", sig := { parameters := [.long, .long], returnType := none }, accessFlags := 1, code := some k2c0 }
def k2c1 : Code := { maxStack := 4, maxLocals := 3, code := prog_20_method_3_code, exceptionTable := #[], attributes := #[] }
def k2m1 : Method := { name := "isOutside", desc := "(J)Z", sig := { parameters := [.long], returnType := some .boolean }, accessFlags := 1, code := some k2c1 }
def k2c2 : Code := { maxStack := 6, maxLocals := 3, code := prog_20_method_4_code, exceptionTable := #[], attributes := #[] }
def k2m2 : Method := { name := "isStale", desc := "(J)Z", sig := { parameters := [.long], returnType := some .boolean }, accessFlags := 1, code := some k2c2 }
/-- com/example/privy_attest/privyattest/protocol/Freshness -/
def k2 : Class := { plain "com/example/privy_attest/privyattest/protocol/Freshness" (some 0) with
  accessFlags := 33
  interfaces := #[]
  cf := some (fileOf pool2 15 #[] #[{ accessFlags := 1, nameIndex := 5, descriptorIndex := 31, attributes := #[] }, { accessFlags := 1, nameIndex := 36, descriptorIndex := 26, attributes := #[] }, { accessFlags := 1, nameIndex := 25, descriptorIndex := 26, attributes := #[] }] 33 2 #[] #[{ accessFlags := 25, nameIndex := 27, descriptorIndex := 19, attributes := #[] }, { accessFlags := 18, nameIndex := 18, descriptorIndex := 19, attributes := #[] }, { accessFlags := 18, nameIndex := 22, descriptorIndex := 19, attributes := #[] }])
  fields := #[{ name := "DEFAULT_MAX_AGE", type := .long, accessFlags := 25, slot := 0, constantValue := 0 }, { name := "now", type := .long, accessFlags := 18, slot := 0, constantValue := 0 }, { name := "maxAge", type := .long, accessFlags := 18, slot := 1, constantValue := 0 }]
  methods := #[k2m0, k2m1, k2m2]
  instanceTypes := #[.long, .long]
  staticTypes := #[.long]
  resolved := Array.replicate 39 none
  statics := none }

def pool3 : Array CpInfo := pool [(1, u "java/lang/Cloneable"), (0, .class_ 1), (0, u "java/lang/Object"), (0, .class_ 3)] 3

/-- java/lang/Cloneable -/
def k3 : Class := { plain "java/lang/Cloneable" (some 0) with
  accessFlags := 1537
  interfaces := #[]
  cf := some (fileOf pool3 2 #[] #[] 1537 4 #[] #[])
  fields := #[]
  methods := #[]
  instanceTypes := #[]
  staticTypes := #[]
  resolved := Array.replicate 8 none
  statics := none }

def pool4 : Array CpInfo := pool [(1, u "java/io/Serializable"), (0, .class_ 1), (0, u "java/lang/Object"), (0, .class_ 3)] 3

/-- java/io/Serializable -/
def k4 : Class := { plain "java/io/Serializable" (some 0) with
  accessFlags := 1537
  interfaces := #[]
  cf := some (fileOf pool4 2 #[] #[] 1537 4 #[] #[])
  fields := #[]
  methods := #[]
  instanceTypes := #[]
  staticTypes := #[]
  resolved := Array.replicate 8 none
  statics := none }

/-- the primitive byte -/
def k5 : Class := { plain "byte" none with kind := .primitive 'B', accessFlags := 0x411 }
/-- [B -/
def k6 : Class := { plain "[B" (some 0) with kind := .array 5 .byte, interfaces := #[3, 4], accessFlags := 1041 }

/-- the primitive int -/
def k7 : Class := { plain "int" none with kind := .primitive 'I', accessFlags := 0x411 }
/-- [I -/
def k8 : Class := { plain "[I" (some 0) with kind := .array 7 .int, interfaces := #[3, 4], accessFlags := 1041 }

def heap : Heap := #[]
def classes : Array Class := #[k0, k1, k2, k3, k4, k5, k6, k7, k8]
def interned : List (Array UInt16 × Addr) := []
def slotsUsed : Nat := 0
def theMethod : MethodId := ⟨1, 1⟩
def args0 : Array Value := #[.long 5, .long 7, .long 9, .int 1]
def aboutOver (below : List Frame) : State where
  vm := { classes := classes, interned := interned.toArray }
  heap := heap
  slotsUsed := slotsUsed
  threads := #[{ frames := .invoking theMethod args0 :: below }]
def below0 : List Frame := [.native { method := ⟨0, 0⟩, args := #[] }]
def about1 : State := aboutOver below0
def p0 : Program := .bare "" "" ""
def e0 : Env := launch0.env 0 0 0
theorem w_frames : about1.frames = Frame.invoking theMethod args0 :: below0 := rfl
set_option maxRecDepth 65536 in
theorem w_args : argsFit about1.vm theMethod args0 = true := by decide +kernel
set_option maxRecDepth 65536 in
theorem w_heap : heapFits about1 = true := by decide +kernel
set_option maxRecDepth 65536 in
theorem w_runnable : about1.curStatus? = some .runnable := by decide +kernel
set_option maxRecDepth 65536 in
theorem w_alone : about1.alone = true := by decide +kernel
set_option maxRecDepth 65536 in
theorem w_named : about1.methodNamed? x = some theMethod := by decide +kernel
set_option maxRecDepth 65536 in
theorem w_hears : about1.hears theMethod below0 = true := by decide +kernel
set_option maxRecDepth 65536 in
theorem w_ripe : about1.ripe theMethod args0 below0 = true := by decide +kernel
theorem w_running : about1.status = .running := rfl
set_option maxRecDepth 65536 in
theorem w_room : about1.hasRoom e0.platform room_1 = true :=
  launch0.hasRoom_least _ room_1 (by decide +kernel) (by decide +kernel) (by decide +kernel) (by decide +kernel) (by decide +kernel) (by decide +kernel)
theorem allAtoms_all (ts : List Jvm.Cond) (a : Array Jvm.Value) (st : Jvm.State) : (allAtoms ts).before a st = ts.all (fun c => c.before a st) := by
  induction ts with
  | nil => rfl
  | cons c t ih =>
    show (Jvm.Cond.and c (allAtoms t)).before a st = _
    rw [Jvm.Cond.before_and, ih, List.all_cons]
def words1 : List Jvm.Cond := Jvm.Cond.code x code maxLocals ret :: tables_1
/-- a 'code' word, met by the world's own term for the bytes: nothing is compared byte by byte -/
theorem code_word {y : MethodName} {bytes : ByteArray} {mx : Nat} {rt : Option FieldType} {a : Array Value} {s : State} {m : MethodId} {meth : Method} {c : Code} (h1 : s.methodNamed? y = some m) (h2 : s.vm.method? m = some meth) (h3 : meth.code = some c) (h4 : c.code = bytes)
    (h5 : (c.maxLocals == mx && c.exceptionTable.isEmpty && decide (c.maxStack ≤ mostOperands) && decide (meth.sig.returnType = rt) && !meth.locks && decide (parseMethodDescriptor y.desc = some meth.sig)) = true) : (Jvm.Cond.code y bytes mx rt).before a s = true := by
  simp only [Bool.and_eq_true, beq_iff_eq, Bool.not_eq_true', decide_eq_true_eq] at h5
  obtain ⟨⟨⟨⟨⟨g1, g2⟩, g3⟩, g4⟩, g5⟩, g6⟩ := h5
  simp [Cond.before, Cond.holds, Cond.value, h1, h2, h3, h4, g1, g2, g3, g4, g5, g6]
def isCode : Jvm.Cond → Bool
  | .code _ _ _ _ => true
  | _ => false
theorem all_split {L : List Jvm.Cond} {P : Jvm.Cond → Bool} (h1 : L.all (fun c => isCode c || P c) = true) (h2 : ∀ c ∈ L.filter isCode, P c = true) : L.all P = true := by
  refine List.all_eq_true.mpr fun c hc => ?_
  have h := List.all_eq_true.mp h1 c hc
  rcases Bool.eq_false_or_eq_true (isCode c) with hi | hi
  · exact h2 c (List.mem_filter.mpr ⟨hc, hi⟩)
  · simpa [hi] using h
set_option maxRecDepth 65536 in
theorem w_c0 : (Jvm.Cond.code x code maxLocals ret).before args0 about1 = true := code_word (m := ⟨1, 1⟩) (meth := k1m1) (c := k1c1) (by decide +kernel) rfl rfl rfl (by decide +kernel)
set_option maxRecDepth 65536 in
theorem w_c1 : (Jvm.Cond.code ({ cls := "com/example/privy_attest/privyattest/protocol/Freshness", name := "<init>", desc := "(JJ)V" } : Jvm.MethodName) prog_20_method_1_code (5 : Nat) (Option.none : Option Jvm.ClassFile.FieldType)).before args0 about1 = true := code_word (m := ⟨2, 0⟩) (meth := k2m0) (c := k2c0) (by decide +kernel) rfl rfl rfl (by decide +kernel)
set_option maxRecDepth 65536 in
theorem w_c2 : (Jvm.Cond.code ({ cls := "java/lang/Object", name := "<init>", desc := "()V" } : Jvm.MethodName) object_method_1_code (1 : Nat) (Option.none : Option Jvm.ClassFile.FieldType)).before args0 about1 = true := code_word (m := ⟨0, 0⟩) (meth := k0m0) (c := k0c0) (by decide +kernel) rfl rfl rfl (by decide +kernel)
set_option maxRecDepth 65536 in
theorem w_c3 : (Jvm.Cond.code ({ cls := "com/example/privy_attest/privyattest/protocol/Freshness", name := "isOutside", desc := "(J)Z" } : Jvm.MethodName) prog_20_method_3_code (3 : Nat) (Option.some Jvm.ClassFile.FieldType.boolean)).before args0 about1 = true := code_word (m := ⟨2, 1⟩) (meth := k2m1) (c := k2c1) (by decide +kernel) rfl rfl rfl (by decide +kernel)
set_option maxRecDepth 65536 in
theorem w_c4 : (Jvm.Cond.code ({ cls := "com/example/privy_attest/privyattest/protocol/Freshness", name := "isStale", desc := "(J)Z" } : Jvm.MethodName) prog_20_method_4_code (3 : Nat) (Option.some Jvm.ClassFile.FieldType.boolean)).before args0 about1 = true := code_word (m := ⟨2, 2⟩) (meth := k2m2) (c := k2c2) (by decide +kernel) rfl rfl rfl (by decide +kernel)
set_option maxRecDepth 65536 in
theorem w_c5 : (Jvm.Cond.code ({ cls := "com/example/privy_attest/privyattest/protocol/FreshnessIsOutsidePinLaw", name := "expected", desc := "(JJJ)Z" } : Jvm.MethodName) method_3_code (8 : Nat) (Option.some Jvm.ClassFile.FieldType.boolean)).before args0 about1 = true := code_word (m := ⟨1, 2⟩) (meth := k1m2) (c := k1c2) (by decide +kernel) rfl rfl rfl (by decide +kernel)
def codes1 : List Jvm.Cond := [Jvm.Cond.code x code maxLocals ret, Jvm.Cond.code ({ cls := "com/example/privy_attest/privyattest/protocol/Freshness", name := "<init>", desc := "(JJ)V" } : Jvm.MethodName) prog_20_method_1_code (5 : Nat) (Option.none : Option Jvm.ClassFile.FieldType), Jvm.Cond.code ({ cls := "java/lang/Object", name := "<init>", desc := "()V" } : Jvm.MethodName) object_method_1_code (1 : Nat) (Option.none : Option Jvm.ClassFile.FieldType), Jvm.Cond.code ({ cls := "com/example/privy_attest/privyattest/protocol/Freshness", name := "isOutside", desc := "(J)Z" } : Jvm.MethodName) prog_20_method_3_code (3 : Nat) (Option.some Jvm.ClassFile.FieldType.boolean), Jvm.Cond.code ({ cls := "com/example/privy_attest/privyattest/protocol/Freshness", name := "isStale", desc := "(J)Z" } : Jvm.MethodName) prog_20_method_4_code (3 : Nat) (Option.some Jvm.ClassFile.FieldType.boolean), Jvm.Cond.code ({ cls := "com/example/privy_attest/privyattest/protocol/FreshnessIsOutsidePinLaw", name := "expected", desc := "(JJJ)Z" } : Jvm.MethodName) method_3_code (8 : Nat) (Option.some Jvm.ClassFile.FieldType.boolean)]
set_option maxRecDepth 65536 in
theorem codes_eq : words1.filter isCode = codes1 := rfl
theorem w_codes : ∀ c ∈ words1.filter isCode, c.before args0 about1 = true := by
  rw [codes_eq]
  intro c hc
  simp only [codes1, List.mem_cons, List.not_mem_nil, or_false] at hc
  rcases hc with rfl | rfl | rfl | rfl | rfl | rfl
  · exact w_c0
  · exact w_c1
  · exact w_c2
  · exact w_c3
  · exact w_c4
  · exact w_c5
set_option maxRecDepth 65536 in
theorem w_t1 : (words1.take 24).all (fun c => isCode c || c.before args0 about1) = true := by decide +kernel
set_option maxRecDepth 65536 in
theorem w_t2 : (words1.drop 24).all (fun c => isCode c || c.before args0 about1) = true := by decide +kernel
theorem w_tables : (allAtoms (Jvm.Cond.code x code maxLocals ret :: tables_1)).before args0 about1 = true := by
  rw [allAtoms_all]
  show words1.all (fun c => c.before args0 about1) = true
  refine all_split ?_ w_codes
  rw [← List.take_append_drop 24 words1, List.all_append, w_t1, w_t2]
  rfl
set_option maxRecDepth 65536 in
theorem w_case : (Jvm.Cond.and given_1 narrow_1).before args0 about1 = true := by decide +kernel
theorem w_applies : (headSpec (Jvm.Cond.code x code maxLocals ret :: tables_1) room_1).applies x e0.platform about1 = true :=
  (Spec.applies_iff w_frames).mpr ⟨w_running, w_runnable, w_alone, w_named, w_hears, w_ripe, w_room, w_tables⟩
theorem atStart : AtStart classFile x code maxLocals ret World_1 tables_1 room_1 Calls_1 rest_1 Pre_1 launch0 p0 e0 about1 theMethod args0 below0 :=
  ⟨lists_1, trivial, launch0.admits_env _ _ _, launch0.least_env, fairChoices_fair.cas, fairChoices_fair.clock, w_frames, w_args, w_heap, w_applies, trivial, trivial, w_case⟩
end start1
theorem witness_1 : WitnessClaimed_1 := ⟨start1.p0, start1.e0, start1.about1, start1.theMethod, start1.args0, start1.below0, start1.atStart⟩
end Jvm.Pilot.@@N@@
