import JvmDerived
import JvmDerived.Pilot.@@N@@Statement
import JvmDerived.Pilot.@@N@@Code
set_option linter.unusedVariables false
set_option linter.unusedSimpArgs false
namespace Jvm.Ow
open Sem ClassFile Op Lib Jvm.Stand Jvm.Free Jvm.LawKit Jvm.RoadKit
def WideEnd (s : State) (o : Outcome) (t : State) (L : List Loc) (k n : Nat) : Prop :=
  (∃ v : Option Value, o = Outcome.returned v) ∧ s.Warmed39 t.vm ∧ (∀ (j : Nat) (p : Array UInt16 × Addr), s.vm.interned.size ≤ j → t.vm.interned[j]? = some p → s.heap.size ≤ p.2 ∧ p.2 < t.heap.size) ∧ s.sameButNew { t with vm := s.vm } L k n
def EndF (wd : Bool) (s : State) (o : Outcome) (t : State) (L : List Loc) (k n : Nat) : Prop := match wd with
  | true => WideEnd s o t L k n
  | false => FrameEnd s o t L k n
theorem EndF.of {wd : Bool} {s : State} {o : Outcome} {t : State} {L : List Loc} {k n : Nat} (h : FrameEnd s o t L k n) : EndF wd s o t L k n := by
  cases wd
  · exact h
  · exact wide h
def Cx (p : Program) (l : Launch) (e : Env) (R : Room) (m : MethodId) (args : Array Value) (below : List Frame) (meth : Method) (c : Code) (Z : State) (y : MethodName) (bytes : ByteArray) (ml : Nat) (ret : Option FieldType) (n0 : Nat) (wd : Bool) (F : Outcome → State → List Loc → Prop) (T : State) (h : Heap) (cells slots : Nat) : Prop :=
  ∃ s locs, Stand p l e R s m args below meth c T locs cells slots ∧ p.tables.exec = Jvm.exec ∧ c.code = bytes ∧ c.maxLocals = ml ∧ Z.Warmed39 s.vm ∧ s.vm.findClass y.cls = some m.cls ∧ meth.name = y.name ∧ meth.sig.returnType = ret ∧ meth.locks = false ∧ T.heap = h ∧ Fr n0 locs ∧ n0 ≤ s.heap.size ∧ ∀ o t L, h.size ≤ t.heap.size → EndF wd s o t L R.cells R.slots → F o t L
def Go (p : Program) (e : Env) (below : List Frame) (F : Outcome → State → List Loc → Prop) (n0 : Nat) (Q : Option Value → Heap → Prop) (T : State) (f : JFrame) : Prop :=
  ∃ s₂ o, Steps p.tables e below (T.setTop f) s₂ ∧ s₂.status = .running ∧ Ended s₂ below o ∧ ∃ v L, o = .returned v ∧ (Q v s₂.heap ∧ Fr n0 L ∧ n0 ≤ s₂.heap.size) ∧ F o s₂ L
def Ctr (l : Launch) (Z : State) (y : MethodName) (bytes : ByteArray) (ml : Nat) (ret : Option FieldType) (R : Room) (as' : Array Value) (h : Heap) (n0 : Nat) (Q : Option Value → Heap → Prop) : Prop :=
  ∀ ws : List Jvm.Cond, MetFree l y (head1 (Jvm.Cond.code y bytes ml ret :: ws) R) (fun a U => a = as' ∧ Z.Warmed39 U.vm ∧ U.heap = h) (fun _ _ _ _ _ => True) (fun _ U o U' => ∃ v L, o = .returned v ∧ ((Q v U'.heap ∧ h.size ≤ U'.heap.size) ∧ Fr n0 L) ∧ FrameEnd U o U' L R.cells R.slots)
section Layer
variable {p : Program} {l : Launch} {e : Env} {R : Room} {m : MethodId} {args : Array Value} {below : List Frame} {meth : Method} {c : Code} {T T' : State} {cells slots : Nat} {Z : State} {a0 : Array Value} {h : Heap} {y : MethodName} {bytes : ByteArray} {ml n0 : Nat} {ret : Option FieldType} {wd : Bool} {F : Outcome → State → List Loc → Prop} {Q : Option Value → Heap → Prop} {pc pc' : Nat} {L L' : Array Slot} {S : List Value}
theorem Ctr.body {as' : Array Value} (hpl : plainFor y = true) (hn : n0 ≤ h.size) (ef : ∀ m, entryFrame m as' ml = mkF m 0 L [])
    (k : ∀ (p : Program) (e : Env) (F : Outcome → State → List Loc → Prop) (m : MethodId) (below : List Frame) (meth : Method) (c : Code) (T : State), Cx p l e R m as' below meth c Z y bytes ml ret n0 false F T h 0 0 → Go p e below F n0 Q T (mkF m 0 L [])) : Ctr l Z y bytes ml ret R as' h n0 Q := by
  intro ws
  refine MetFree.of_bodySF hpl hisR ?_
  intro p e s m args below meth c s₁ Bd hml0 hP hK
  obtain ⟨rfl, hZ, hh⟩ := hP
  obtain ⟨s₂, o, g1, g2, g3, v, L9, g4, ⟨g5, g6, -⟩, g7⟩ := k p e (fun o t L => FrameEnd s o t L R.cells R.slots) m below meth c s₁ ⟨s, [], Stand.of_body Bd, Bd.exec, Bd.bytes, hml0, hZ, findClass_of_methodNamed Bd.named, (name_of_methodNamed Bd.named Bd.method).1, Bd.returns, Bd.notSynchronized, by rw [← hh, Bd.state]; rfl, Fr.nil n0, by rw [hh]; exact hn, fun _ _ _ _ q => q⟩
  rw [ef m]
  exact ⟨s₂, o, g1, g2, g3, v, L9, g4, ⟨⟨g5, by rw [← hh]; exact g7.2.2.2.1⟩, g6⟩, g7⟩
theorem Go.via {f f' : JFrame} (k : Go p e below F n0 Q T' f') (hs : ∀ t, Steps p.tables e below (T'.setTop f') t → Steps p.tables e below (T.setTop f) t) : Go p e below F n0 Q T f := by
  obtain ⟨s₂, o, h1, h2⟩ := k; exact ⟨s₂, o, hs _ h1, h2⟩
theorem Cx.size (C : Cx p l e R m args below meth c Z y bytes ml ret n0 wd F T h cells slots) : n0 ≤ h.size := by
  obtain ⟨s, locs, X, -, -, -, -, -, -, -, -, rfl, -, hn, -⟩ := C
  exact Nat.le_trans hn X.same.2.1
theorem Cx.iload (C : Cx p l e R m args below meth c Z y bytes ml ret n0 wd F T h cells slots) {k : Nat} {v : Int32} (hd : decode bytes pc = .ok (.iload k, 2)) (hp : pc + 2 = pc') (hl : L[k]? = some (.val (.int v))) (K : Go p e below F n0 Q T (mkF m pc' L (.int v :: S))) : Go p e below F n0 Q T (mkF m pc L S) := by
  obtain ⟨s, locs, X, hx, rfl, -⟩ := C; subst hp
  exact K.via fun t k => XS.iload X.here hx rfl hd hl k
theorem Cx.istore (C : Cx p l e R m args below meth c Z y bytes ml ret n0 wd F T h cells slots) {k : Nat} {x : Int32} (hd : decode bytes pc = .ok (.istore k, 2)) (hp : pc + 2 = pc') (hl : storeLocals L k (.int x) = some L') (K : Go p e below F n0 Q T (mkF m pc' L' S)) : Go p e below F n0 Q T (mkF m pc L (.int x :: S)) := by
  obtain ⟨s, locs, X, hx, rfl, -⟩ := C; subst hp
  exact K.via fun t k => XS.istore X.here hx rfl hd rfl hl k
theorem Cx.istoreV (C : Cx p l e R m args below meth c Z y bytes ml ret n0 wd F T h cells slots) {k : Nat} {x : Int32} (Lf : Int32 → Array Slot) (hd : decode bytes pc = .ok (.istore k, 2)) (hp : pc + 2 = pc') (hl : ∀ v, storeLocals L k (.int v) = some (Lf v)) (K : ∀ v, v = x → Go p e below F n0 Q T (mkF m pc' (Lf v) S)) : Go p e below F n0 Q T (mkF m pc L (.int x :: S)) :=
  C.istore hd hp (hl x) (K x rfl)
theorem Cx.lloadN (C : Cx p l e R m args below meth c Z y bytes ml ret n0 wd F T h cells slots) {k : Fin 4} {v : Int64} (hd : decode bytes pc = .ok (.lload_n k, 1)) (hp : pc + 1 = pc') (hl : L[k.val]? = some (.val (.long v))) (K : Go p e below F n0 Q T (mkF m pc' L (.long v :: S))) : Go p e below F n0 Q T (mkF m pc L S) := by
  obtain ⟨s, locs, X, hx, rfl, -⟩ := C; subst hp
  exact K.via fun t k => XT.lloadN X.here hx rfl hd hl k
theorem Cx.lload (C : Cx p l e R m args below meth c Z y bytes ml ret n0 wd F T h cells slots) {k : Nat} {v : Int64} (hd : decode bytes pc = .ok (.lload k, 2)) (hp : pc + 2 = pc') (hl : L[k]? = some (.val (.long v))) (K : Go p e below F n0 Q T (mkF m pc' L (.long v :: S))) : Go p e below F n0 Q T (mkF m pc L S) := by
  obtain ⟨s, locs, X, hx, rfl, -⟩ := C; subst hp
  exact K.via fun t k => XT.lload X.here hx rfl hd hl k
theorem Cx.lstore (C : Cx p l e R m args below meth c Z y bytes ml ret n0 wd F T h cells slots) {k : Nat} {x : Int64} (hd : decode bytes pc = .ok (.lstore k, 2)) (hp : pc + 2 = pc') (hl : storeLocals L k (.long x) = some L') (K : Go p e below F n0 Q T (mkF m pc' L' S)) : Go p e below F n0 Q T (mkF m pc L (.long x :: S)) := by
  obtain ⟨s, locs, X, hx, rfl, -⟩ := C; subst hp
  exact K.via fun t k => XT.lstore X.here hx rfl hd rfl hl k
theorem Cx.lstoreV (C : Cx p l e R m args below meth c Z y bytes ml ret n0 wd F T h cells slots) {k : Nat} {x : Int64} (Lf : Int64 → Array Slot) (hd : decode bytes pc = .ok (.lstore k, 2)) (hp : pc + 2 = pc') (hl : ∀ v, storeLocals L k (.long v) = some (Lf v)) (K : ∀ v, v = x → Go p e below F n0 Q T (mkF m pc' (Lf v) S)) : Go p e below F n0 Q T (mkF m pc L (.long x :: S)) :=
  C.lstore hd hp (hl x) (K x rfl)
theorem Cx.iconst (C : Cx p l e R m args below meth c Z y bytes ml ret n0 wd F T h cells slots) {i : Int} (v : Int32) (hd : decode bytes pc = .ok (.iconst i, 1)) (hp : pc + 1 = pc') (hv : Int32.ofInt i = v) (K : Go p e below F n0 Q T (mkF m pc' L (.int v :: S))) : Go p e below F n0 Q T (mkF m pc L S) := by
  obtain ⟨s, locs, X, hx, rfl, -⟩ := C; subst hp
  exact K.via fun t k => XT.iconstV X.here hx rfl v hd hv k
theorem Cx.bipush (C : Cx p l e R m args below meth c Z y bytes ml ret n0 wd F T h cells slots) {i : Int} (v : Int32) (hd : decode bytes pc = .ok (.bipush i, 2)) (hp : pc + 2 = pc') (hv : (Int8.ofInt i).toInt32 = v) (K : Go p e below F n0 Q T (mkF m pc' L (.int v :: S))) : Go p e below F n0 Q T (mkF m pc L S) := by
  obtain ⟨s, locs, X, hx, rfl, -⟩ := C; subst hp
  exact K.via fun t k => XT.bipushV X.here hx rfl v hd hv k
theorem Cx.lconst (C : Cx p l e R m args below meth c Z y bytes ml ret n0 wd F T h cells slots) {i : Fin 2} (v : Int64) (hd : decode bytes pc = .ok (.lconst i, 1)) (hp : pc + 1 = pc') (hv : Int64.ofNat i = v) (K : Go p e below F n0 Q T (mkF m pc' L (.long v :: S))) : Go p e below F n0 Q T (mkF m pc L S) := by
  obtain ⟨s, locs, X, hx, rfl, -⟩ := C; subst hp
  exact K.via fun t k => XT.lconstV X.here hx rfl v hd hv k
theorem Cx.isub (C : Cx p l e R m args below meth c Z y bytes ml ret n0 wd F T h cells slots) {x z : Int32} (hd : decode bytes pc = .ok (.isub, 1)) (hp : pc + 1 = pc')  (K : Go p e below F n0 Q T (mkF m pc' L (.int (x - z) :: S))) : Go p e below F n0 Q T (mkF m pc L (.int z :: .int x :: S)) := by
  obtain ⟨s, locs, X, hx, rfl, -⟩ := C; subst hp
  exact K.via fun t k => XS.isub X.here hx rfl hd rfl k
theorem Cx.iand (C : Cx p l e R m args below meth c Z y bytes ml ret n0 wd F T h cells slots) {x z : Int32} (hd : decode bytes pc = .ok (.iand, 1)) (hp : pc + 1 = pc')  (K : Go p e below F n0 Q T (mkF m pc' L (.int (x &&& z) :: S))) : Go p e below F n0 Q T (mkF m pc L (.int z :: .int x :: S)) := by
  obtain ⟨s, locs, X, hx, rfl, -⟩ := C; subst hp
  exact K.via fun t k => XS.iand X.here hx rfl hd rfl k
theorem Cx.ladd (C : Cx p l e R m args below meth c Z y bytes ml ret n0 wd F T h cells slots) {x z : Int64} (hd : decode bytes pc = .ok (.ladd, 1)) (hp : pc + 1 = pc')  (K : Go p e below F n0 Q T (mkF m pc' L (.long (x + z) :: S))) : Go p e below F n0 Q T (mkF m pc L (.long z :: .long x :: S)) := by
  obtain ⟨s, locs, X, hx, rfl, -⟩ := C; subst hp
  exact K.via fun t k => XT.ladd X.here hx rfl hd rfl k
theorem Cx.lsub (C : Cx p l e R m args below meth c Z y bytes ml ret n0 wd F T h cells slots) {x z : Int64} (hd : decode bytes pc = .ok (.lsub, 1)) (hp : pc + 1 = pc')  (K : Go p e below F n0 Q T (mkF m pc' L (.long (x - z) :: S))) : Go p e below F n0 Q T (mkF m pc L (.long z :: .long x :: S)) := by
  obtain ⟨s, locs, X, hx, rfl, -⟩ := C; subst hp
  exact K.via fun t k => XT.lsub X.here hx rfl hd rfl k
theorem Cx.lmul (C : Cx p l e R m args below meth c Z y bytes ml ret n0 wd F T h cells slots) {x z : Int64} (hd : decode bytes pc = .ok (.lmul, 1)) (hp : pc + 1 = pc')  (K : Go p e below F n0 Q T (mkF m pc' L (.long (x * z) :: S))) : Go p e below F n0 Q T (mkF m pc L (.long z :: .long x :: S)) := by
  obtain ⟨s, locs, X, hx, rfl, -⟩ := C; subst hp
  exact K.via fun t k => XT.lmul X.here hx rfl hd rfl k
theorem Cx.land (C : Cx p l e R m args below meth c Z y bytes ml ret n0 wd F T h cells slots) {x z : Int64} (hd : decode bytes pc = .ok (.land, 1)) (hp : pc + 1 = pc')  (K : Go p e below F n0 Q T (mkF m pc' L (.long (x &&& z) :: S))) : Go p e below F n0 Q T (mkF m pc L (.long z :: .long x :: S)) := by
  obtain ⟨s, locs, X, hx, rfl, -⟩ := C; subst hp
  exact K.via fun t k => XT.land X.here hx rfl hd rfl k
theorem Cx.lxor (C : Cx p l e R m args below meth c Z y bytes ml ret n0 wd F T h cells slots) {x z : Int64} (hd : decode bytes pc = .ok (.lxor, 1)) (hp : pc + 1 = pc')  (K : Go p e below F n0 Q T (mkF m pc' L (.long (x ^^^ z) :: S))) : Go p e below F n0 Q T (mkF m pc L (.long z :: .long x :: S)) := by
  obtain ⟨s, locs, X, hx, rfl, -⟩ := C; subst hp
  exact K.via fun t k => XT.lxor X.here hx rfl hd rfl k
theorem Cx.lshl (C : Cx p l e R m args below meth c Z y bytes ml ret n0 wd F T h cells slots) {x : Int64} {z : Int32} (hd : decode bytes pc = .ok (.lshl, 1)) (hp : pc + 1 = pc')  (K : Go p e below F n0 Q T (mkF m pc' L (.long (x <<< (z &&& 0x3f).toInt64) :: S))) : Go p e below F n0 Q T (mkF m pc L (.int z :: .long x :: S)) := by
  obtain ⟨s, locs, X, hx, rfl, -⟩ := C; subst hp
  exact K.via fun t k => XS.lshl X.here hx rfl hd rfl k
theorem Cx.lshr (C : Cx p l e R m args below meth c Z y bytes ml ret n0 wd F T h cells slots) {x : Int64} {z : Int32} (hd : decode bytes pc = .ok (.lshr, 1)) (hp : pc + 1 = pc')  (K : Go p e below F n0 Q T (mkF m pc' L (.long (x >>> (z &&& 0x3f).toInt64) :: S))) : Go p e below F n0 Q T (mkF m pc L (.int z :: .long x :: S)) := by
  obtain ⟨s, locs, X, hx, rfl, -⟩ := C; subst hp
  exact K.via fun t k => XS.lshr X.here hx rfl hd rfl k
theorem Cx.lushr (C : Cx p l e R m args below meth c Z y bytes ml ret n0 wd F T h cells slots) {x : Int64} {z : Int32} (hd : decode bytes pc = .ok (.lushr, 1)) (hp : pc + 1 = pc')  (K : Go p e below F n0 Q T (mkF m pc' L (.long ((x.toUInt64 >>> (z &&& 0x3f).toInt64.toUInt64).toInt64) :: S))) : Go p e below F n0 Q T (mkF m pc L (.int z :: .long x :: S)) := by
  obtain ⟨s, locs, X, hx, rfl, -⟩ := C; subst hp
  exact K.via fun t k => XS.lushr X.here hx rfl hd rfl k
theorem Cx.irem (C : Cx p l e R m args below meth c Z y bytes ml ret n0 wd F T h cells slots) {x z : Int32} (hd : decode bytes pc = .ok (.irem, 1)) (hp : pc + 1 = pc') (hz : z ≠ 0) (K : Go p e below F n0 Q T (mkF m pc' L (.int (x % z) :: S))) : Go p e below F n0 Q T (mkF m pc L (.int z :: .int x :: S)) := by
  obtain ⟨s, locs, X, hx, rfl, -⟩ := C; subst hp
  exact K.via fun t k => iremM X hx rfl hd rfl hz k
theorem Cx.i2l (C : Cx p l e R m args below meth c Z y bytes ml ret n0 wd F T h cells slots) {x : Int32} (hd : decode bytes pc = .ok (.i2l, 1)) (hp : pc + 1 = pc')  (K : Go p e below F n0 Q T (mkF m pc' L (.long (x.toInt64) :: S))) : Go p e below F n0 Q T (mkF m pc L (.int x :: S)) := by
  obtain ⟨s, locs, X, hx, rfl, -⟩ := C; subst hp
  exact K.via fun t k => XT.i2l X.here hx rfl hd rfl k
theorem Cx.goto (C : Cx p l e R m args below meth c Z y bytes ml ret n0 wd F T h cells slots) {o : Int} (hd : decode bytes pc = .ok (.goto o, 3)) (ho : 0 ≤ (pc : Int) + o) (hp : ((pc : Int) + o).toNat = pc') (K : Go p e below F n0 Q T (mkF m pc' L S)) : Go p e below F n0 Q T (mkF m pc L S) := by
  obtain ⟨s, locs, X, hx, rfl, -⟩ := C
  exact K.via fun t k => XS.goto X.here hx rfl rfl hd ho hp k
theorem Cx.if_eq (C : Cx p l e R m args below meth c Z y bytes ml ret n0 wd F T h cells slots) {x : Int32} {o : Int} {py pn : Nat} (hd : decode bytes pc = .ok (.ifCond .eq o, 3)) (ho : 0 ≤ (pc : Int) + o) (hy : ((pc : Int) + o).toNat = py) (hn : pc + 3 = pn) (K1 : x = (0 : Int32) → Go p e below F n0 Q T (mkF m py L S)) (K2 : ¬ x = (0 : Int32) → Go p e below F n0 Q T (mkF m pn L S)) : Go p e below F n0 Q T (mkF m pc L (.int x :: S)) := by
  obtain ⟨s, locs, X, hx, rfl, -⟩ := C; subst hn
  by_cases q : x = (0 : Int32)
  · exact (K1 q).via fun t k => XS.ifYes X.here hx rfl rfl hd rfl (XT.i0_eq_t q) ho hy k
  · exact (K2 q).via fun t k => XS.ifNo X.here hx rfl hd rfl (XT.i0_eq_f q) k
theorem Cx.lif_eq (C : Cx p l e R m args below meth c Z y bytes ml ret n0 wd F T h cells slots) {x z : Int64} {o : Int} {p1 py pn : Nat} (hd1 : decode bytes pc = .ok (.lcmp, 1)) (hp1 : pc + 1 = p1) (hd : decode bytes p1 = .ok (.ifCond .eq o, 3)) (ho : 0 ≤ (p1 : Int) + o) (hy : ((p1 : Int) + o).toNat = py) (hn : p1 + 3 = pn) (K1 : x = z → Go p e below F n0 Q T (mkF m py L S)) (K2 : ¬ x = z → Go p e below F n0 Q T (mkF m pn L S)) : Go p e below F n0 Q T (mkF m pc L (.long z :: .long x :: S)) := by
  obtain ⟨s, locs, X, hx, rfl, -⟩ := C; subst hn; subst hp1
  by_cases q : x = z
  · exact (K1 q).via fun t k => XT.lcmp X.here hx rfl hd1 rfl (XS.ifYes X.here hx rfl rfl hd rfl (XT.ll_eq_t q) ho hy k)
  · exact (K2 q).via fun t k => XT.lcmp X.here hx rfl hd1 rfl (XS.ifNo X.here hx rfl hd rfl (XT.ll_eq_f q) k)
theorem Cx.lif_ne (C : Cx p l e R m args below meth c Z y bytes ml ret n0 wd F T h cells slots) {x z : Int64} {o : Int} {p1 py pn : Nat} (hd1 : decode bytes pc = .ok (.lcmp, 1)) (hp1 : pc + 1 = p1) (hd : decode bytes p1 = .ok (.ifCond .ne o, 3)) (ho : 0 ≤ (p1 : Int) + o) (hy : ((p1 : Int) + o).toNat = py) (hn : p1 + 3 = pn) (K1 : ¬ x = z → Go p e below F n0 Q T (mkF m py L S)) (K2 : x = z → Go p e below F n0 Q T (mkF m pn L S)) : Go p e below F n0 Q T (mkF m pc L (.long z :: .long x :: S)) := by
  obtain ⟨s, locs, X, hx, rfl, -⟩ := C; subst hn; subst hp1
  by_cases q : x = z
  · exact (K2 q).via fun t k => XT.lcmp X.here hx rfl hd1 rfl (XS.ifNo X.here hx rfl hd rfl (XT.ll_ne_f q) k)
  · exact (K1 q).via fun t k => XT.lcmp X.here hx rfl hd1 rfl (XS.ifYes X.here hx rfl rfl hd rfl (XT.ll_ne_t q) ho hy k)
theorem Cx.lif_ge (C : Cx p l e R m args below meth c Z y bytes ml ret n0 wd F T h cells slots) {x z : Int64} {o : Int} {p1 py pn : Nat} (hd1 : decode bytes pc = .ok (.lcmp, 1)) (hp1 : pc + 1 = p1) (hd : decode bytes p1 = .ok (.ifCond .ge o, 3)) (ho : 0 ≤ (p1 : Int) + o) (hy : ((p1 : Int) + o).toNat = py) (hn : p1 + 3 = pn) (K1 : ¬ x < z → Go p e below F n0 Q T (mkF m py L S)) (K2 : x < z → Go p e below F n0 Q T (mkF m pn L S)) : Go p e below F n0 Q T (mkF m pc L (.long z :: .long x :: S)) := by
  obtain ⟨s, locs, X, hx, rfl, -⟩ := C; subst hn; subst hp1
  by_cases q : x < z
  · exact (K2 q).via fun t k => XT.lcmp X.here hx rfl hd1 rfl (XS.ifNo X.here hx rfl hd rfl (XT.ll_ge_f q) k)
  · exact (K1 q).via fun t k => XT.lcmp X.here hx rfl hd1 rfl (XS.ifYes X.here hx rfl rfl hd rfl (XT.ll_ge_t q) ho hy k)
theorem Cx.lif_gt (C : Cx p l e R m args below meth c Z y bytes ml ret n0 wd F T h cells slots) {x z : Int64} {o : Int} {p1 py pn : Nat} (hd1 : decode bytes pc = .ok (.lcmp, 1)) (hp1 : pc + 1 = p1) (hd : decode bytes p1 = .ok (.ifCond .gt o, 3)) (ho : 0 ≤ (p1 : Int) + o) (hy : ((p1 : Int) + o).toNat = py) (hn : p1 + 3 = pn) (K1 : z < x → Go p e below F n0 Q T (mkF m py L S)) (K2 : ¬ z < x → Go p e below F n0 Q T (mkF m pn L S)) : Go p e below F n0 Q T (mkF m pc L (.long z :: .long x :: S)) := by
  obtain ⟨s, locs, X, hx, rfl, -⟩ := C; subst hn; subst hp1
  by_cases q : z < x
  · exact (K1 q).via fun t k => XT.lcmp X.here hx rfl hd1 rfl (XS.ifYes X.here hx rfl rfl hd rfl (XT.ll_gt_t q) ho hy k)
  · exact (K2 q).via fun t k => XT.lcmp X.here hx rfl hd1 rfl (XS.ifNo X.here hx rfl hd rfl (XT.ll_gt_f q) k)
theorem Cx.done (C : Cx p l e R m args below meth c Z y bytes ml ret n0 wd F T h cells slots) {v : Option Value} (hv : ret = none → v = none) (hc : cells ≤ R.cells) (hs : slots ≤ R.slots) (hq : Q v h) {f : JFrame}
    (k : ∀ s locs fs, Stand p l e R s m args below meth c T locs cells slots → (∀ (f : JFrame) (acts : List Action), f.method = m → f.locked = none → f.entered = [] → (doReturn e (T.setTop f) acts v).1 = T.setFrames fs) → Steps p.tables e below (T.setTop f) (T.setFrames fs)) : Go p e below F n0 Q T f := by
  have hz := C.size
  obtain ⟨s, locs, X, hx, rfl, rfl, hZ, hown, hnm, rfl, hlk, rfl, N, hn, hF⟩ := C
  obtain ⟨fs, hr, hrun, hended, hW, hsame⟩ := X.leave (v := v) hv
  exact ⟨_, _, k s locs fs X hr, hrun, hended, v, locs, rfl, ⟨hq, N, hz⟩, hF _ _ _ (Nat.le_refl _) (EndF.of ⟨⟨v, rfl⟩, hW, hsame.mono hc hs⟩)⟩
theorem Cx.retN (C : Cx p l e R m args below meth c Z y bytes ml ret n0 wd F T h cells slots) {z w : Int32} {t : FieldType} (hd : decode bytes pc = .ok (.ireturn, 1)) (hret : ret = some t) (ht : t = .boolean ∨ t = .byte ∨ t = .char ∨ t = .short) (hc : cells ≤ R.cells) (hs : slots ≤ R.slots) (hw : nar t z = w) (hq : Q (some (.int w)) h) : Go p e below F n0 Q T (mkF m pc L (.int z :: S)) := by
  subst hw
  refine C.done (fun q => by rw [hret] at q; cases q) hc hs hq fun s locs fs X hr => ?_
  obtain ⟨_, _, -, hx, rfl, -, -, -, -, rfl, -⟩ := C
  exact Jvm.RoadKit.retN X hx hret ht hd hr
theorem Cx.retJ (C : Cx p l e R m args below meth c Z y bytes ml ret n0 wd F T h cells slots) {z : Int64} (hd : decode bytes pc = .ok (.lreturn, 1)) (hret : ret = some .long) (hc : cells ≤ R.cells) (hs : slots ≤ R.slots) (hq : Q (some (.long z)) h) : Go p e below F n0 Q T (mkF m pc L (.long z :: S)) := by
  refine C.done (fun q => by rw [hret] at q; cases q) hc hs hq fun s locs fs X hr => ?_
  obtain ⟨_, _, -, hx, rfl, -, -, -, -, rfl, -⟩ := C
  exact retOut X hx hret rfl (Or.inr (Or.inl ⟨rfl, rfl, _, rfl⟩)) hd hr
theorem Cx.ldc (C : Cx p l e R m args below meth c Z y bytes ml ret n0 wd F T h cells slots) {idx : Nat} {v : Int32} (w : (Jvm.Cond.constant y.cls idx v).before a0 Z = true) (hd : decode bytes pc = .ok (.ldc idx, 2)) (hp : pc + 2 = pc') (K : Go p e below F n0 Q T (mkF m pc' L (.int v :: S))) : Go p e below F n0 Q T (mkF m pc L S) := by
  obtain ⟨s, locs, X, hx, rfl, rfl, hZ, hown, -⟩ := C; subst hp
  exact K.via fun t k => X.ldcInt hx hown (mvT hZ w) (g := mkF m pc L S) rfl hd t k
theorem Cx.ldc2 (C : Cx p l e R m args below meth c Z y bytes ml ret n0 wd F T h cells slots) {idx : Nat} {v : Int64} (w : (Jvm.Cond.constantLong y.cls idx v).before a0 Z = true) (hd : decode bytes pc = .ok (.ldc2_w idx, 3)) (hp : pc + 3 = pc') (K : Go p e below F n0 Q T (mkF m pc' L (.long v :: S))) : Go p e below F n0 Q T (mkF m pc L S) := by
  obtain ⟨s, locs, X, hx, rfl, rfl, hZ, hown, -⟩ := C; subst hp
  exact K.via fun t k => X.ldc2Long hx hown (mvT hZ w) (g := mkF m pc L S) rfl hd t k
theorem Cx.callS (C : Cx p l e R m args below meth c Z y bytes ml ret n0 wd F T h cells slots) {idx : Nat} {y' : MethodName} {bytes' : ByteArray} {ml' : Nat} {ret' : Option FieldType} {R' : Room} {Q' : Option Value → Heap → Prop} {argsL : List Value} (w1 : (Jvm.Cond.methodLink y.cls idx y').before a0 Z = true) (w2 : (Jvm.Cond.static y').before a0 Z = true) (w3 : (Jvm.Cond.initialized y'.cls).before a0 Z = true) (w4 : (Jvm.Cond.code y' bytes' ml' ret').before a0 Z = true)
    (hy : y'.cls ≠ "java/lang/invoke/MethodHandle" ∧ y'.cls ≠ "java/lang/invoke/VarHandle") (M : Ctr l Z y' bytes' ml' ret' R' argsL.toArray h n0 Q') {ps : List FieldType} {rt : Option FieldType} (hpd : parseMethodDescriptor y'.desc = some ⟨ps, rt⟩) (hlen : argsL.length = ps.length)
    (W : Nat) (hf : R'.frames + 1 ≤ R.frames) (hl : W + (ml' + 11) + R'.locals ≤ R.locals) (hc : cells + R'.cells ≤ R.cells) (hs : slots + R'.slots ≤ R.slots) {rest : List Value} (hst : S = argsL.reverse ++ rest) (hsz : L.size = ml) (hW : (rest.map fun v => v.category).sum ≤ W)
    (hd : decode bytes pc = .ok (.invokestatic idx, 3)) (hp : pc + 3 = pc') (K : ∀ v T' h', Cx p l e R m args below meth c Z y bytes ml ret n0 wd F T' h' (cells + R'.cells) (slots + R'.slots) → Q' v h' → Go p e below F n0 Q T' (mkF m pc' L (v.toList ++ rest))) : Go p e below F n0 Q T (mkF m pc L S) := by
  obtain ⟨s, locs, X, hx, rfl, rfl, hZ, hown, hnm, hr, hlk, eT, N, hn, hF⟩ := C; subst hp
  obtain ⟨v, _, ⟨T', L', k', n'⟩, -, X', ⟨Lc, hQ, e1, e2, e3⟩, st⟩ := Jvm.LawKit.callS X hx (y := y') hown (mvT hZ w1) (mvT hZ w2) (mvT hZ w3) (mvT hZ w4) hy (backOf (W := W) (Q := fun v h9 L => (Q' v h9 ∧ h.size ≤ h9.size) ∧ Fr n0 L) (M []) hZ w4 w3 hf hl) (g := mkF m pc L S) rfl hsz (argsL := argsL) (rest := rest) (lenOf hpd hlen) hst (by show 2 * 0 + _ ≤ _; omega) hd (fun _ _ => ⟨rfl, eT, hc, hs⟩)
  dsimp only [Pt.U, Pt.locs, Pt.cells, Pt.slots] at X' e1 e2 e3 st hQ
  subst e1 e2 e3
  exact (K v T' T'.heap ⟨s, _, X', hx, rfl, rfl, hZ, hown, hnm, hr, hlk, rfl, N.app hQ.2, hn, fun o t L q => hF o t L (Nat.le_trans hQ.1.2 q)⟩ hQ.1.1).via st
end Layer
end Jvm.Ow
namespace Jvm.Pilot.@@N@@
open Jvm Jvm.ClassFile Sem Op Lib Jvm.Free Jvm.Stand Jvm.LawKit Jvm.RoadKit Bundle Jvm.Ow Jvm.Pilot.@@N@@.Jvm.D

def own_m1 (h : Int64) : Int64 := ((h ^^^ ((h.toUInt64 >>> ((30 : Int32) &&& 0x3f).toInt64.toUInt64).toInt64)) * (-4658895280553007687 : Int64))
def own_m2 (h : Int64) : Int64 := ((h ^^^ ((h.toUInt64 >>> ((27 : Int32) &&& 0x3f).toInt64.toUInt64).toInt64)) * (-7723592293110705685 : Int64))
def own_m3 (h : Int64) : Int64 := (h ^^^ ((h.toUInt64 >>> ((31 : Int32) &&& 0x3f).toInt64.toUInt64).toInt64))
def own_mix (h : Int64) : Int64 := own_m3 (own_m2 (own_m1 h))

def f2 (j0 : Int64) (j1 : Int64) : Int64 := ((((j0 >>> ((32 : Int32) &&& 0x3f).toInt64) * (j1 >>> ((32 : Int32) &&& 0x3f).toInt64)) + ((((j0 >>> ((32 : Int32) &&& 0x3f).toInt64) * (j1 &&& (4294967295 : Int64))) + ((((j0 &&& (4294967295 : Int64)) * (j1 &&& (4294967295 : Int64))).toUInt64 >>> ((32 : Int32) &&& 0x3f).toInt64.toUInt64).toInt64)) >>> ((32 : Int32) &&& 0x3f).toInt64)) + ((((((j0 >>> ((32 : Int32) &&& 0x3f).toInt64) * (j1 &&& (4294967295 : Int64))) + ((((j0 &&& (4294967295 : Int64)) * (j1 &&& (4294967295 : Int64))).toUInt64 >>> ((32 : Int32) &&& 0x3f).toInt64.toUInt64).toInt64)) &&& (4294967295 : Int64)) + ((j0 &&& (4294967295 : Int64)) * (j1 >>> ((32 : Int32) &&& 0x3f).toInt64))) >>> ((32 : Int32) &&& 0x3f).toInt64))
theorem pd2 : parseMethodDescriptor "(JJ)J" = some ⟨[.long, .long], some .long⟩ := by decide +kernel
theorem ef2 (m : MethodId) (j0 : Int64) (j1 : Int64) : entryFrame m #[(.long j0), (.long j1)] 20 = mkF m 0 #[.val (.long j0), .second, .val (.long j1), .second, .unset, .unset, .unset, .unset, .unset, .unset, .unset, .unset, .unset, .unset, .unset, .unset, .unset, .unset, .unset, .unset] [] := by first | (simp [entryFrame, mkF, argsToLocals, Value.category]; done) | rfl
theorem d2_0 : decode jdk_29_method_45_code 0 = .ok (.lload_n 0, 1) := by decide +kernel
theorem d2_1 : decode jdk_29_method_45_code 1 = .ok (.bipush 32, 2) := by decide +kernel
theorem d2_3 : decode jdk_29_method_45_code 3 = .ok (.lshr, 1) := by decide +kernel
theorem d2_4 : decode jdk_29_method_45_code 4 = .ok (.lstore 4, 2) := by decide +kernel
theorem d2_6 : decode jdk_29_method_45_code 6 = .ok (.lload_n 0, 1) := by decide +kernel
theorem d2_7 : decode jdk_29_method_45_code 7 = .ok (.ldc2_w 138, 3) := by decide +kernel
theorem d2_10 : decode jdk_29_method_45_code 10 = .ok (.land, 1) := by decide +kernel
theorem d2_11 : decode jdk_29_method_45_code 11 = .ok (.lstore 6, 2) := by decide +kernel
theorem d2_13 : decode jdk_29_method_45_code 13 = .ok (.lload_n 2, 1) := by decide +kernel
theorem d2_14 : decode jdk_29_method_45_code 14 = .ok (.bipush 32, 2) := by decide +kernel
theorem d2_16 : decode jdk_29_method_45_code 16 = .ok (.lshr, 1) := by decide +kernel
theorem d2_17 : decode jdk_29_method_45_code 17 = .ok (.lstore 8, 2) := by decide +kernel
theorem d2_19 : decode jdk_29_method_45_code 19 = .ok (.lload_n 2, 1) := by decide +kernel
theorem d2_20 : decode jdk_29_method_45_code 20 = .ok (.ldc2_w 138, 3) := by decide +kernel
theorem d2_23 : decode jdk_29_method_45_code 23 = .ok (.land, 1) := by decide +kernel
theorem d2_24 : decode jdk_29_method_45_code 24 = .ok (.lstore 10, 2) := by decide +kernel
theorem d2_26 : decode jdk_29_method_45_code 26 = .ok (.lload 6, 2) := by decide +kernel
theorem d2_28 : decode jdk_29_method_45_code 28 = .ok (.lload 10, 2) := by decide +kernel
theorem d2_30 : decode jdk_29_method_45_code 30 = .ok (.lmul, 1) := by decide +kernel
theorem d2_31 : decode jdk_29_method_45_code 31 = .ok (.lstore 12, 2) := by decide +kernel
theorem d2_33 : decode jdk_29_method_45_code 33 = .ok (.lload 4, 2) := by decide +kernel
theorem d2_35 : decode jdk_29_method_45_code 35 = .ok (.lload 10, 2) := by decide +kernel
theorem d2_37 : decode jdk_29_method_45_code 37 = .ok (.lmul, 1) := by decide +kernel
theorem d2_38 : decode jdk_29_method_45_code 38 = .ok (.lload 12, 2) := by decide +kernel
theorem d2_40 : decode jdk_29_method_45_code 40 = .ok (.bipush 32, 2) := by decide +kernel
theorem d2_42 : decode jdk_29_method_45_code 42 = .ok (.lushr, 1) := by decide +kernel
theorem d2_43 : decode jdk_29_method_45_code 43 = .ok (.ladd, 1) := by decide +kernel
theorem d2_44 : decode jdk_29_method_45_code 44 = .ok (.lstore 14, 2) := by decide +kernel
theorem d2_46 : decode jdk_29_method_45_code 46 = .ok (.lload 14, 2) := by decide +kernel
theorem d2_48 : decode jdk_29_method_45_code 48 = .ok (.ldc2_w 138, 3) := by decide +kernel
theorem d2_51 : decode jdk_29_method_45_code 51 = .ok (.land, 1) := by decide +kernel
theorem d2_52 : decode jdk_29_method_45_code 52 = .ok (.lstore 16, 2) := by decide +kernel
theorem d2_54 : decode jdk_29_method_45_code 54 = .ok (.lload 14, 2) := by decide +kernel
theorem d2_56 : decode jdk_29_method_45_code 56 = .ok (.bipush 32, 2) := by decide +kernel
theorem d2_58 : decode jdk_29_method_45_code 58 = .ok (.lshr, 1) := by decide +kernel
theorem d2_59 : decode jdk_29_method_45_code 59 = .ok (.lstore 18, 2) := by decide +kernel
theorem d2_61 : decode jdk_29_method_45_code 61 = .ok (.lload 16, 2) := by decide +kernel
theorem d2_63 : decode jdk_29_method_45_code 63 = .ok (.lload 6, 2) := by decide +kernel
theorem d2_65 : decode jdk_29_method_45_code 65 = .ok (.lload 8, 2) := by decide +kernel
theorem d2_67 : decode jdk_29_method_45_code 67 = .ok (.lmul, 1) := by decide +kernel
theorem d2_68 : decode jdk_29_method_45_code 68 = .ok (.ladd, 1) := by decide +kernel
theorem d2_69 : decode jdk_29_method_45_code 69 = .ok (.lstore 16, 2) := by decide +kernel
theorem d2_71 : decode jdk_29_method_45_code 71 = .ok (.lload 4, 2) := by decide +kernel
theorem d2_73 : decode jdk_29_method_45_code 73 = .ok (.lload 8, 2) := by decide +kernel
theorem d2_75 : decode jdk_29_method_45_code 75 = .ok (.lmul, 1) := by decide +kernel
theorem d2_76 : decode jdk_29_method_45_code 76 = .ok (.lload 18, 2) := by decide +kernel
theorem d2_78 : decode jdk_29_method_45_code 78 = .ok (.ladd, 1) := by decide +kernel
theorem d2_79 : decode jdk_29_method_45_code 79 = .ok (.lload 16, 2) := by decide +kernel
theorem d2_81 : decode jdk_29_method_45_code 81 = .ok (.bipush 32, 2) := by decide +kernel
theorem d2_83 : decode jdk_29_method_45_code 83 = .ok (.lshr, 1) := by decide +kernel
theorem d2_84 : decode jdk_29_method_45_code 84 = .ok (.ladd, 1) := by decide +kernel
theorem d2_85 : decode jdk_29_method_45_code 85 = .ok (.lreturn, 1) := by decide +kernel
set_option maxRecDepth 65536 in
set_option maxHeartbeats 40000000 in
theorem rm2 (l : Launch) (Z : State) (a0 : Array Value) (hw : ∀ d ∈ tables_1, d.before a0 Z = true) (j0 : Int64) (j1 : Int64) (h0 : Heap) (n0 : Nat) (Z0 : n0 ≤ h0.size) :
    Ctr l Z (⟨"java/lang/Math", "multiplyHigh", "(JJ)J"⟩ : MethodName) jdk_29_method_45_code 20 (some .long) ({ frames := 0, cells := 0, slots := 0, locals := 0 } : Room) #[(.long j0), (.long j1)] h0 n0 (fun v h' => v = some (.long (f2 j0 j1)) ∧ h' = h0) := by
  refine Ctr.body (L := #[.val (.long j0), .second, .val (.long j1), .second, .unset, .unset, .unset, .unset, .unset, .unset, .unset, .unset, .unset, .unset, .unset, .unset, .unset, .unset, .unset, .unset]) (Jvm.Free.JP.mathPlain rfl (by decide +kernel)) Z0 (fun m => ef2 m j0 j1) ?_
  intro p e F m below meth c T0 C0
  refine C0.lloadN d2_0 rfl rfl ?_
  refine C0.bipush (32 : Int32) d2_1 rfl rfl ?_
  refine C0.lshr d2_3 rfl ?_
  refine C0.lstore d2_4 rfl (L' := #[.val (.long j0), .second, .val (.long j1), .second, .val (.long (j0 >>> ((32 : Int32) &&& 0x3f).toInt64)), .second, .unset, .unset, .unset, .unset, .unset, .unset, .unset, .unset, .unset, .unset, .unset, .unset, .unset, .unset]) rfl ?_
  refine C0.lloadN d2_6 rfl rfl ?_
  refine C0.ldc2 (hw _ (List.mem_of_getElem? (i := 12) rfl)) d2_7 rfl ?_
  refine C0.land d2_10 rfl ?_
  refine C0.lstore d2_11 rfl (L' := #[.val (.long j0), .second, .val (.long j1), .second, .val (.long (j0 >>> ((32 : Int32) &&& 0x3f).toInt64)), .second, .val (.long (j0 &&& (4294967295 : Int64))), .second, .unset, .unset, .unset, .unset, .unset, .unset, .unset, .unset, .unset, .unset, .unset, .unset]) rfl ?_
  refine C0.lloadN d2_13 rfl rfl ?_
  refine C0.bipush (32 : Int32) d2_14 rfl rfl ?_
  refine C0.lshr d2_16 rfl ?_
  refine C0.lstore d2_17 rfl (L' := #[.val (.long j0), .second, .val (.long j1), .second, .val (.long (j0 >>> ((32 : Int32) &&& 0x3f).toInt64)), .second, .val (.long (j0 &&& (4294967295 : Int64))), .second, .val (.long (j1 >>> ((32 : Int32) &&& 0x3f).toInt64)), .second, .unset, .unset, .unset, .unset, .unset, .unset, .unset, .unset, .unset, .unset]) rfl ?_
  refine C0.lloadN d2_19 rfl rfl ?_
  refine C0.ldc2 (hw _ (List.mem_of_getElem? (i := 12) rfl)) d2_20 rfl ?_
  refine C0.land d2_23 rfl ?_
  refine C0.lstore d2_24 rfl (L' := #[.val (.long j0), .second, .val (.long j1), .second, .val (.long (j0 >>> ((32 : Int32) &&& 0x3f).toInt64)), .second, .val (.long (j0 &&& (4294967295 : Int64))), .second, .val (.long (j1 >>> ((32 : Int32) &&& 0x3f).toInt64)), .second, .val (.long (j1 &&& (4294967295 : Int64))), .second, .unset, .unset, .unset, .unset, .unset, .unset, .unset, .unset]) rfl ?_
  refine C0.lload d2_26 rfl rfl ?_
  refine C0.lload d2_28 rfl rfl ?_
  refine C0.lmul d2_30 rfl ?_
  refine C0.lstore d2_31 rfl (L' := #[.val (.long j0), .second, .val (.long j1), .second, .val (.long (j0 >>> ((32 : Int32) &&& 0x3f).toInt64)), .second, .val (.long (j0 &&& (4294967295 : Int64))), .second, .val (.long (j1 >>> ((32 : Int32) &&& 0x3f).toInt64)), .second, .val (.long (j1 &&& (4294967295 : Int64))), .second, .val (.long ((j0 &&& (4294967295 : Int64)) * (j1 &&& (4294967295 : Int64)))), .second, .unset, .unset, .unset, .unset, .unset, .unset]) rfl ?_
  refine C0.lload d2_33 rfl rfl ?_
  refine C0.lload d2_35 rfl rfl ?_
  refine C0.lmul d2_37 rfl ?_
  refine C0.lload d2_38 rfl rfl ?_
  refine C0.bipush (32 : Int32) d2_40 rfl rfl ?_
  refine C0.lushr d2_42 rfl ?_
  refine C0.ladd d2_43 rfl ?_
  refine C0.lstore d2_44 rfl (L' := #[.val (.long j0), .second, .val (.long j1), .second, .val (.long (j0 >>> ((32 : Int32) &&& 0x3f).toInt64)), .second, .val (.long (j0 &&& (4294967295 : Int64))), .second, .val (.long (j1 >>> ((32 : Int32) &&& 0x3f).toInt64)), .second, .val (.long (j1 &&& (4294967295 : Int64))), .second, .val (.long ((j0 &&& (4294967295 : Int64)) * (j1 &&& (4294967295 : Int64)))), .second, .val (.long (((j0 >>> ((32 : Int32) &&& 0x3f).toInt64) * (j1 &&& (4294967295 : Int64))) + ((((j0 &&& (4294967295 : Int64)) * (j1 &&& (4294967295 : Int64))).toUInt64 >>> ((32 : Int32) &&& 0x3f).toInt64.toUInt64).toInt64))), .second, .unset, .unset, .unset, .unset]) rfl ?_
  refine C0.lload d2_46 rfl rfl ?_
  refine C0.ldc2 (hw _ (List.mem_of_getElem? (i := 12) rfl)) d2_48 rfl ?_
  refine C0.land d2_51 rfl ?_
  refine C0.lstore d2_52 rfl (L' := #[.val (.long j0), .second, .val (.long j1), .second, .val (.long (j0 >>> ((32 : Int32) &&& 0x3f).toInt64)), .second, .val (.long (j0 &&& (4294967295 : Int64))), .second, .val (.long (j1 >>> ((32 : Int32) &&& 0x3f).toInt64)), .second, .val (.long (j1 &&& (4294967295 : Int64))), .second, .val (.long ((j0 &&& (4294967295 : Int64)) * (j1 &&& (4294967295 : Int64)))), .second, .val (.long (((j0 >>> ((32 : Int32) &&& 0x3f).toInt64) * (j1 &&& (4294967295 : Int64))) + ((((j0 &&& (4294967295 : Int64)) * (j1 &&& (4294967295 : Int64))).toUInt64 >>> ((32 : Int32) &&& 0x3f).toInt64.toUInt64).toInt64))), .second, .val (.long ((((j0 >>> ((32 : Int32) &&& 0x3f).toInt64) * (j1 &&& (4294967295 : Int64))) + ((((j0 &&& (4294967295 : Int64)) * (j1 &&& (4294967295 : Int64))).toUInt64 >>> ((32 : Int32) &&& 0x3f).toInt64.toUInt64).toInt64)) &&& (4294967295 : Int64))), .second, .unset, .unset]) rfl ?_
  refine C0.lload d2_54 rfl rfl ?_
  refine C0.bipush (32 : Int32) d2_56 rfl rfl ?_
  refine C0.lshr d2_58 rfl ?_
  refine C0.lstore d2_59 rfl (L' := #[.val (.long j0), .second, .val (.long j1), .second, .val (.long (j0 >>> ((32 : Int32) &&& 0x3f).toInt64)), .second, .val (.long (j0 &&& (4294967295 : Int64))), .second, .val (.long (j1 >>> ((32 : Int32) &&& 0x3f).toInt64)), .second, .val (.long (j1 &&& (4294967295 : Int64))), .second, .val (.long ((j0 &&& (4294967295 : Int64)) * (j1 &&& (4294967295 : Int64)))), .second, .val (.long (((j0 >>> ((32 : Int32) &&& 0x3f).toInt64) * (j1 &&& (4294967295 : Int64))) + ((((j0 &&& (4294967295 : Int64)) * (j1 &&& (4294967295 : Int64))).toUInt64 >>> ((32 : Int32) &&& 0x3f).toInt64.toUInt64).toInt64))), .second, .val (.long ((((j0 >>> ((32 : Int32) &&& 0x3f).toInt64) * (j1 &&& (4294967295 : Int64))) + ((((j0 &&& (4294967295 : Int64)) * (j1 &&& (4294967295 : Int64))).toUInt64 >>> ((32 : Int32) &&& 0x3f).toInt64.toUInt64).toInt64)) &&& (4294967295 : Int64))), .second, .val (.long ((((j0 >>> ((32 : Int32) &&& 0x3f).toInt64) * (j1 &&& (4294967295 : Int64))) + ((((j0 &&& (4294967295 : Int64)) * (j1 &&& (4294967295 : Int64))).toUInt64 >>> ((32 : Int32) &&& 0x3f).toInt64.toUInt64).toInt64)) >>> ((32 : Int32) &&& 0x3f).toInt64)), .second]) rfl ?_
  refine C0.lload d2_61 rfl rfl ?_
  refine C0.lload d2_63 rfl rfl ?_
  refine C0.lload d2_65 rfl rfl ?_
  refine C0.lmul d2_67 rfl ?_
  refine C0.ladd d2_68 rfl ?_
  refine C0.lstore d2_69 rfl (L' := #[.val (.long j0), .second, .val (.long j1), .second, .val (.long (j0 >>> ((32 : Int32) &&& 0x3f).toInt64)), .second, .val (.long (j0 &&& (4294967295 : Int64))), .second, .val (.long (j1 >>> ((32 : Int32) &&& 0x3f).toInt64)), .second, .val (.long (j1 &&& (4294967295 : Int64))), .second, .val (.long ((j0 &&& (4294967295 : Int64)) * (j1 &&& (4294967295 : Int64)))), .second, .val (.long (((j0 >>> ((32 : Int32) &&& 0x3f).toInt64) * (j1 &&& (4294967295 : Int64))) + ((((j0 &&& (4294967295 : Int64)) * (j1 &&& (4294967295 : Int64))).toUInt64 >>> ((32 : Int32) &&& 0x3f).toInt64.toUInt64).toInt64))), .second, .val (.long (((((j0 >>> ((32 : Int32) &&& 0x3f).toInt64) * (j1 &&& (4294967295 : Int64))) + ((((j0 &&& (4294967295 : Int64)) * (j1 &&& (4294967295 : Int64))).toUInt64 >>> ((32 : Int32) &&& 0x3f).toInt64.toUInt64).toInt64)) &&& (4294967295 : Int64)) + ((j0 &&& (4294967295 : Int64)) * (j1 >>> ((32 : Int32) &&& 0x3f).toInt64)))), .second, .val (.long ((((j0 >>> ((32 : Int32) &&& 0x3f).toInt64) * (j1 &&& (4294967295 : Int64))) + ((((j0 &&& (4294967295 : Int64)) * (j1 &&& (4294967295 : Int64))).toUInt64 >>> ((32 : Int32) &&& 0x3f).toInt64.toUInt64).toInt64)) >>> ((32 : Int32) &&& 0x3f).toInt64)), .second]) rfl ?_
  refine C0.lload d2_71 rfl rfl ?_
  refine C0.lload d2_73 rfl rfl ?_
  refine C0.lmul d2_75 rfl ?_
  refine C0.lload d2_76 rfl rfl ?_
  refine C0.ladd d2_78 rfl ?_
  refine C0.lload d2_79 rfl rfl ?_
  refine C0.bipush (32 : Int32) d2_81 rfl rfl ?_
  refine C0.lshr d2_83 rfl ?_
  refine C0.ladd d2_84 rfl ?_
  exact C0.retJ d2_85 rfl (by decide) (by decide) ⟨by rw [f2], rfl⟩
def own_pr (d b : Int64) : Int64 := ((f2 d b) + ((d >>> ((63 : Int32) &&& 0x3f).toInt64) &&& b))
def own_probe (j0 j1 : Int64) (i2 : Int32) (j3 : Int64) : Int64 := own_pr (own_mix (j0 + (i2.toInt64 * j1))) j3

theorem pn1 : plainName "com/example/membership/membership/ProbeScheme" = true := by first | (simp [plainName, overriddenIn]; done) | decide +kernel
theorem pd1 : parseMethodDescriptor "(JJIJ)J" = some ⟨[.long, .long, .int, .long], some .long⟩ := by decide +kernel
theorem ef1 (m : MethodId) (j0 : Int64) (j1 : Int64) (i2 : Int32) (j3 : Int64) : entryFrame m #[(.long j0), (.long j1), (.int i2), (.long j3)] 11 = mkF m 0 #[.val (.long j0), .second, .val (.long j1), .second, .val (.int i2), .val (.long j3), .second, .unset, .unset, .unset, .unset] [] := by first | (simp [entryFrame, mkF, argsToLocals, Value.category]; done) | rfl
theorem d1_0 : decode prog_13_method_2_code 0 = .ok (.lload_n 0, 1) := by decide +kernel
theorem d1_1 : decode prog_13_method_2_code 1 = .ok (.iload 4, 2) := by decide +kernel
theorem d1_3 : decode prog_13_method_2_code 3 = .ok (.i2l, 1) := by decide +kernel
theorem d1_4 : decode prog_13_method_2_code 4 = .ok (.lload_n 2, 1) := by decide +kernel
theorem d1_5 : decode prog_13_method_2_code 5 = .ok (.lmul, 1) := by decide +kernel
theorem d1_6 : decode prog_13_method_2_code 6 = .ok (.ladd, 1) := by decide +kernel
theorem d1_7 : decode prog_13_method_2_code 7 = .ok (.lstore 7, 2) := by decide +kernel
theorem d1_9 : decode prog_13_method_2_code 9 = .ok (.lload 7, 2) := by decide +kernel
theorem d1_11 : decode prog_13_method_2_code 11 = .ok (.lload 7, 2) := by decide +kernel
theorem d1_13 : decode prog_13_method_2_code 13 = .ok (.bipush 30, 2) := by decide +kernel
theorem d1_15 : decode prog_13_method_2_code 15 = .ok (.lushr, 1) := by decide +kernel
theorem d1_16 : decode prog_13_method_2_code 16 = .ok (.lxor, 1) := by decide +kernel
theorem d1_17 : decode prog_13_method_2_code 17 = .ok (.ldc2_w 7, 3) := by decide +kernel
theorem d1_20 : decode prog_13_method_2_code 20 = .ok (.lmul, 1) := by decide +kernel
theorem d1_21 : decode prog_13_method_2_code 21 = .ok (.lstore 9, 2) := by decide +kernel
theorem d1_23 : decode prog_13_method_2_code 23 = .ok (.lload 9, 2) := by decide +kernel
theorem d1_25 : decode prog_13_method_2_code 25 = .ok (.lload 9, 2) := by decide +kernel
theorem d1_27 : decode prog_13_method_2_code 27 = .ok (.bipush 27, 2) := by decide +kernel
theorem d1_29 : decode prog_13_method_2_code 29 = .ok (.lushr, 1) := by decide +kernel
theorem d1_30 : decode prog_13_method_2_code 30 = .ok (.lxor, 1) := by decide +kernel
theorem d1_31 : decode prog_13_method_2_code 31 = .ok (.ldc2_w 9, 3) := by decide +kernel
theorem d1_34 : decode prog_13_method_2_code 34 = .ok (.lmul, 1) := by decide +kernel
theorem d1_35 : decode prog_13_method_2_code 35 = .ok (.lstore 9, 2) := by decide +kernel
theorem d1_37 : decode prog_13_method_2_code 37 = .ok (.lload 9, 2) := by decide +kernel
theorem d1_39 : decode prog_13_method_2_code 39 = .ok (.lload 9, 2) := by decide +kernel
theorem d1_41 : decode prog_13_method_2_code 41 = .ok (.bipush 31, 2) := by decide +kernel
theorem d1_43 : decode prog_13_method_2_code 43 = .ok (.lushr, 1) := by decide +kernel
theorem d1_44 : decode prog_13_method_2_code 44 = .ok (.lxor, 1) := by decide +kernel
theorem d1_45 : decode prog_13_method_2_code 45 = .ok (.lstore 9, 2) := by decide +kernel
theorem d1_47 : decode prog_13_method_2_code 47 = .ok (.lload 9, 2) := by decide +kernel
theorem d1_49 : decode prog_13_method_2_code 49 = .ok (.lload 5, 2) := by decide +kernel
theorem d1_51 : decode prog_13_method_2_code 51 = .ok (.invokestatic 11, 3) := by decide +kernel
theorem d1_54 : decode prog_13_method_2_code 54 = .ok (.lload 9, 2) := by decide +kernel
theorem d1_56 : decode prog_13_method_2_code 56 = .ok (.bipush 63, 2) := by decide +kernel
theorem d1_58 : decode prog_13_method_2_code 58 = .ok (.lshr, 1) := by decide +kernel
theorem d1_59 : decode prog_13_method_2_code 59 = .ok (.lload 5, 2) := by decide +kernel
theorem d1_61 : decode prog_13_method_2_code 61 = .ok (.land, 1) := by decide +kernel
theorem d1_62 : decode prog_13_method_2_code 62 = .ok (.ladd, 1) := by decide +kernel
theorem d1_63 : decode prog_13_method_2_code 63 = .ok (.lreturn, 1) := by decide +kernel
set_option maxRecDepth 65536 in
set_option maxHeartbeats 40000000 in
theorem rm1 (l : Launch) (Z : State) (a0 : Array Value) (hw : ∀ d ∈ tables_1, d.before a0 Z = true) (j0 : Int64) (j1 : Int64) (i2 : Int32) (j3 : Int64) (h0 : Heap) (n0 : Nat) (Z0 : n0 ≤ h0.size) :
    Ctr l Z (⟨"com/example/membership/membership/ProbeScheme", "probe", "(JJIJ)J"⟩ : MethodName) prog_13_method_2_code 11 (some .long) ({ frames := 1, cells := 0, slots := 0, locals := 31 } : Room) #[(.long j0), (.long j1), (.int i2), (.long j3)] h0 n0 (fun v h' => v = some (.long (own_probe j0 j1 i2 j3)) ∧ h' = h0) := by
  refine Ctr.body (L := #[.val (.long j0), .second, .val (.long j1), .second, .val (.int i2), .val (.long j3), .second, .unset, .unset, .unset, .unset]) (plainFor_of_name pn1) Z0 (fun m => ef1 m j0 j1 i2 j3) ?_
  intro p e F m below meth c T0 C0
  refine C0.lloadN d1_0 rfl rfl ?_
  refine C0.iload d1_1 rfl rfl ?_
  refine C0.i2l d1_3 rfl ?_
  refine C0.lloadN d1_4 rfl rfl ?_
  refine C0.lmul d1_5 rfl ?_
  refine C0.ladd d1_6 rfl ?_
  refine C0.lstore d1_7 rfl (L' := #[.val (.long j0), .second, .val (.long j1), .second, .val (.int i2), .val (.long j3), .second, .val (.long (j0 + ((i2.toInt64) * j1))), .second, .unset, .unset]) rfl ?_
  refine C0.lload d1_9 rfl rfl ?_
  refine C0.lload d1_11 rfl rfl ?_
  refine C0.bipush (30 : Int32) d1_13 rfl rfl ?_
  refine C0.lushr d1_15 rfl ?_
  refine C0.lxor d1_16 rfl ?_
  refine C0.ldc2 (hw _ (List.mem_of_getElem? (i := 6) rfl)) d1_17 rfl ?_
  refine C0.lmul d1_20 rfl ?_
  refine C0.lstore d1_21 rfl (L' := #[.val (.long j0), .second, .val (.long j1), .second, .val (.int i2), .val (.long j3), .second, .val (.long (j0 + ((i2.toInt64) * j1))), .second, .val (.long (((j0 + ((i2.toInt64) * j1)) ^^^ (((j0 + ((i2.toInt64) * j1)).toUInt64 >>> ((30 : Int32) &&& 0x3f).toInt64.toUInt64).toInt64)) * (-4658895280553007687 : Int64))), .second]) rfl ?_
  refine C0.lload d1_23 rfl rfl ?_
  refine C0.lload d1_25 rfl rfl ?_
  refine C0.bipush (27 : Int32) d1_27 rfl rfl ?_
  refine C0.lushr d1_29 rfl ?_
  refine C0.lxor d1_30 rfl ?_
  refine C0.ldc2 (hw _ (List.mem_of_getElem? (i := 7) rfl)) d1_31 rfl ?_
  refine C0.lmul d1_34 rfl ?_
  refine C0.lstore d1_35 rfl (L' := #[.val (.long j0), .second, .val (.long j1), .second, .val (.int i2), .val (.long j3), .second, .val (.long (j0 + ((i2.toInt64) * j1))), .second, .val (.long (((((j0 + ((i2.toInt64) * j1)) ^^^ (((j0 + ((i2.toInt64) * j1)).toUInt64 >>> ((30 : Int32) &&& 0x3f).toInt64.toUInt64).toInt64)) * (-4658895280553007687 : Int64)) ^^^ (((((j0 + ((i2.toInt64) * j1)) ^^^ (((j0 + ((i2.toInt64) * j1)).toUInt64 >>> ((30 : Int32) &&& 0x3f).toInt64.toUInt64).toInt64)) * (-4658895280553007687 : Int64)).toUInt64 >>> ((27 : Int32) &&& 0x3f).toInt64.toUInt64).toInt64)) * (-7723592293110705685 : Int64))), .second]) rfl ?_
  refine C0.lload d1_37 rfl rfl ?_
  refine C0.lload d1_39 rfl rfl ?_
  refine C0.bipush (31 : Int32) d1_41 rfl rfl ?_
  refine C0.lushr d1_43 rfl ?_
  refine C0.lxor d1_44 rfl ?_
  refine C0.lstore d1_45 rfl (L' := #[.val (.long j0), .second, .val (.long j1), .second, .val (.int i2), .val (.long j3), .second, .val (.long (j0 + ((i2.toInt64) * j1))), .second, .val (.long ((((((j0 + ((i2.toInt64) * j1)) ^^^ (((j0 + ((i2.toInt64) * j1)).toUInt64 >>> ((30 : Int32) &&& 0x3f).toInt64.toUInt64).toInt64)) * (-4658895280553007687 : Int64)) ^^^ (((((j0 + ((i2.toInt64) * j1)) ^^^ (((j0 + ((i2.toInt64) * j1)).toUInt64 >>> ((30 : Int32) &&& 0x3f).toInt64.toUInt64).toInt64)) * (-4658895280553007687 : Int64)).toUInt64 >>> ((27 : Int32) &&& 0x3f).toInt64.toUInt64).toInt64)) * (-7723592293110705685 : Int64)) ^^^ (((((((j0 + ((i2.toInt64) * j1)) ^^^ (((j0 + ((i2.toInt64) * j1)).toUInt64 >>> ((30 : Int32) &&& 0x3f).toInt64.toUInt64).toInt64)) * (-4658895280553007687 : Int64)) ^^^ (((((j0 + ((i2.toInt64) * j1)) ^^^ (((j0 + ((i2.toInt64) * j1)).toUInt64 >>> ((30 : Int32) &&& 0x3f).toInt64.toUInt64).toInt64)) * (-4658895280553007687 : Int64)).toUInt64 >>> ((27 : Int32) &&& 0x3f).toInt64.toUInt64).toInt64)) * (-7723592293110705685 : Int64)).toUInt64 >>> ((31 : Int32) &&& 0x3f).toInt64.toUInt64).toInt64))), .second]) rfl ?_
  refine C0.lload d1_47 rfl rfl ?_
  refine C0.lload d1_49 rfl rfl ?_
  refine C0.callS (hw _ (List.mem_of_getElem? (i := 8) rfl)) (hw _ (List.mem_of_getElem? (i := 9) rfl)) (hw _ (List.mem_of_getElem? (i := 10) rfl)) (hw _ (List.mem_of_getElem? (i := 11) rfl)) (by decide) (rm2 l Z a0 hw ((((((j0 + ((i2.toInt64) * j1)) ^^^ (((j0 + ((i2.toInt64) * j1)).toUInt64 >>> ((30 : Int32) &&& 0x3f).toInt64.toUInt64).toInt64)) * (-4658895280553007687 : Int64)) ^^^ (((((j0 + ((i2.toInt64) * j1)) ^^^ (((j0 + ((i2.toInt64) * j1)).toUInt64 >>> ((30 : Int32) &&& 0x3f).toInt64.toUInt64).toInt64)) * (-4658895280553007687 : Int64)).toUInt64 >>> ((27 : Int32) &&& 0x3f).toInt64.toUInt64).toInt64)) * (-7723592293110705685 : Int64)) ^^^ (((((((j0 + ((i2.toInt64) * j1)) ^^^ (((j0 + ((i2.toInt64) * j1)).toUInt64 >>> ((30 : Int32) &&& 0x3f).toInt64.toUInt64).toInt64)) * (-4658895280553007687 : Int64)) ^^^ (((((j0 + ((i2.toInt64) * j1)) ^^^ (((j0 + ((i2.toInt64) * j1)).toUInt64 >>> ((30 : Int32) &&& 0x3f).toInt64.toUInt64).toInt64)) * (-4658895280553007687 : Int64)).toUInt64 >>> ((27 : Int32) &&& 0x3f).toInt64.toUInt64).toInt64)) * (-7723592293110705685 : Int64)).toUInt64 >>> ((31 : Int32) &&& 0x3f).toInt64.toUInt64).toInt64)) j3 h0 n0 C0.size ) (argsL := [(.long ((((((j0 + ((i2.toInt64) * j1)) ^^^ (((j0 + ((i2.toInt64) * j1)).toUInt64 >>> ((30 : Int32) &&& 0x3f).toInt64.toUInt64).toInt64)) * (-4658895280553007687 : Int64)) ^^^ (((((j0 + ((i2.toInt64) * j1)) ^^^ (((j0 + ((i2.toInt64) * j1)).toUInt64 >>> ((30 : Int32) &&& 0x3f).toInt64.toUInt64).toInt64)) * (-4658895280553007687 : Int64)).toUInt64 >>> ((27 : Int32) &&& 0x3f).toInt64.toUInt64).toInt64)) * (-7723592293110705685 : Int64)) ^^^ (((((((j0 + ((i2.toInt64) * j1)) ^^^ (((j0 + ((i2.toInt64) * j1)).toUInt64 >>> ((30 : Int32) &&& 0x3f).toInt64.toUInt64).toInt64)) * (-4658895280553007687 : Int64)) ^^^ (((((j0 + ((i2.toInt64) * j1)) ^^^ (((j0 + ((i2.toInt64) * j1)).toUInt64 >>> ((30 : Int32) &&& 0x3f).toInt64.toUInt64).toInt64)) * (-4658895280553007687 : Int64)).toUInt64 >>> ((27 : Int32) &&& 0x3f).toInt64.toUInt64).toInt64)) * (-7723592293110705685 : Int64)).toUInt64 >>> ((31 : Int32) &&& 0x3f).toInt64.toUInt64).toInt64))), (.long j3)]) pd2 rfl 0 (by decide) (by decide) (by decide) (by decide) (rest := []) rfl rfl (Nat.le_of_eq rfl) d1_51 rfl (fun v1 T1 h1 C1 qq1 => ?_)
  obtain ⟨rfl, hh1⟩ := qq1
  have hh1 := hh1.symm; subst hh1
  show Go p e below F n0 (fun v h' => v = some (.long (own_probe j0 j1 i2 j3)) ∧ h' = h0) T1 (mkF m 54 #[.val (.long j0), .second, .val (.long j1), .second, .val (.int i2), .val (.long j3), .second, .val (.long (j0 + ((i2.toInt64) * j1))), .second, .val (.long ((((((j0 + ((i2.toInt64) * j1)) ^^^ (((j0 + ((i2.toInt64) * j1)).toUInt64 >>> ((30 : Int32) &&& 0x3f).toInt64.toUInt64).toInt64)) * (-4658895280553007687 : Int64)) ^^^ (((((j0 + ((i2.toInt64) * j1)) ^^^ (((j0 + ((i2.toInt64) * j1)).toUInt64 >>> ((30 : Int32) &&& 0x3f).toInt64.toUInt64).toInt64)) * (-4658895280553007687 : Int64)).toUInt64 >>> ((27 : Int32) &&& 0x3f).toInt64.toUInt64).toInt64)) * (-7723592293110705685 : Int64)) ^^^ (((((((j0 + ((i2.toInt64) * j1)) ^^^ (((j0 + ((i2.toInt64) * j1)).toUInt64 >>> ((30 : Int32) &&& 0x3f).toInt64.toUInt64).toInt64)) * (-4658895280553007687 : Int64)) ^^^ (((((j0 + ((i2.toInt64) * j1)) ^^^ (((j0 + ((i2.toInt64) * j1)).toUInt64 >>> ((30 : Int32) &&& 0x3f).toInt64.toUInt64).toInt64)) * (-4658895280553007687 : Int64)).toUInt64 >>> ((27 : Int32) &&& 0x3f).toInt64.toUInt64).toInt64)) * (-7723592293110705685 : Int64)).toUInt64 >>> ((31 : Int32) &&& 0x3f).toInt64.toUInt64).toInt64))), .second] [(.long (f2 ((((((j0 + ((i2.toInt64) * j1)) ^^^ (((j0 + ((i2.toInt64) * j1)).toUInt64 >>> ((30 : Int32) &&& 0x3f).toInt64.toUInt64).toInt64)) * (-4658895280553007687 : Int64)) ^^^ (((((j0 + ((i2.toInt64) * j1)) ^^^ (((j0 + ((i2.toInt64) * j1)).toUInt64 >>> ((30 : Int32) &&& 0x3f).toInt64.toUInt64).toInt64)) * (-4658895280553007687 : Int64)).toUInt64 >>> ((27 : Int32) &&& 0x3f).toInt64.toUInt64).toInt64)) * (-7723592293110705685 : Int64)) ^^^ (((((((j0 + ((i2.toInt64) * j1)) ^^^ (((j0 + ((i2.toInt64) * j1)).toUInt64 >>> ((30 : Int32) &&& 0x3f).toInt64.toUInt64).toInt64)) * (-4658895280553007687 : Int64)) ^^^ (((((j0 + ((i2.toInt64) * j1)) ^^^ (((j0 + ((i2.toInt64) * j1)).toUInt64 >>> ((30 : Int32) &&& 0x3f).toInt64.toUInt64).toInt64)) * (-4658895280553007687 : Int64)).toUInt64 >>> ((27 : Int32) &&& 0x3f).toInt64.toUInt64).toInt64)) * (-7723592293110705685 : Int64)).toUInt64 >>> ((31 : Int32) &&& 0x3f).toInt64.toUInt64).toInt64)) j3))])
  refine C1.lload d1_54 rfl rfl ?_
  refine C1.bipush (63 : Int32) d1_56 rfl rfl ?_
  refine C1.lshr d1_58 rfl ?_
  refine C1.lload d1_59 rfl rfl ?_
  refine C1.land d1_61 rfl ?_
  refine C1.ladd d1_62 rfl ?_
  exact C1.retJ d1_63 rfl (by decide) (by decide) ⟨rfl, rfl⟩
theorem own_exp (A a H l : Int) : (A * 4294967296 + a) * (H * 4294967296 + l) = (A * H) * 18446744073709551616 + (A * l + a * H) * 4294967296 + a * l := by
  grind
theorem own_i1 (P1 P2 P3 P4 : Int) : P4 + (P1 + P3 / 4294967296) / 4294967296 + ((P1 + P3 / 4294967296) % 4294967296 + P2) / 4294967296 = (P4 * 18446744073709551616 + (P1 + P2) * 4294967296 + P3) / 18446744073709551616 := by
  obtain ⟨q, hq⟩ : ∃ z, z = P3 / 4294967296 := ⟨_, rfl⟩
  obtain ⟨r, hr⟩ : ∃ z, z = P3 % 4294967296 := ⟨_, rfl⟩
  have e1 : P3 = q * 4294967296 + r := by omega
  have e2 : 0 ≤ r ∧ r < 4294967296 := by omega
  rw [← hq]; clear hq hr
  obtain ⟨th, h1⟩ : ∃ z, z = (P1 + q) / 4294967296 := ⟨_, rfl⟩
  obtain ⟨tl, h2⟩ : ∃ z, z = (P1 + q) % 4294967296 := ⟨_, rfl⟩
  have e3 : P1 = th * 4294967296 + tl - q := by omega
  rw [← h1, ← h2]; clear h1 h2
  obtain ⟨wh, h3⟩ : ∃ z, z = (tl + P2) / 4294967296 := ⟨_, rfl⟩
  obtain ⟨wl, h4⟩ : ∃ z, z = (tl + P2) % 4294967296 := ⟨_, rfl⟩
  have e4 : P2 = wh * 4294967296 + wl - tl := by omega
  have e5 : 0 ≤ wl ∧ wl < 4294967296 := by omega
  rw [← h3]; clear h3 h4
  subst e1 e3 e4
  have e : P4 * 18446744073709551616 + (th * 4294967296 + tl - q + (wh * 4294967296 + wl - tl)) * 4294967296 + (q * 4294967296 + r) = (wl * 4294967296 + r) + (P4 + th + wh) * 18446744073709551616 := by omega
  rw [e, Int.add_mul_ediv_right _ _ (by decide), Int.ediv_eq_zero_of_lt (by omega) (by omega)]; omega
theorem own_m1and (b : Int64) : (-1 : Int64) &&& b = b := by
  apply Int64.toBitVec_inj.mp; rw [Int64.toBitVec_and]; exact BitVec.allOnes_and
theorem own_0and (b : Int64) : (0 : Int64) &&& b = 0 := by
  apply Int64.toBitVec_inj.mp; rw [Int64.toBitVec_and]; show 0#64 &&& _ = _; simp
theorem own_sg (d b : Int64) : ((d >>> ((63 : Int32) &&& 0x3f).toInt64) &&& b).toInt = if d.toInt < 0 then b.toInt else 0 := by
  have e := c_lshr d 63 63 (by decide); have bd := d.le_toInt; have bd' := d.toInt_lt
  by_cases h : d.toInt < 0
  · have q : d >>> ((63 : Int32) &&& 0x3f).toInt64 = (-1 : Int64) := Int64.toInt_inj.mp (by rw [e]; show _ = -1; omega)
    rw [q, own_m1and, if_pos h]
  · have q : d >>> ((63 : Int32) &&& 0x3f).toInt64 = (0 : Int64) := Int64.toInt_inj.mp (by rw [e]; show _ = 0; omega)
    rw [q, own_0and, if_neg h]; rfl
theorem own_add {x y : Int64} {X Y : Int} (hx : x.toInt = X) (hy : y.toInt = Y) (l : -9223372036854775808 ≤ X + Y) (u : X + Y < 9223372036854775808) : (x + y).toInt = X + Y := by
  have c := c_ladd x y; have b1 := (x + y).le_toInt; have b2 := (x + y).toInt_lt
  rw [hx, hy] at c; omega
theorem own_mul {x y : Int64} {P : Int} (hP : x.toInt * y.toInt = P) (l : -9223372036854775808 ≤ P) (u : P < 9223372036854775808) : (x * y).toInt = P := by
  have c := c_lmul x y; have b1 := (x * y).le_toInt; have b2 := (x * y).toInt_lt
  rw [hP] at c; omega
theorem own_mulu {x y : Int64} {P : Int} (hP : x.toInt * y.toInt = P) (l : 0 ≤ P) (u : P < 18446744073709551616) : (((x * y).toUInt64 >>> ((32 : Int32) &&& 0x3f).toInt64.toUInt64).toInt64).toInt = P / 4294967296 := by
  have c := c_lmul x y
  have q1 := c_lushr (x * y) 32 32 (by decide) (by decide)
  rw [hP] at c; rw [q1, show (x * y).toInt % 18446744073709551616 = P by omega]; rfl
theorem own_bA {A l : Int} (rA : -2147483648 ≤ A ∧ A ≤ 2147483647) (rl : 0 ≤ l ∧ l ≤ 4294967295) : -9223372034707292160 ≤ A * l ∧ A * l ≤ 9223372030412324865 := by
  have k1 := mc rA.1 rA.2 rl.1 rl.2; omega
theorem own_ba {a l : Int} (ra : 0 ≤ a ∧ a ≤ 4294967295) (rl : 0 ≤ l ∧ l ≤ 4294967295) : 0 ≤ a * l ∧ a * l ≤ 18446744065119617025 := by
  have k1 := mc ra.1 ra.2 rl.1 rl.2; omega
theorem own_bH {a H : Int} (ra : 0 ≤ a ∧ a ≤ 4294967295) (rH : 0 ≤ H ∧ H ≤ 16) : 0 ≤ a * H ∧ a * H ≤ 68719476720 := by
  have k1 := mc ra.1 ra.2 rH.1 rH.2; omega
theorem own_bG {A H : Int} (rA : -2147483648 ≤ A ∧ A ≤ 2147483647) (rH : 0 ≤ H ∧ H ≤ 16) : -34359738368 ≤ A * H ∧ A * H ≤ 34359738352 := by
  have k1 := mc rA.1 rA.2 rH.1 rH.2; omega
theorem own_mh (d b : Int64) (hb0 : 0 ≤ b.toInt) (hb1 : b.toInt ≤ 68719476736) : (f2 d b).toInt = (d.toInt * b.toInt) / 18446744073709551616 := by
  have e1 := c_lshr d 32 32 (by decide)
  have e2 := c_maskL d 4294967295 32 (by decide) (by decide)
  have e3 := c_lshr b 32 32 (by decide)
  have e4 := c_maskL b 4294967295 32 (by decide) (by decide)
  have bd := d.le_toInt; have bd' := d.toInt_lt
  rw [f2]
  generalize d >>> ((32 : Int32) &&& 0x3f).toInt64 = A at e1 ⊢
  generalize d &&& (4294967295 : Int64) = a at e2 ⊢
  generalize b >>> ((32 : Int32) &&& 0x3f).toInt64 = H at e3 ⊢
  generalize b &&& (4294967295 : Int64) = l at e4 ⊢
  have hd : d.toInt = A.toInt * 4294967296 + a.toInt := by clear e3 e4 hb0 hb1; omega
  have hb : b.toInt = H.toInt * 4294967296 + l.toInt := by clear e1 e2 hd bd bd'; omega
  have rA : -2147483648 ≤ A.toInt ∧ A.toInt ≤ 2147483647 := by clear e2 e3 e4 hd hb hb0 hb1; omega
  have ra : 0 ≤ a.toInt ∧ a.toInt ≤ 4294967295 := by clear e1 e3 e4 hd hb hb0 hb1 rA; omega
  have rH : 0 ≤ H.toInt ∧ H.toInt ≤ 16 := by clear e1 e2 e4 hd hb bd bd' rA ra; omega
  have rl : 0 ≤ l.toInt ∧ l.toInt ≤ 4294967295 := by clear e1 e2 e3 hd hb bd bd' rA ra rH; omega
  rw [hd, hb, own_exp, ← own_i1]
  clear e1 e2 e3 e4 hd hb hb0 hb1 bd bd'
  obtain ⟨k1, k1'⟩ := own_bA rA rl
  obtain ⟨k2, k2'⟩ := own_bH ra rH
  obtain ⟨k3, k3'⟩ := own_ba ra rl
  obtain ⟨k4, k4'⟩ := own_bG rA rH
  clear rA ra rH rl
  have z1 := own_mulu (x := a) (y := l) rfl k3 (by omega)
  have z2 := own_mul (x := A) (y := l) rfl (by omega) (by omega)
  have z3 := own_mul (x := a) (y := H) rfl (by omega) (by omega)
  have z4 := own_mul (x := A) (y := H) rfl (by omega) (by omega)
  generalize A.toInt * l.toInt = P1 at *
  generalize a.toInt * H.toInt = P2 at *
  generalize a.toInt * l.toInt = P3 at *
  generalize A.toInt * H.toInt = P4 at *
  generalize ((a * l).toUInt64 >>> ((32 : Int32) &&& 0x3f).toInt64.toUInt64).toInt64 = p at z1 ⊢
  generalize A * l = x1 at z2 ⊢
  generalize a * H = x2 at z3 ⊢
  generalize A * H = x4 at z4 ⊢
  have k5 : 0 ≤ P3 / 4294967296 ∧ P3 / 4294967296 ≤ 4294967294 := by clear k1 k1' k2 k2' k4 k4' z1 z2 z3 z4; omega
  generalize P3 / 4294967296 = Q at *
  clear k3 k3'
  have z5 := own_add z2 z1 (by omega) (by omega)
  have y1 := c_lshr (x1 + p) 32 32 (by decide)
  have y2 := c_maskL (x1 + p) 4294967295 32 (by decide) (by decide)
  rw [z5] at y1 y2
  generalize x1 + p = t at *
  generalize t >>> ((32 : Int32) &&& 0x3f).toInt64 = th at *
  generalize t &&& (4294967295 : Int64) = tl at *
  have y1 : th.toInt = (P1 + Q) / 4294967296 := y1
  have y2 : tl.toInt = (P1 + Q) % 4294967296 := y2
  have k6 : -9223372036854775808 ≤ P1 + Q ∧ P1 + Q < 9223372036854775808 := by omega
  generalize P1 + Q = W at *
  clear z1 z2 z5 k1 k1' k5
  have k7 : -2147483648 ≤ W / 4294967296 ∧ W / 4294967296 ≤ 2147483647 := by clear y1 y2 k2 k2' k4 k4' z3 z4; omega
  have k8 : 0 ≤ W % 4294967296 ∧ W % 4294967296 ≤ 4294967295 := by clear y1 y2 k2 k2' k4 k4' z3 z4 k7; omega
  generalize W / 4294967296 = Wh at *
  generalize W % 4294967296 = Wl at *
  clear k6
  have z6 := own_add y2 z3 (by omega) (by omega)
  have y3 := c_lshr (tl + x2) 32 32 (by decide)
  rw [z6] at y3
  generalize (tl + x2) >>> ((32 : Int32) &&& 0x3f).toInt64 = wh at *
  have y3 : wh.toInt = (Wl + P2) / 4294967296 := y3
  have k9 : 0 ≤ (Wl + P2) / 4294967296 ∧ (Wl + P2) / 4294967296 ≤ 32 := by clear y1 y2 y3 z3 z4 z6 k4 k4' k7; omega
  generalize (Wl + P2) / 4294967296 = Vh at *
  have z7 := own_add z4 y1 (by omega) (by omega)
  exact own_add z7 y3 (by omega) (by omega)
theorem own_pr_eq (d b : Int64) (hb0 : 0 ≤ b.toInt) (hb1 : b.toInt ≤ 68719476736) : (own_pr d b).toInt = (d.toInt % 18446744073709551616 * b.toInt) / 18446744073709551616 := by
  have e := own_mh d b hb0 hb1; have g := own_sg d b; have bd := d.le_toInt; have bd' := d.toInt_lt
  have k := mc (a := d.toInt) (b := b.toInt) (l1 := -9223372036854775808) (h1 := 9223372036854775807) (by omega) (by omega) hb0 hb1
  have k' : -34359738368 * 18446744073709551616 ≤ d.toInt * b.toInt ∧ d.toInt * b.toInt ≤ 34359738368 * 18446744073709551616 := by omega
  clear k
  rw [own_pr]
  by_cases h : d.toInt < 0
  · rw [if_pos h] at g
    rw [own_add e g (by clear e g; omega) (by clear e g; omega), show d.toInt % 18446744073709551616 = d.toInt + 18446744073709551616 by clear e g k'; omega, Int.add_mul, Int.mul_comm 18446744073709551616, Int.add_mul_ediv_right _ _ (by decide)]
  · rw [if_neg h] at g
    rw [own_add e g (by clear e g; omega) (by clear e g; omega), show d.toInt % 18446744073709551616 = d.toInt by clear e g k'; omega, Int.add_zero]
theorem own_pb (M b : Int64) (h1 : 1 ≤ b.toInt) (h2 : b.toInt ≤ 68719476736) : ¬ own_pr M b < (0 : Int64) ∧ own_pr M b < b := by
  have e := own_pr_eq M b (by omega) h2
  have r : 0 ≤ M.toInt % 18446744073709551616 ∧ M.toInt % 18446744073709551616 ≤ 18446744073709551615 := by omega
  rw [Int64.lt_iff_toInt_lt, Int64.lt_iff_toInt_lt, e, show (0 : Int64).toInt = 0 from rfl]
  clear e
  generalize M.toInt % 18446744073709551616 = D at *
  have k := mc r.1 r.2 h1 h2
  generalize D * b.toInt = P at *
  omega
theorem own_pa (M b c : Int64) (h1 : 0 ≤ b.toInt) (h2 : b.toInt ≤ 34359738368) (h3 : 0 ≤ c.toInt) (h4 : c.toInt ≤ 34359738368) : (own_pr M (b + c) - own_pr M b) - own_pr M c = (0 : Int64) ∨ (own_pr M (b + c) - own_pr M b) - own_pr M c = (1 : Int64) := by
  have s := own_add (x := b) (y := c) rfl rfl (by omega) (by omega)
  have e := own_pr_eq M b h1 (by omega)
  have e' := own_pr_eq M c h3 (by omega)
  have e2 := own_pr_eq M (b + c) (by omega) (by omega)
  have b0 := (own_pr M b).le_toInt; have b0' := (own_pr M b).toInt_lt
  have b1 := (own_pr M c).le_toInt; have b1' := (own_pr M c).toInt_lt
  have b2 := (own_pr M (b + c)).le_toInt; have b2' := (own_pr M (b + c)).toInt_lt
  rw [s, Int.mul_add] at e2
  generalize M.toInt % 18446744073709551616 * b.toInt = P at *
  generalize M.toInt % 18446744073709551616 * c.toInt = Q at *
  have z : (own_pr M (b + c)).toInt - (own_pr M b).toInt - (own_pr M c).toInt = 0 ∨ (own_pr M (b + c)).toInt - (own_pr M b).toInt - (own_pr M c).toInt = 1 := by clear b0 b0' b1 b1' b2 b2' s h1 h2 h3 h4; omega
  clear e e' e2 s h1 h2 h3 h4
  have c1 := c_lsub (own_pr M (b + c)) (own_pr M b)
  have c2 := c_lsub (own_pr M (b + c) - own_pr M b) (own_pr M c)
  generalize own_pr M (b + c) = x at *
  generalize own_pr M b = y at *
  generalize own_pr M c = w at *
  have b3 := (x - y - w).le_toInt; have b3' := (x - y - w).toInt_lt
  rw [← Int64.toInt_inj, ← Int64.toInt_inj, show (0 : Int64).toInt = 0 from rfl, show (1 : Int64).toInt = 1 from rfl]
  omega
theorem own_iw (D a s : Int) (hs : 0 < s) (h : a * s = 68719476736) (h0 : 0 ≤ D) : D * 68719476736 / 18446744073709551616 / s = D * a / 18446744073709551616 := by
  rw [← h, Int.ediv_ediv_of_nonneg (by decide), Int.mul_comm 18446744073709551616 s, ← Int.mul_assoc, Int.mul_comm (D * a) s, Int.mul_ediv_mul_of_pos _ _ hs]
theorem own_pw0 (M : Int64) (A : Int64) (q : Int32) (s : Nat) (hq : q.toBitVec.toNat % 64 = s) (h0 : 0 < s) (hA0 : 0 ≤ A.toInt) (hA1 : A.toInt ≤ 68719476736) (hA : A.toInt * (2 ^ s : Nat) = 68719476736) : own_pr M A = (((own_pr M (68719476736 : Int64)).toUInt64 >>> (q &&& 0x3f).toInt64.toUInt64).toInt64) := by
  apply Int64.toInt_inj.mp
  have p := own_pb M (68719476736 : Int64) (by decide) (by decide)
  rw [c_lushr _ q s hq h0, own_pr_eq M A hA0 hA1]
  rw [Int64.lt_iff_toInt_lt, Int64.lt_iff_toInt_lt, show (0 : Int64).toInt = 0 from rfl, show (68719476736 : Int64).toInt = 68719476736 from rfl] at p
  rw [show (own_pr M (68719476736 : Int64)).toInt % 18446744073709551616 = (own_pr M (68719476736 : Int64)).toInt by omega, own_pr_eq M _ (by decide) (by decide), show (68719476736 : Int64).toInt = 68719476736 from rfl, own_iw _ A.toInt _ (by exact_mod_cast Nat.two_pow_pos s) hA (by omega)]
theorem own_pw (M : Int64) (k : Int32) (h0 : 0 ≤ k.toInt) (h1 : k.toInt ≤ 36) : own_pr M ((1 : Int64) <<< (k &&& 0x3f).toInt64) = (((own_pr M (68719476736 : Int64)).toUInt64 >>> (((36 : Int32) - k) &&& 0x3f).toInt64.toUInt64).toInt64) := by
  have q : k.toInt = 0 ∨ k.toInt = 1 ∨ k.toInt = 2 ∨ k.toInt = 3 ∨ k.toInt = 4 ∨ k.toInt = 5 ∨ k.toInt = 6 ∨ k.toInt = 7 ∨ k.toInt = 8 ∨ k.toInt = 9 ∨ k.toInt = 10 ∨ k.toInt = 11 ∨ k.toInt = 12 ∨ k.toInt = 13 ∨ k.toInt = 14 ∨ k.toInt = 15 ∨ k.toInt = 16 ∨ k.toInt = 17 ∨ k.toInt = 18 ∨ k.toInt = 19 ∨ k.toInt = 20 ∨ k.toInt = 21 ∨ k.toInt = 22 ∨ k.toInt = 23 ∨ k.toInt = 24 ∨ k.toInt = 25 ∨ k.toInt = 26 ∨ k.toInt = 27 ∨ k.toInt = 28 ∨ k.toInt = 29 ∨ k.toInt = 30 ∨ k.toInt = 31 ∨ k.toInt = 32 ∨ k.toInt = 33 ∨ k.toInt = 34 ∨ k.toInt = 35 ∨ k.toInt = 36 := by omega
  rcases q with q | q | q | q | q | q | q | q | q | q | q | q | q | q | q | q | q | q | q | q | q | q | q | q | q | q | q | q | q | q | q | q | q | q | q | q | q
  · rw [show k = (0 : Int32) from Int32.toInt_inj.mp q, show ((1 : Int64) <<< ((0 : Int32) &&& 0x3f).toInt64) = (1 : Int64) by decide]
    exact own_pw0 M (1 : Int64) ((36 : Int32) - (0 : Int32)) 36 (by decide) (by decide) (by decide) (by decide) (by decide)
  · rw [show k = (1 : Int32) from Int32.toInt_inj.mp q, show ((1 : Int64) <<< ((1 : Int32) &&& 0x3f).toInt64) = (2 : Int64) by decide]
    exact own_pw0 M (2 : Int64) ((36 : Int32) - (1 : Int32)) 35 (by decide) (by decide) (by decide) (by decide) (by decide)
  · rw [show k = (2 : Int32) from Int32.toInt_inj.mp q, show ((1 : Int64) <<< ((2 : Int32) &&& 0x3f).toInt64) = (4 : Int64) by decide]
    exact own_pw0 M (4 : Int64) ((36 : Int32) - (2 : Int32)) 34 (by decide) (by decide) (by decide) (by decide) (by decide)
  · rw [show k = (3 : Int32) from Int32.toInt_inj.mp q, show ((1 : Int64) <<< ((3 : Int32) &&& 0x3f).toInt64) = (8 : Int64) by decide]
    exact own_pw0 M (8 : Int64) ((36 : Int32) - (3 : Int32)) 33 (by decide) (by decide) (by decide) (by decide) (by decide)
  · rw [show k = (4 : Int32) from Int32.toInt_inj.mp q, show ((1 : Int64) <<< ((4 : Int32) &&& 0x3f).toInt64) = (16 : Int64) by decide]
    exact own_pw0 M (16 : Int64) ((36 : Int32) - (4 : Int32)) 32 (by decide) (by decide) (by decide) (by decide) (by decide)
  · rw [show k = (5 : Int32) from Int32.toInt_inj.mp q, show ((1 : Int64) <<< ((5 : Int32) &&& 0x3f).toInt64) = (32 : Int64) by decide]
    exact own_pw0 M (32 : Int64) ((36 : Int32) - (5 : Int32)) 31 (by decide) (by decide) (by decide) (by decide) (by decide)
  · rw [show k = (6 : Int32) from Int32.toInt_inj.mp q, show ((1 : Int64) <<< ((6 : Int32) &&& 0x3f).toInt64) = (64 : Int64) by decide]
    exact own_pw0 M (64 : Int64) ((36 : Int32) - (6 : Int32)) 30 (by decide) (by decide) (by decide) (by decide) (by decide)
  · rw [show k = (7 : Int32) from Int32.toInt_inj.mp q, show ((1 : Int64) <<< ((7 : Int32) &&& 0x3f).toInt64) = (128 : Int64) by decide]
    exact own_pw0 M (128 : Int64) ((36 : Int32) - (7 : Int32)) 29 (by decide) (by decide) (by decide) (by decide) (by decide)
  · rw [show k = (8 : Int32) from Int32.toInt_inj.mp q, show ((1 : Int64) <<< ((8 : Int32) &&& 0x3f).toInt64) = (256 : Int64) by decide]
    exact own_pw0 M (256 : Int64) ((36 : Int32) - (8 : Int32)) 28 (by decide) (by decide) (by decide) (by decide) (by decide)
  · rw [show k = (9 : Int32) from Int32.toInt_inj.mp q, show ((1 : Int64) <<< ((9 : Int32) &&& 0x3f).toInt64) = (512 : Int64) by decide]
    exact own_pw0 M (512 : Int64) ((36 : Int32) - (9 : Int32)) 27 (by decide) (by decide) (by decide) (by decide) (by decide)
  · rw [show k = (10 : Int32) from Int32.toInt_inj.mp q, show ((1 : Int64) <<< ((10 : Int32) &&& 0x3f).toInt64) = (1024 : Int64) by decide]
    exact own_pw0 M (1024 : Int64) ((36 : Int32) - (10 : Int32)) 26 (by decide) (by decide) (by decide) (by decide) (by decide)
  · rw [show k = (11 : Int32) from Int32.toInt_inj.mp q, show ((1 : Int64) <<< ((11 : Int32) &&& 0x3f).toInt64) = (2048 : Int64) by decide]
    exact own_pw0 M (2048 : Int64) ((36 : Int32) - (11 : Int32)) 25 (by decide) (by decide) (by decide) (by decide) (by decide)
  · rw [show k = (12 : Int32) from Int32.toInt_inj.mp q, show ((1 : Int64) <<< ((12 : Int32) &&& 0x3f).toInt64) = (4096 : Int64) by decide]
    exact own_pw0 M (4096 : Int64) ((36 : Int32) - (12 : Int32)) 24 (by decide) (by decide) (by decide) (by decide) (by decide)
  · rw [show k = (13 : Int32) from Int32.toInt_inj.mp q, show ((1 : Int64) <<< ((13 : Int32) &&& 0x3f).toInt64) = (8192 : Int64) by decide]
    exact own_pw0 M (8192 : Int64) ((36 : Int32) - (13 : Int32)) 23 (by decide) (by decide) (by decide) (by decide) (by decide)
  · rw [show k = (14 : Int32) from Int32.toInt_inj.mp q, show ((1 : Int64) <<< ((14 : Int32) &&& 0x3f).toInt64) = (16384 : Int64) by decide]
    exact own_pw0 M (16384 : Int64) ((36 : Int32) - (14 : Int32)) 22 (by decide) (by decide) (by decide) (by decide) (by decide)
  · rw [show k = (15 : Int32) from Int32.toInt_inj.mp q, show ((1 : Int64) <<< ((15 : Int32) &&& 0x3f).toInt64) = (32768 : Int64) by decide]
    exact own_pw0 M (32768 : Int64) ((36 : Int32) - (15 : Int32)) 21 (by decide) (by decide) (by decide) (by decide) (by decide)
  · rw [show k = (16 : Int32) from Int32.toInt_inj.mp q, show ((1 : Int64) <<< ((16 : Int32) &&& 0x3f).toInt64) = (65536 : Int64) by decide]
    exact own_pw0 M (65536 : Int64) ((36 : Int32) - (16 : Int32)) 20 (by decide) (by decide) (by decide) (by decide) (by decide)
  · rw [show k = (17 : Int32) from Int32.toInt_inj.mp q, show ((1 : Int64) <<< ((17 : Int32) &&& 0x3f).toInt64) = (131072 : Int64) by decide]
    exact own_pw0 M (131072 : Int64) ((36 : Int32) - (17 : Int32)) 19 (by decide) (by decide) (by decide) (by decide) (by decide)
  · rw [show k = (18 : Int32) from Int32.toInt_inj.mp q, show ((1 : Int64) <<< ((18 : Int32) &&& 0x3f).toInt64) = (262144 : Int64) by decide]
    exact own_pw0 M (262144 : Int64) ((36 : Int32) - (18 : Int32)) 18 (by decide) (by decide) (by decide) (by decide) (by decide)
  · rw [show k = (19 : Int32) from Int32.toInt_inj.mp q, show ((1 : Int64) <<< ((19 : Int32) &&& 0x3f).toInt64) = (524288 : Int64) by decide]
    exact own_pw0 M (524288 : Int64) ((36 : Int32) - (19 : Int32)) 17 (by decide) (by decide) (by decide) (by decide) (by decide)
  · rw [show k = (20 : Int32) from Int32.toInt_inj.mp q, show ((1 : Int64) <<< ((20 : Int32) &&& 0x3f).toInt64) = (1048576 : Int64) by decide]
    exact own_pw0 M (1048576 : Int64) ((36 : Int32) - (20 : Int32)) 16 (by decide) (by decide) (by decide) (by decide) (by decide)
  · rw [show k = (21 : Int32) from Int32.toInt_inj.mp q, show ((1 : Int64) <<< ((21 : Int32) &&& 0x3f).toInt64) = (2097152 : Int64) by decide]
    exact own_pw0 M (2097152 : Int64) ((36 : Int32) - (21 : Int32)) 15 (by decide) (by decide) (by decide) (by decide) (by decide)
  · rw [show k = (22 : Int32) from Int32.toInt_inj.mp q, show ((1 : Int64) <<< ((22 : Int32) &&& 0x3f).toInt64) = (4194304 : Int64) by decide]
    exact own_pw0 M (4194304 : Int64) ((36 : Int32) - (22 : Int32)) 14 (by decide) (by decide) (by decide) (by decide) (by decide)
  · rw [show k = (23 : Int32) from Int32.toInt_inj.mp q, show ((1 : Int64) <<< ((23 : Int32) &&& 0x3f).toInt64) = (8388608 : Int64) by decide]
    exact own_pw0 M (8388608 : Int64) ((36 : Int32) - (23 : Int32)) 13 (by decide) (by decide) (by decide) (by decide) (by decide)
  · rw [show k = (24 : Int32) from Int32.toInt_inj.mp q, show ((1 : Int64) <<< ((24 : Int32) &&& 0x3f).toInt64) = (16777216 : Int64) by decide]
    exact own_pw0 M (16777216 : Int64) ((36 : Int32) - (24 : Int32)) 12 (by decide) (by decide) (by decide) (by decide) (by decide)
  · rw [show k = (25 : Int32) from Int32.toInt_inj.mp q, show ((1 : Int64) <<< ((25 : Int32) &&& 0x3f).toInt64) = (33554432 : Int64) by decide]
    exact own_pw0 M (33554432 : Int64) ((36 : Int32) - (25 : Int32)) 11 (by decide) (by decide) (by decide) (by decide) (by decide)
  · rw [show k = (26 : Int32) from Int32.toInt_inj.mp q, show ((1 : Int64) <<< ((26 : Int32) &&& 0x3f).toInt64) = (67108864 : Int64) by decide]
    exact own_pw0 M (67108864 : Int64) ((36 : Int32) - (26 : Int32)) 10 (by decide) (by decide) (by decide) (by decide) (by decide)
  · rw [show k = (27 : Int32) from Int32.toInt_inj.mp q, show ((1 : Int64) <<< ((27 : Int32) &&& 0x3f).toInt64) = (134217728 : Int64) by decide]
    exact own_pw0 M (134217728 : Int64) ((36 : Int32) - (27 : Int32)) 9 (by decide) (by decide) (by decide) (by decide) (by decide)
  · rw [show k = (28 : Int32) from Int32.toInt_inj.mp q, show ((1 : Int64) <<< ((28 : Int32) &&& 0x3f).toInt64) = (268435456 : Int64) by decide]
    exact own_pw0 M (268435456 : Int64) ((36 : Int32) - (28 : Int32)) 8 (by decide) (by decide) (by decide) (by decide) (by decide)
  · rw [show k = (29 : Int32) from Int32.toInt_inj.mp q, show ((1 : Int64) <<< ((29 : Int32) &&& 0x3f).toInt64) = (536870912 : Int64) by decide]
    exact own_pw0 M (536870912 : Int64) ((36 : Int32) - (29 : Int32)) 7 (by decide) (by decide) (by decide) (by decide) (by decide)
  · rw [show k = (30 : Int32) from Int32.toInt_inj.mp q, show ((1 : Int64) <<< ((30 : Int32) &&& 0x3f).toInt64) = (1073741824 : Int64) by decide]
    exact own_pw0 M (1073741824 : Int64) ((36 : Int32) - (30 : Int32)) 6 (by decide) (by decide) (by decide) (by decide) (by decide)
  · rw [show k = (31 : Int32) from Int32.toInt_inj.mp q, show ((1 : Int64) <<< ((31 : Int32) &&& 0x3f).toInt64) = (2147483648 : Int64) by decide]
    exact own_pw0 M (2147483648 : Int64) ((36 : Int32) - (31 : Int32)) 5 (by decide) (by decide) (by decide) (by decide) (by decide)
  · rw [show k = (32 : Int32) from Int32.toInt_inj.mp q, show ((1 : Int64) <<< ((32 : Int32) &&& 0x3f).toInt64) = (4294967296 : Int64) by decide]
    exact own_pw0 M (4294967296 : Int64) ((36 : Int32) - (32 : Int32)) 4 (by decide) (by decide) (by decide) (by decide) (by decide)
  · rw [show k = (33 : Int32) from Int32.toInt_inj.mp q, show ((1 : Int64) <<< ((33 : Int32) &&& 0x3f).toInt64) = (8589934592 : Int64) by decide]
    exact own_pw0 M (8589934592 : Int64) ((36 : Int32) - (33 : Int32)) 3 (by decide) (by decide) (by decide) (by decide) (by decide)
  · rw [show k = (34 : Int32) from Int32.toInt_inj.mp q, show ((1 : Int64) <<< ((34 : Int32) &&& 0x3f).toInt64) = (17179869184 : Int64) by decide]
    exact own_pw0 M (17179869184 : Int64) ((36 : Int32) - (34 : Int32)) 2 (by decide) (by decide) (by decide) (by decide) (by decide)
  · rw [show k = (35 : Int32) from Int32.toInt_inj.mp q, show ((1 : Int64) <<< ((35 : Int32) &&& 0x3f).toInt64) = (34359738368 : Int64) by decide]
    exact own_pw0 M (34359738368 : Int64) ((36 : Int32) - (35 : Int32)) 1 (by decide) (by decide) (by decide) (by decide) (by decide)
  · rw [show k = (36 : Int32) from Int32.toInt_inj.mp q, show ((1 : Int64) <<< ((36 : Int32) &&& 0x3f).toInt64) = (68719476736 : Int64) by decide, show (((36 : Int32) - (36 : Int32)) &&& 0x3f).toInt64.toUInt64 = (0 : UInt64) by decide]
    simp
theorem own_z (x y : Int64) : x + ((0 : Int32).toInt64 * y) = x := by
  rw [show (0 : Int32).toInt64 = (0 : Int64) from rfl, Int64.zero_mul, Int64.add_zero]
theorem own_zr (b : Int64) (h1 : 0 ≤ b.toInt) (h2 : b.toInt ≤ 68719476736) : own_pr (0 : Int64) b = (0 : Int64) := by
  apply Int64.toInt_inj.mp
  rw [own_pr_eq _ b h1 h2, show (0 : Int64).toInt = 0 from rfl]; simp
theorem own_mix0 : own_mix (0 : Int64) = (0 : Int64) := by decide
theorem own_mk (j : Int64) : 1 ≤ ((j &&& (34359738367 : Int64)) + (1 : Int64)).toInt ∧ ((j &&& (34359738367 : Int64)) + (1 : Int64)).toInt ≤ 34359738368 := by
  have m := c_maskL j 34359738367 35 (by decide) (by decide)
  rw [own_add m (show (1 : Int64).toInt = 1 from rfl) (by omega) (by omega)]
  omega
theorem own_k37 (i : Int32) : 0 ≤ ((i &&& (2147483647 : Int32)) % (37 : Int32)).toInt ∧ ((i &&& (2147483647 : Int32)) % (37 : Int32)).toInt ≤ 36 := by
  have m := c_mask i 2147483647 31 (by decide) (by decide)
  have r := c_irem (i &&& (2147483647 : Int32)) 37 37 rfl
  omega

set_option maxRecDepth 65536 in
set_option maxHeartbeats 40000000 in
theorem own_bad0 (j0 : Int64) (j1 : Int64) (i2 : Int32) (j3 : Int64) (j4 : Int64) (i5 : Int32) (v1 : Int64) (v2 : Int64) (v3 : Int32) (v5 : Int64) (v7 : Int64) (v9 : Int64) (v11 : Int64) (v13 : Int64) (v15 : Int64) (v17 : Int64) (u18 : Int32) (v20 : Int64) (u21 : Int32) (u23 : Int32) (u25 : Int32) (hv1 : v1 = ((j3 &&& (34359738367 : Int64)) + (1 : Int64))) (hv2 : v2 = ((j4 &&& (34359738367 : Int64)) + (1 : Int64))) (hv3 : v3 = ((i5 &&& (2147483647 : Int32)) % (37 : Int32))) (hv5 : v5 = (own_probe j0 j1 i2 v1)) (hv7 : v7 = (own_probe j0 j1 i2 v2)) (hv9 : v9 = (own_probe j0 j1 i2 (v1 + v2))) (hv11 : v11 = (own_probe j0 j1 i2 (68719476736 : Int64))) (hv13 : v13 = (own_probe j0 j1 i2 ((1 : Int64) <<< (v3 &&& 0x3f).toInt64))) (hv15 : v15 = (own_probe (j0 + ((i2.toInt64) * j1)) j4 (0 : Int32) v1)) (hv17 : v17 = (own_probe (0 : Int64) j1 (0 : Int32) v1)) (hu18 : u18 = (if v5 < (0 : Int64) then (0 : Int32) else (if v5 < v1 then (if v7 < (0 : Int64) then (0 : Int32) else (if v7 < v2 then (if v9 < (0 : Int64) then (0 : Int32) else (if v9 < (v1 + v2) then (if v11 < (0 : Int64) then (0 : Int32) else (if v11 < (68719476736 : Int64) then (1 : Int32) else (0 : Int32))) else (0 : Int32))) else (0 : Int32))) else (0 : Int32)))) (hv20 : v20 = ((v9 - v5) - v7)) (hu21 : u21 = (if v20 = (0 : Int64) then (1 : Int32) else (if v20 = (1 : Int64) then (1 : Int32) else (0 : Int32)))) (hu23 : u23 = (if v13 = ((v11.toUInt64 >>> (((36 : Int32) - v3) &&& 0x3f).toInt64.toUInt64).toInt64) then (1 : Int32) else (0 : Int32))) (hu25 : u25 = (if v15 = v5 then (1 : Int32) else (0 : Int32))) (c261 : u18 = (0 : Int32)) : False := by
  have m1 := own_mk j3; rw [← hv1] at m1
  have m2 := own_mk j4; rw [← hv2] at m2
  have m12 := own_add (x := v1) (y := v2) rfl rfl (by omega) (by omega)
  simp only [own_probe, own_z] at hv5 hv7 hv9 hv11 hv13 hv15 hv17
  have p5 := own_pb (own_mix (j0 + (i2.toInt64 * j1))) v1 m1.1 (by omega); rw [← hv5] at p5
  have p7 := own_pb (own_mix (j0 + (i2.toInt64 * j1))) v2 m2.1 (by omega); rw [← hv7] at p7
  have p9 := own_pb (own_mix (j0 + (i2.toInt64 * j1))) (v1 + v2) (by omega) (by omega); rw [← hv9] at p9
  have p11 := own_pb (own_mix (j0 + (i2.toInt64 * j1))) (68719476736 : Int64) (by decide) (by decide); rw [← hv11] at p11
  rw [if_neg p5.1, if_pos p5.2, if_neg p7.1, if_pos p7.2, if_neg p9.1, if_pos p9.2, if_neg p11.1, if_pos p11.2] at hu18
  rw [hu18] at c261; exact absurd c261 (by decide)
set_option maxRecDepth 65536 in
set_option maxHeartbeats 40000000 in
theorem own_bad1 (j0 : Int64) (j1 : Int64) (i2 : Int32) (j3 : Int64) (j4 : Int64) (i5 : Int32) (v1 : Int64) (v2 : Int64) (v3 : Int32) (v5 : Int64) (v7 : Int64) (v9 : Int64) (v11 : Int64) (v13 : Int64) (v15 : Int64) (v17 : Int64) (u18 : Int32) (v20 : Int64) (u21 : Int32) (u23 : Int32) (u25 : Int32) (hv1 : v1 = ((j3 &&& (34359738367 : Int64)) + (1 : Int64))) (hv2 : v2 = ((j4 &&& (34359738367 : Int64)) + (1 : Int64))) (hv3 : v3 = ((i5 &&& (2147483647 : Int32)) % (37 : Int32))) (hv5 : v5 = (own_probe j0 j1 i2 v1)) (hv7 : v7 = (own_probe j0 j1 i2 v2)) (hv9 : v9 = (own_probe j0 j1 i2 (v1 + v2))) (hv11 : v11 = (own_probe j0 j1 i2 (68719476736 : Int64))) (hv13 : v13 = (own_probe j0 j1 i2 ((1 : Int64) <<< (v3 &&& 0x3f).toInt64))) (hv15 : v15 = (own_probe (j0 + ((i2.toInt64) * j1)) j4 (0 : Int32) v1)) (hv17 : v17 = (own_probe (0 : Int64) j1 (0 : Int32) v1)) (hu18 : u18 = (if v5 < (0 : Int64) then (0 : Int32) else (if v5 < v1 then (if v7 < (0 : Int64) then (0 : Int32) else (if v7 < v2 then (if v9 < (0 : Int64) then (0 : Int32) else (if v9 < (v1 + v2) then (if v11 < (0 : Int64) then (0 : Int32) else (if v11 < (68719476736 : Int64) then (1 : Int32) else (0 : Int32))) else (0 : Int32))) else (0 : Int32))) else (0 : Int32)))) (hv20 : v20 = ((v9 - v5) - v7)) (hu21 : u21 = (if v20 = (0 : Int64) then (1 : Int32) else (if v20 = (1 : Int64) then (1 : Int32) else (0 : Int32)))) (hu23 : u23 = (if v13 = ((v11.toUInt64 >>> (((36 : Int32) - v3) &&& 0x3f).toInt64.toUInt64).toInt64) then (1 : Int32) else (0 : Int32))) (hu25 : u25 = (if v15 = v5 then (1 : Int32) else (0 : Int32))) (c261 : ¬ u18 = (0 : Int32)) (c266 : u21 = (0 : Int32)) : False := by
  have m1 := own_mk j3; rw [← hv1] at m1
  have m2 := own_mk j4; rw [← hv2] at m2
  have m12 := own_add (x := v1) (y := v2) rfl rfl (by omega) (by omega)
  simp only [own_probe, own_z] at hv5 hv7 hv9 hv11 hv13 hv15 hv17
  have z := own_pa (own_mix (j0 + (i2.toInt64 * j1))) v1 v2 (by omega) m1.2 (by omega) m2.2
  rw [← hv5, ← hv7, ← hv9, ← hv20] at z
  rcases z with z | z
  · rw [if_pos z] at hu21; rw [hu21] at c266; exact absurd c266 (by decide)
  · rw [if_neg (by rw [z]; decide), if_pos z] at hu21; rw [hu21] at c266; exact absurd c266 (by decide)
set_option maxRecDepth 65536 in
set_option maxHeartbeats 40000000 in
theorem own_bad2 (j0 : Int64) (j1 : Int64) (i2 : Int32) (j3 : Int64) (j4 : Int64) (i5 : Int32) (v1 : Int64) (v2 : Int64) (v3 : Int32) (v5 : Int64) (v7 : Int64) (v9 : Int64) (v11 : Int64) (v13 : Int64) (v15 : Int64) (v17 : Int64) (u18 : Int32) (v20 : Int64) (u21 : Int32) (u23 : Int32) (u25 : Int32) (hv1 : v1 = ((j3 &&& (34359738367 : Int64)) + (1 : Int64))) (hv2 : v2 = ((j4 &&& (34359738367 : Int64)) + (1 : Int64))) (hv3 : v3 = ((i5 &&& (2147483647 : Int32)) % (37 : Int32))) (hv5 : v5 = (own_probe j0 j1 i2 v1)) (hv7 : v7 = (own_probe j0 j1 i2 v2)) (hv9 : v9 = (own_probe j0 j1 i2 (v1 + v2))) (hv11 : v11 = (own_probe j0 j1 i2 (68719476736 : Int64))) (hv13 : v13 = (own_probe j0 j1 i2 ((1 : Int64) <<< (v3 &&& 0x3f).toInt64))) (hv15 : v15 = (own_probe (j0 + ((i2.toInt64) * j1)) j4 (0 : Int32) v1)) (hv17 : v17 = (own_probe (0 : Int64) j1 (0 : Int32) v1)) (hu18 : u18 = (if v5 < (0 : Int64) then (0 : Int32) else (if v5 < v1 then (if v7 < (0 : Int64) then (0 : Int32) else (if v7 < v2 then (if v9 < (0 : Int64) then (0 : Int32) else (if v9 < (v1 + v2) then (if v11 < (0 : Int64) then (0 : Int32) else (if v11 < (68719476736 : Int64) then (1 : Int32) else (0 : Int32))) else (0 : Int32))) else (0 : Int32))) else (0 : Int32)))) (hv20 : v20 = ((v9 - v5) - v7)) (hu21 : u21 = (if v20 = (0 : Int64) then (1 : Int32) else (if v20 = (1 : Int64) then (1 : Int32) else (0 : Int32)))) (hu23 : u23 = (if v13 = ((v11.toUInt64 >>> (((36 : Int32) - v3) &&& 0x3f).toInt64.toUInt64).toInt64) then (1 : Int32) else (0 : Int32))) (hu25 : u25 = (if v15 = v5 then (1 : Int32) else (0 : Int32))) (c261 : ¬ u18 = (0 : Int32)) (c266 : ¬ u21 = (0 : Int32)) (c271 : u23 = (0 : Int32)) : False := by
  have m1 := own_mk j3; rw [← hv1] at m1
  have m2 := own_mk j4; rw [← hv2] at m2
  have m12 := own_add (x := v1) (y := v2) rfl rfl (by omega) (by omega)
  simp only [own_probe, own_z] at hv5 hv7 hv9 hv11 hv13 hv15 hv17
  have b := own_k37 i5; rw [← hv3] at b
  have z := own_pw (own_mix (j0 + (i2.toInt64 * j1))) v3 b.1 b.2
  rw [← hv13, ← hv11] at z
  rw [if_pos z] at hu23; rw [hu23] at c271; exact absurd c271 (by decide)
set_option maxRecDepth 65536 in
set_option maxHeartbeats 40000000 in
theorem own_bad3 (j0 : Int64) (j1 : Int64) (i2 : Int32) (j3 : Int64) (j4 : Int64) (i5 : Int32) (v1 : Int64) (v2 : Int64) (v3 : Int32) (v5 : Int64) (v7 : Int64) (v9 : Int64) (v11 : Int64) (v13 : Int64) (v15 : Int64) (v17 : Int64) (u18 : Int32) (v20 : Int64) (u21 : Int32) (u23 : Int32) (u25 : Int32) (hv1 : v1 = ((j3 &&& (34359738367 : Int64)) + (1 : Int64))) (hv2 : v2 = ((j4 &&& (34359738367 : Int64)) + (1 : Int64))) (hv3 : v3 = ((i5 &&& (2147483647 : Int32)) % (37 : Int32))) (hv5 : v5 = (own_probe j0 j1 i2 v1)) (hv7 : v7 = (own_probe j0 j1 i2 v2)) (hv9 : v9 = (own_probe j0 j1 i2 (v1 + v2))) (hv11 : v11 = (own_probe j0 j1 i2 (68719476736 : Int64))) (hv13 : v13 = (own_probe j0 j1 i2 ((1 : Int64) <<< (v3 &&& 0x3f).toInt64))) (hv15 : v15 = (own_probe (j0 + ((i2.toInt64) * j1)) j4 (0 : Int32) v1)) (hv17 : v17 = (own_probe (0 : Int64) j1 (0 : Int32) v1)) (hu18 : u18 = (if v5 < (0 : Int64) then (0 : Int32) else (if v5 < v1 then (if v7 < (0 : Int64) then (0 : Int32) else (if v7 < v2 then (if v9 < (0 : Int64) then (0 : Int32) else (if v9 < (v1 + v2) then (if v11 < (0 : Int64) then (0 : Int32) else (if v11 < (68719476736 : Int64) then (1 : Int32) else (0 : Int32))) else (0 : Int32))) else (0 : Int32))) else (0 : Int32)))) (hv20 : v20 = ((v9 - v5) - v7)) (hu21 : u21 = (if v20 = (0 : Int64) then (1 : Int32) else (if v20 = (1 : Int64) then (1 : Int32) else (0 : Int32)))) (hu23 : u23 = (if v13 = ((v11.toUInt64 >>> (((36 : Int32) - v3) &&& 0x3f).toInt64.toUInt64).toInt64) then (1 : Int32) else (0 : Int32))) (hu25 : u25 = (if v15 = v5 then (1 : Int32) else (0 : Int32))) (c261 : ¬ u18 = (0 : Int32)) (c266 : ¬ u21 = (0 : Int32)) (c271 : ¬ u23 = (0 : Int32)) (c276 : u25 = (0 : Int32)) : False := by
  have m1 := own_mk j3; rw [← hv1] at m1
  have m2 := own_mk j4; rw [← hv2] at m2
  have m12 := own_add (x := v1) (y := v2) rfl rfl (by omega) (by omega)
  simp only [own_probe, own_z] at hv5 hv7 hv9 hv11 hv13 hv15 hv17
  rw [if_pos (hv15.trans hv5.symm)] at hu25; rw [hu25] at c276; exact absurd c276 (by decide)
set_option maxRecDepth 65536 in
set_option maxHeartbeats 40000000 in
theorem own_bad4 (j0 : Int64) (j1 : Int64) (i2 : Int32) (j3 : Int64) (j4 : Int64) (i5 : Int32) (v1 : Int64) (v2 : Int64) (v3 : Int32) (v5 : Int64) (v7 : Int64) (v9 : Int64) (v11 : Int64) (v13 : Int64) (v15 : Int64) (v17 : Int64) (u18 : Int32) (v20 : Int64) (u21 : Int32) (u23 : Int32) (u25 : Int32) (hv1 : v1 = ((j3 &&& (34359738367 : Int64)) + (1 : Int64))) (hv2 : v2 = ((j4 &&& (34359738367 : Int64)) + (1 : Int64))) (hv3 : v3 = ((i5 &&& (2147483647 : Int32)) % (37 : Int32))) (hv5 : v5 = (own_probe j0 j1 i2 v1)) (hv7 : v7 = (own_probe j0 j1 i2 v2)) (hv9 : v9 = (own_probe j0 j1 i2 (v1 + v2))) (hv11 : v11 = (own_probe j0 j1 i2 (68719476736 : Int64))) (hv13 : v13 = (own_probe j0 j1 i2 ((1 : Int64) <<< (v3 &&& 0x3f).toInt64))) (hv15 : v15 = (own_probe (j0 + ((i2.toInt64) * j1)) j4 (0 : Int32) v1)) (hv17 : v17 = (own_probe (0 : Int64) j1 (0 : Int32) v1)) (hu18 : u18 = (if v5 < (0 : Int64) then (0 : Int32) else (if v5 < v1 then (if v7 < (0 : Int64) then (0 : Int32) else (if v7 < v2 then (if v9 < (0 : Int64) then (0 : Int32) else (if v9 < (v1 + v2) then (if v11 < (0 : Int64) then (0 : Int32) else (if v11 < (68719476736 : Int64) then (1 : Int32) else (0 : Int32))) else (0 : Int32))) else (0 : Int32))) else (0 : Int32)))) (hv20 : v20 = ((v9 - v5) - v7)) (hu21 : u21 = (if v20 = (0 : Int64) then (1 : Int32) else (if v20 = (1 : Int64) then (1 : Int32) else (0 : Int32)))) (hu23 : u23 = (if v13 = ((v11.toUInt64 >>> (((36 : Int32) - v3) &&& 0x3f).toInt64.toUInt64).toInt64) then (1 : Int32) else (0 : Int32))) (hu25 : u25 = (if v15 = v5 then (1 : Int32) else (0 : Int32))) (c261 : ¬ u18 = (0 : Int32)) (c266 : ¬ u21 = (0 : Int32)) (c271 : ¬ u23 = (0 : Int32)) (c276 : ¬ u25 = (0 : Int32)) (c283 : ¬ v17 = (0 : Int64)) : False := by
  have m1 := own_mk j3; rw [← hv1] at m1
  have m2 := own_mk j4; rw [← hv2] at m2
  have m12 := own_add (x := v1) (y := v2) rfl rfl (by omega) (by omega)
  simp only [own_probe, own_z] at hv5 hv7 hv9 hv11 hv13 hv15 hv17
  rw [own_mix0, own_zr v1 (by omega) (by omega)] at hv17; exact c283 hv17
theorem pn0 : plainName "com/example/membership/membership/ProbeSchemeProbePinLaw" = true := by first | (simp [plainName, overriddenIn]; done) | decide +kernel
theorem ef0 (m : MethodId) (j0 : Int64) (j1 : Int64) (i2 : Int32) (j3 : Int64) (j4 : Int64) (i5 : Int32) : entryFrame m #[(.long j0), (.long j1), (.int i2), (.long j3), (.long j4), (.int i5)] maxLocals = mkF m 0 #[.val (.long j0), .second, .val (.long j1), .second, .val (.int i2), .val (.long j3), .second, .val (.long j4), .second, .val (.int i5), .unset, .unset, .unset, .unset, .unset, .unset, .unset, .unset, .unset, .unset, .unset, .unset, .unset, .unset, .unset, .unset, .unset, .unset, .unset, .unset, .unset, .unset, .unset, .unset, .unset, .unset, .unset] [] := by first | (simp [entryFrame, mkF, argsToLocals, Value.category, maxLocals]; done) | rfl
set_option maxRecDepth 65536 in
set_option maxHeartbeats 40000000 in
theorem rm0 (l : Launch) (Z : State) (a0 : Array Value) (hw : ∀ d ∈ tables_1, d.before a0 Z = true) (j0 : Int64) (j1 : Int64) (i2 : Int32) (j3 : Int64) (j4 : Int64) (i5 : Int32) (h0 : Heap) (n0 : Nat) (Z0 : n0 ≤ h0.size) :
    Ctr l Z x code maxLocals ret room_1 #[(.long j0), (.long j1), (.int i2), (.long j3), (.long j4), (.int i5)] h0 n0 (fun v _ => v = some (.int (1 : Int32))) := by
  refine Ctr.body (L := #[.val (.long j0), .second, .val (.long j1), .second, .val (.int i2), .val (.long j3), .second, .val (.long j4), .second, .val (.int i5), .unset, .unset, .unset, .unset, .unset, .unset, .unset, .unset, .unset, .unset, .unset, .unset, .unset, .unset, .unset, .unset, .unset, .unset, .unset, .unset, .unset, .unset, .unset, .unset, .unset, .unset, .unset]) (plainFor_of_name pn0) Z0 (fun m => ef0 m j0 j1 i2 j3 j4 i5) ?_
  intro p e F m below meth c T0 C0
  refine C0.ldc2 (hw _ (List.mem_of_getElem? (i := 0) rfl)) at_0 rfl ?_
  refine C0.lstore at_3 rfl (L' := #[.val (.long j0), .second, .val (.long j1), .second, .val (.int i2), .val (.long j3), .second, .val (.long j4), .second, .val (.int i5), .val (.long (34359738367 : Int64)), .second, .unset, .unset, .unset, .unset, .unset, .unset, .unset, .unset, .unset, .unset, .unset, .unset, .unset, .unset, .unset, .unset, .unset, .unset, .unset, .unset, .unset, .unset, .unset, .unset, .unset]) rfl ?_
  refine C0.lload at_5 rfl rfl ?_
  refine C0.lload at_7 rfl rfl ?_
  refine C0.land at_9 rfl ?_
  refine C0.lconst (1 : Int64) at_10 rfl rfl ?_
  refine C0.ladd at_11 rfl ?_
  refine C0.lstoreV (fun v => #[.val (.long j0), .second, .val (.long j1), .second, .val (.int i2), .val (.long j3), .second, .val (.long j4), .second, .val (.int i5), .val (.long (34359738367 : Int64)), .second, .val (.long v), .second, .unset, .unset, .unset, .unset, .unset, .unset, .unset, .unset, .unset, .unset, .unset, .unset, .unset, .unset, .unset, .unset, .unset, .unset, .unset, .unset, .unset, .unset, .unset]) at_12 rfl (fun _ => rfl) (fun v1 hv1 => ?_)
  refine C0.lload at_14 rfl rfl ?_
  refine C0.lload at_16 rfl rfl ?_
  refine C0.land at_18 rfl ?_
  refine C0.lconst (1 : Int64) at_19 rfl rfl ?_
  refine C0.ladd at_20 rfl ?_
  refine C0.lstoreV (fun v => #[.val (.long j0), .second, .val (.long j1), .second, .val (.int i2), .val (.long j3), .second, .val (.long j4), .second, .val (.int i5), .val (.long (34359738367 : Int64)), .second, .val (.long v1), .second, .val (.long v), .second, .unset, .unset, .unset, .unset, .unset, .unset, .unset, .unset, .unset, .unset, .unset, .unset, .unset, .unset, .unset, .unset, .unset, .unset, .unset, .unset, .unset]) at_21 rfl (fun _ => rfl) (fun v2 hv2 => ?_)
  refine C0.iload at_23 rfl rfl ?_
  refine C0.ldc (hw _ (List.mem_of_getElem? (i := 1) rfl)) at_25 rfl ?_
  refine C0.iand at_27 rfl ?_
  refine C0.bipush (37 : Int32) at_28 rfl rfl ?_
  refine C0.irem at_30 rfl (by decide) ?_
  refine C0.istoreV (fun v => #[.val (.long j0), .second, .val (.long j1), .second, .val (.int i2), .val (.long j3), .second, .val (.long j4), .second, .val (.int i5), .val (.long (34359738367 : Int64)), .second, .val (.long v1), .second, .val (.long v2), .second, .val (.int v), .unset, .unset, .unset, .unset, .unset, .unset, .unset, .unset, .unset, .unset, .unset, .unset, .unset, .unset, .unset, .unset, .unset, .unset, .unset, .unset]) at_31 rfl (fun _ => rfl) (fun v3 hv3 => ?_)
  refine C0.lloadN at_33 rfl rfl ?_
  refine C0.lloadN at_34 rfl rfl ?_
  refine C0.iload at_35 rfl rfl ?_
  refine C0.lload at_37 rfl rfl ?_
  refine C0.callS (hw _ (List.mem_of_getElem? (i := 2) rfl)) (hw _ (List.mem_of_getElem? (i := 3) rfl)) (hw _ (List.mem_of_getElem? (i := 4) rfl)) (hw _ (List.mem_of_getElem? (i := 5) rfl)) (by decide) (rm1 l Z a0 hw j0 j1 i2 v1 h0 n0 C0.size ) (argsL := [(.long j0), (.long j1), (.int i2), (.long v1)]) pd1 rfl 0 (by decide) (by decide) (by decide) (by decide) (rest := []) rfl rfl (Nat.le_of_eq rfl) at_39 rfl (fun v4 T4 h4 C4 qq4 => ?_)
  obtain ⟨rfl, hh4⟩ := qq4
  have hh4 := hh4.symm; subst hh4
  show Go p e below F n0 (fun v _ => v = some (.int (1 : Int32))) T4 (mkF m 42 #[.val (.long j0), .second, .val (.long j1), .second, .val (.int i2), .val (.long j3), .second, .val (.long j4), .second, .val (.int i5), .val (.long (34359738367 : Int64)), .second, .val (.long v1), .second, .val (.long v2), .second, .val (.int v3), .unset, .unset, .unset, .unset, .unset, .unset, .unset, .unset, .unset, .unset, .unset, .unset, .unset, .unset, .unset, .unset, .unset, .unset, .unset, .unset] [(.long (own_probe j0 j1 i2 v1))])
  refine C4.lstoreV (fun v => #[.val (.long j0), .second, .val (.long j1), .second, .val (.int i2), .val (.long j3), .second, .val (.long j4), .second, .val (.int i5), .val (.long (34359738367 : Int64)), .second, .val (.long v1), .second, .val (.long v2), .second, .val (.int v3), .val (.long v), .second, .unset, .unset, .unset, .unset, .unset, .unset, .unset, .unset, .unset, .unset, .unset, .unset, .unset, .unset, .unset, .unset, .unset, .unset]) at_42 rfl (fun _ => rfl) (fun v5 hv5 => ?_)
  refine C4.lloadN at_44 rfl rfl ?_
  refine C4.lloadN at_45 rfl rfl ?_
  refine C4.iload at_46 rfl rfl ?_
  refine C4.lload at_48 rfl rfl ?_
  refine C4.callS (hw _ (List.mem_of_getElem? (i := 2) rfl)) (hw _ (List.mem_of_getElem? (i := 3) rfl)) (hw _ (List.mem_of_getElem? (i := 4) rfl)) (hw _ (List.mem_of_getElem? (i := 5) rfl)) (by decide) (rm1 l Z a0 hw j0 j1 i2 v2 h0 n0 C4.size ) (argsL := [(.long j0), (.long j1), (.int i2), (.long v2)]) pd1 rfl 0 (by decide) (by decide) (by decide) (by decide) (rest := []) rfl rfl (Nat.le_of_eq rfl) at_50 rfl (fun v6 T6 h6 C6 qq6 => ?_)
  obtain ⟨rfl, hh6⟩ := qq6
  have hh6 := hh6.symm; subst hh6
  show Go p e below F n0 (fun v _ => v = some (.int (1 : Int32))) T6 (mkF m 53 #[.val (.long j0), .second, .val (.long j1), .second, .val (.int i2), .val (.long j3), .second, .val (.long j4), .second, .val (.int i5), .val (.long (34359738367 : Int64)), .second, .val (.long v1), .second, .val (.long v2), .second, .val (.int v3), .val (.long v5), .second, .unset, .unset, .unset, .unset, .unset, .unset, .unset, .unset, .unset, .unset, .unset, .unset, .unset, .unset, .unset, .unset, .unset, .unset] [(.long (own_probe j0 j1 i2 v2))])
  refine C6.lstoreV (fun v => #[.val (.long j0), .second, .val (.long j1), .second, .val (.int i2), .val (.long j3), .second, .val (.long j4), .second, .val (.int i5), .val (.long (34359738367 : Int64)), .second, .val (.long v1), .second, .val (.long v2), .second, .val (.int v3), .val (.long v5), .second, .val (.long v), .second, .unset, .unset, .unset, .unset, .unset, .unset, .unset, .unset, .unset, .unset, .unset, .unset, .unset, .unset, .unset, .unset]) at_53 rfl (fun _ => rfl) (fun v7 hv7 => ?_)
  refine C6.lloadN at_55 rfl rfl ?_
  refine C6.lloadN at_56 rfl rfl ?_
  refine C6.iload at_57 rfl rfl ?_
  refine C6.lload at_59 rfl rfl ?_
  refine C6.lload at_61 rfl rfl ?_
  refine C6.ladd at_63 rfl ?_
  refine C6.callS (hw _ (List.mem_of_getElem? (i := 2) rfl)) (hw _ (List.mem_of_getElem? (i := 3) rfl)) (hw _ (List.mem_of_getElem? (i := 4) rfl)) (hw _ (List.mem_of_getElem? (i := 5) rfl)) (by decide) (rm1 l Z a0 hw j0 j1 i2 (v1 + v2) h0 n0 C6.size ) (argsL := [(.long j0), (.long j1), (.int i2), (.long (v1 + v2))]) pd1 rfl 0 (by decide) (by decide) (by decide) (by decide) (rest := []) rfl rfl (Nat.le_of_eq rfl) at_64 rfl (fun v8 T8 h8 C8 qq8 => ?_)
  obtain ⟨rfl, hh8⟩ := qq8
  have hh8 := hh8.symm; subst hh8
  show Go p e below F n0 (fun v _ => v = some (.int (1 : Int32))) T8 (mkF m 67 #[.val (.long j0), .second, .val (.long j1), .second, .val (.int i2), .val (.long j3), .second, .val (.long j4), .second, .val (.int i5), .val (.long (34359738367 : Int64)), .second, .val (.long v1), .second, .val (.long v2), .second, .val (.int v3), .val (.long v5), .second, .val (.long v7), .second, .unset, .unset, .unset, .unset, .unset, .unset, .unset, .unset, .unset, .unset, .unset, .unset, .unset, .unset, .unset, .unset] [(.long (own_probe j0 j1 i2 (v1 + v2)))])
  refine C8.lstoreV (fun v => #[.val (.long j0), .second, .val (.long j1), .second, .val (.int i2), .val (.long j3), .second, .val (.long j4), .second, .val (.int i5), .val (.long (34359738367 : Int64)), .second, .val (.long v1), .second, .val (.long v2), .second, .val (.int v3), .val (.long v5), .second, .val (.long v7), .second, .val (.long v), .second, .unset, .unset, .unset, .unset, .unset, .unset, .unset, .unset, .unset, .unset, .unset, .unset, .unset, .unset]) at_67 rfl (fun _ => rfl) (fun v9 hv9 => ?_)
  refine C8.lloadN at_69 rfl rfl ?_
  refine C8.lloadN at_70 rfl rfl ?_
  refine C8.iload at_71 rfl rfl ?_
  refine C8.ldc2 (hw _ (List.mem_of_getElem? (i := 13) rfl)) at_73 rfl ?_
  refine C8.callS (hw _ (List.mem_of_getElem? (i := 2) rfl)) (hw _ (List.mem_of_getElem? (i := 3) rfl)) (hw _ (List.mem_of_getElem? (i := 4) rfl)) (hw _ (List.mem_of_getElem? (i := 5) rfl)) (by decide) (rm1 l Z a0 hw j0 j1 i2 (68719476736 : Int64) h0 n0 C8.size ) (argsL := [(.long j0), (.long j1), (.int i2), (.long (68719476736 : Int64))]) pd1 rfl 0 (by decide) (by decide) (by decide) (by decide) (rest := []) rfl rfl (Nat.le_of_eq rfl) at_76 rfl (fun v10 T10 h10 C10 qq10 => ?_)
  obtain ⟨rfl, hh10⟩ := qq10
  have hh10 := hh10.symm; subst hh10
  show Go p e below F n0 (fun v _ => v = some (.int (1 : Int32))) T10 (mkF m 79 #[.val (.long j0), .second, .val (.long j1), .second, .val (.int i2), .val (.long j3), .second, .val (.long j4), .second, .val (.int i5), .val (.long (34359738367 : Int64)), .second, .val (.long v1), .second, .val (.long v2), .second, .val (.int v3), .val (.long v5), .second, .val (.long v7), .second, .val (.long v9), .second, .unset, .unset, .unset, .unset, .unset, .unset, .unset, .unset, .unset, .unset, .unset, .unset, .unset, .unset] [(.long (own_probe j0 j1 i2 (68719476736 : Int64)))])
  refine C10.lstoreV (fun v => #[.val (.long j0), .second, .val (.long j1), .second, .val (.int i2), .val (.long j3), .second, .val (.long j4), .second, .val (.int i5), .val (.long (34359738367 : Int64)), .second, .val (.long v1), .second, .val (.long v2), .second, .val (.int v3), .val (.long v5), .second, .val (.long v7), .second, .val (.long v9), .second, .val (.long v), .second, .unset, .unset, .unset, .unset, .unset, .unset, .unset, .unset, .unset, .unset, .unset, .unset]) at_79 rfl (fun _ => rfl) (fun v11 hv11 => ?_)
  refine C10.lloadN at_81 rfl rfl ?_
  refine C10.lloadN at_82 rfl rfl ?_
  refine C10.iload at_83 rfl rfl ?_
  refine C10.lconst (1 : Int64) at_85 rfl rfl ?_
  refine C10.iload at_86 rfl rfl ?_
  refine C10.lshl at_88 rfl ?_
  refine C10.callS (hw _ (List.mem_of_getElem? (i := 2) rfl)) (hw _ (List.mem_of_getElem? (i := 3) rfl)) (hw _ (List.mem_of_getElem? (i := 4) rfl)) (hw _ (List.mem_of_getElem? (i := 5) rfl)) (by decide) (rm1 l Z a0 hw j0 j1 i2 ((1 : Int64) <<< (v3 &&& 0x3f).toInt64) h0 n0 C10.size ) (argsL := [(.long j0), (.long j1), (.int i2), (.long ((1 : Int64) <<< (v3 &&& 0x3f).toInt64))]) pd1 rfl 0 (by decide) (by decide) (by decide) (by decide) (rest := []) rfl rfl (Nat.le_of_eq rfl) at_89 rfl (fun v12 T12 h12 C12 qq12 => ?_)
  obtain ⟨rfl, hh12⟩ := qq12
  have hh12 := hh12.symm; subst hh12
  show Go p e below F n0 (fun v _ => v = some (.int (1 : Int32))) T12 (mkF m 92 #[.val (.long j0), .second, .val (.long j1), .second, .val (.int i2), .val (.long j3), .second, .val (.long j4), .second, .val (.int i5), .val (.long (34359738367 : Int64)), .second, .val (.long v1), .second, .val (.long v2), .second, .val (.int v3), .val (.long v5), .second, .val (.long v7), .second, .val (.long v9), .second, .val (.long v11), .second, .unset, .unset, .unset, .unset, .unset, .unset, .unset, .unset, .unset, .unset, .unset, .unset] [(.long (own_probe j0 j1 i2 ((1 : Int64) <<< (v3 &&& 0x3f).toInt64)))])
  refine C12.lstoreV (fun v => #[.val (.long j0), .second, .val (.long j1), .second, .val (.int i2), .val (.long j3), .second, .val (.long j4), .second, .val (.int i5), .val (.long (34359738367 : Int64)), .second, .val (.long v1), .second, .val (.long v2), .second, .val (.int v3), .val (.long v5), .second, .val (.long v7), .second, .val (.long v9), .second, .val (.long v11), .second, .val (.long v), .second, .unset, .unset, .unset, .unset, .unset, .unset, .unset, .unset, .unset, .unset]) at_92 rfl (fun _ => rfl) (fun v13 hv13 => ?_)
  refine C12.lloadN at_94 rfl rfl ?_
  refine C12.iload at_95 rfl rfl ?_
  refine C12.i2l at_97 rfl ?_
  refine C12.lloadN at_98 rfl rfl ?_
  refine C12.lmul at_99 rfl ?_
  refine C12.ladd at_100 rfl ?_
  refine C12.lload at_101 rfl rfl ?_
  refine C12.iconst (0 : Int32) at_103 rfl rfl ?_
  refine C12.lload at_104 rfl rfl ?_
  refine C12.callS (hw _ (List.mem_of_getElem? (i := 2) rfl)) (hw _ (List.mem_of_getElem? (i := 3) rfl)) (hw _ (List.mem_of_getElem? (i := 4) rfl)) (hw _ (List.mem_of_getElem? (i := 5) rfl)) (by decide) (rm1 l Z a0 hw (j0 + ((i2.toInt64) * j1)) j4 (0 : Int32) v1 h0 n0 C12.size ) (argsL := [(.long (j0 + ((i2.toInt64) * j1))), (.long j4), (.int (0 : Int32)), (.long v1)]) pd1 rfl 0 (by decide) (by decide) (by decide) (by decide) (rest := []) rfl rfl (Nat.le_of_eq rfl) at_106 rfl (fun v14 T14 h14 C14 qq14 => ?_)
  obtain ⟨rfl, hh14⟩ := qq14
  have hh14 := hh14.symm; subst hh14
  show Go p e below F n0 (fun v _ => v = some (.int (1 : Int32))) T14 (mkF m 109 #[.val (.long j0), .second, .val (.long j1), .second, .val (.int i2), .val (.long j3), .second, .val (.long j4), .second, .val (.int i5), .val (.long (34359738367 : Int64)), .second, .val (.long v1), .second, .val (.long v2), .second, .val (.int v3), .val (.long v5), .second, .val (.long v7), .second, .val (.long v9), .second, .val (.long v11), .second, .val (.long v13), .second, .unset, .unset, .unset, .unset, .unset, .unset, .unset, .unset, .unset, .unset] [(.long (own_probe (j0 + ((i2.toInt64) * j1)) j4 (0 : Int32) v1))])
  refine C14.lstoreV (fun v => #[.val (.long j0), .second, .val (.long j1), .second, .val (.int i2), .val (.long j3), .second, .val (.long j4), .second, .val (.int i5), .val (.long (34359738367 : Int64)), .second, .val (.long v1), .second, .val (.long v2), .second, .val (.int v3), .val (.long v5), .second, .val (.long v7), .second, .val (.long v9), .second, .val (.long v11), .second, .val (.long v13), .second, .val (.long v), .second, .unset, .unset, .unset, .unset, .unset, .unset, .unset, .unset]) at_109 rfl (fun _ => rfl) (fun v15 hv15 => ?_)
  refine C14.lconst (0 : Int64) at_111 rfl rfl ?_
  refine C14.lloadN at_112 rfl rfl ?_
  refine C14.iconst (0 : Int32) at_113 rfl rfl ?_
  refine C14.lload at_114 rfl rfl ?_
  refine C14.callS (hw _ (List.mem_of_getElem? (i := 2) rfl)) (hw _ (List.mem_of_getElem? (i := 3) rfl)) (hw _ (List.mem_of_getElem? (i := 4) rfl)) (hw _ (List.mem_of_getElem? (i := 5) rfl)) (by decide) (rm1 l Z a0 hw (0 : Int64) j1 (0 : Int32) v1 h0 n0 C14.size ) (argsL := [(.long (0 : Int64)), (.long j1), (.int (0 : Int32)), (.long v1)]) pd1 rfl 0 (by decide) (by decide) (by decide) (by decide) (rest := []) rfl rfl (Nat.le_of_eq rfl) at_116 rfl (fun v16 T16 h16 C16 qq16 => ?_)
  obtain ⟨rfl, hh16⟩ := qq16
  have hh16 := hh16.symm; subst hh16
  show Go p e below F n0 (fun v _ => v = some (.int (1 : Int32))) T16 (mkF m 119 #[.val (.long j0), .second, .val (.long j1), .second, .val (.int i2), .val (.long j3), .second, .val (.long j4), .second, .val (.int i5), .val (.long (34359738367 : Int64)), .second, .val (.long v1), .second, .val (.long v2), .second, .val (.int v3), .val (.long v5), .second, .val (.long v7), .second, .val (.long v9), .second, .val (.long v11), .second, .val (.long v13), .second, .val (.long v15), .second, .unset, .unset, .unset, .unset, .unset, .unset, .unset, .unset] [(.long (own_probe (0 : Int64) j1 (0 : Int32) v1))])
  refine C16.lstoreV (fun v => #[.val (.long j0), .second, .val (.long j1), .second, .val (.int i2), .val (.long j3), .second, .val (.long j4), .second, .val (.int i5), .val (.long (34359738367 : Int64)), .second, .val (.long v1), .second, .val (.long v2), .second, .val (.int v3), .val (.long v5), .second, .val (.long v7), .second, .val (.long v9), .second, .val (.long v11), .second, .val (.long v13), .second, .val (.long v15), .second, .val (.long v), .second, .unset, .unset, .unset, .unset, .unset, .unset]) at_119 rfl (fun _ => rfl) (fun v17 hv17 => ?_)
  refine C16.lconst (0 : Int64) at_121 rfl rfl ?_
  refine C16.lload at_122 rfl rfl ?_
  have J190 : ∀ (T19 : State) (u18 : Int32), Cx p l e room_1 m #[(.long j0), (.long j1), (.int i2), (.long j3), (.long j4), (.int i5)] below meth c Z x code maxLocals ret n0 false F T19 h0 0 0 → u18 = (if v5 < (0 : Int64) then (0 : Int32) else (if v5 < v1 then (if v7 < (0 : Int64) then (0 : Int32) else (if v7 < v2 then (if v9 < (0 : Int64) then (0 : Int32) else (if v9 < (v1 + v2) then (if v11 < (0 : Int64) then (0 : Int32) else (if v11 < (68719476736 : Int64) then (1 : Int32) else (0 : Int32))) else (0 : Int32))) else (0 : Int32))) else (0 : Int32))) → Go p e below F n0 (fun v _ => v = some (.int (1 : Int32))) T19 (mkF m 190 #[.val (.long j0), .second, .val (.long j1), .second, .val (.int i2), .val (.long j3), .second, .val (.long j4), .second, .val (.int i5), .val (.long (34359738367 : Int64)), .second, .val (.long v1), .second, .val (.long v2), .second, .val (.int v3), .val (.long v5), .second, .val (.long v7), .second, .val (.long v9), .second, .val (.long v11), .second, .val (.long v13), .second, .val (.long v15), .second, .val (.long v17), .second, .unset, .unset, .unset, .unset, .unset, .unset] [(.int u18)]) := by
    intro T19 u18 C19 hu18
    refine C19.istore at_190 rfl (L' := #[.val (.long j0), .second, .val (.long j1), .second, .val (.int i2), .val (.long j3), .second, .val (.long j4), .second, .val (.int i5), .val (.long (34359738367 : Int64)), .second, .val (.long v1), .second, .val (.long v2), .second, .val (.int v3), .val (.long v5), .second, .val (.long v7), .second, .val (.long v9), .second, .val (.long v11), .second, .val (.long v13), .second, .val (.long v15), .second, .val (.long v17), .second, .val (.int u18), .unset, .unset, .unset, .unset, .unset]) rfl ?_
    refine C19.lload at_192 rfl rfl ?_
    refine C19.lload at_194 rfl rfl ?_
    refine C19.lsub at_196 rfl ?_
    refine C19.lload at_197 rfl rfl ?_
    refine C19.lsub at_199 rfl ?_
    refine C19.lstoreV (fun v => #[.val (.long j0), .second, .val (.long j1), .second, .val (.int i2), .val (.long j3), .second, .val (.long j4), .second, .val (.int i5), .val (.long (34359738367 : Int64)), .second, .val (.long v1), .second, .val (.long v2), .second, .val (.int v3), .val (.long v5), .second, .val (.long v7), .second, .val (.long v9), .second, .val (.long v11), .second, .val (.long v13), .second, .val (.long v15), .second, .val (.long v17), .second, .val (.int u18), .val (.long v), .second, .unset, .unset, .unset]) at_200 rfl (fun _ => rfl) (fun v20 hv20 => ?_)
    refine C19.lload at_202 rfl rfl ?_
    refine C19.lconst (0 : Int64) at_204 rfl rfl ?_
    have J221 : ∀ (T22 : State) (u21 : Int32), Cx p l e room_1 m #[(.long j0), (.long j1), (.int i2), (.long j3), (.long j4), (.int i5)] below meth c Z x code maxLocals ret n0 false F T22 h0 0 0 → u21 = (if v20 = (0 : Int64) then (1 : Int32) else (if v20 = (1 : Int64) then (1 : Int32) else (0 : Int32))) → Go p e below F n0 (fun v _ => v = some (.int (1 : Int32))) T22 (mkF m 221 #[.val (.long j0), .second, .val (.long j1), .second, .val (.int i2), .val (.long j3), .second, .val (.long j4), .second, .val (.int i5), .val (.long (34359738367 : Int64)), .second, .val (.long v1), .second, .val (.long v2), .second, .val (.int v3), .val (.long v5), .second, .val (.long v7), .second, .val (.long v9), .second, .val (.long v11), .second, .val (.long v13), .second, .val (.long v15), .second, .val (.long v17), .second, .val (.int u18), .val (.long v20), .second, .unset, .unset, .unset] [(.int u21)]) := by
      intro T22 u21 C22 hu21
      refine C22.istore at_221 rfl (L' := #[.val (.long j0), .second, .val (.long j1), .second, .val (.int i2), .val (.long j3), .second, .val (.long j4), .second, .val (.int i5), .val (.long (34359738367 : Int64)), .second, .val (.long v1), .second, .val (.long v2), .second, .val (.int v3), .val (.long v5), .second, .val (.long v7), .second, .val (.long v9), .second, .val (.long v11), .second, .val (.long v13), .second, .val (.long v15), .second, .val (.long v17), .second, .val (.int u18), .val (.long v20), .second, .val (.int u21), .unset, .unset]) rfl ?_
      refine C22.lload at_223 rfl rfl ?_
      refine C22.lload at_225 rfl rfl ?_
      refine C22.bipush (36 : Int32) at_227 rfl rfl ?_
      refine C22.iload at_229 rfl rfl ?_
      refine C22.isub at_231 rfl ?_
      refine C22.lushr at_232 rfl ?_
      have J242 : ∀ (T24 : State) (u23 : Int32), Cx p l e room_1 m #[(.long j0), (.long j1), (.int i2), (.long j3), (.long j4), (.int i5)] below meth c Z x code maxLocals ret n0 false F T24 h0 0 0 → u23 = (if v13 = ((v11.toUInt64 >>> (((36 : Int32) - v3) &&& 0x3f).toInt64.toUInt64).toInt64) then (1 : Int32) else (0 : Int32)) → Go p e below F n0 (fun v _ => v = some (.int (1 : Int32))) T24 (mkF m 242 #[.val (.long j0), .second, .val (.long j1), .second, .val (.int i2), .val (.long j3), .second, .val (.long j4), .second, .val (.int i5), .val (.long (34359738367 : Int64)), .second, .val (.long v1), .second, .val (.long v2), .second, .val (.int v3), .val (.long v5), .second, .val (.long v7), .second, .val (.long v9), .second, .val (.long v11), .second, .val (.long v13), .second, .val (.long v15), .second, .val (.long v17), .second, .val (.int u18), .val (.long v20), .second, .val (.int u21), .unset, .unset] [(.int u23)]) := by
        intro T24 u23 C24 hu23
        refine C24.istore at_242 rfl (L' := #[.val (.long j0), .second, .val (.long j1), .second, .val (.int i2), .val (.long j3), .second, .val (.long j4), .second, .val (.int i5), .val (.long (34359738367 : Int64)), .second, .val (.long v1), .second, .val (.long v2), .second, .val (.int v3), .val (.long v5), .second, .val (.long v7), .second, .val (.long v9), .second, .val (.long v11), .second, .val (.long v13), .second, .val (.long v15), .second, .val (.long v17), .second, .val (.int u18), .val (.long v20), .second, .val (.int u21), .val (.int u23), .unset]) rfl ?_
        refine C24.lload at_244 rfl rfl ?_
        refine C24.lload at_246 rfl rfl ?_
        have J257 : ∀ (T26 : State) (u25 : Int32), Cx p l e room_1 m #[(.long j0), (.long j1), (.int i2), (.long j3), (.long j4), (.int i5)] below meth c Z x code maxLocals ret n0 false F T26 h0 0 0 → u25 = (if v15 = v5 then (1 : Int32) else (0 : Int32)) → Go p e below F n0 (fun v _ => v = some (.int (1 : Int32))) T26 (mkF m 257 #[.val (.long j0), .second, .val (.long j1), .second, .val (.int i2), .val (.long j3), .second, .val (.long j4), .second, .val (.int i5), .val (.long (34359738367 : Int64)), .second, .val (.long v1), .second, .val (.long v2), .second, .val (.int v3), .val (.long v5), .second, .val (.long v7), .second, .val (.long v9), .second, .val (.long v11), .second, .val (.long v13), .second, .val (.long v15), .second, .val (.long v17), .second, .val (.int u18), .val (.long v20), .second, .val (.int u21), .val (.int u23), .unset] [(.int u25)]) := by
          intro T26 u25 C26 hu25
          refine C26.istore at_257 rfl (L' := #[.val (.long j0), .second, .val (.long j1), .second, .val (.int i2), .val (.long j3), .second, .val (.long j4), .second, .val (.int i5), .val (.long (34359738367 : Int64)), .second, .val (.long v1), .second, .val (.long v2), .second, .val (.int v3), .val (.long v5), .second, .val (.long v7), .second, .val (.long v9), .second, .val (.long v11), .second, .val (.long v13), .second, .val (.long v15), .second, .val (.long v17), .second, .val (.int u18), .val (.long v20), .second, .val (.int u21), .val (.int u23), .val (.int u25)]) rfl ?_
          refine C26.iload at_259 rfl rfl ?_
          refine C26.if_eq at_261 (by decide) (by decide : _ = 290) rfl (fun c261 => ?_) (fun c261 => ?_)
          · refine C26.iconst (0 : Int32) at_290 rfl rfl ?_
            exact (own_bad0 j0 j1 i2 j3 j4 i5 v1 v2 v3 v5 v7 v9 v11 v13 v15 v17 u18 v20 u21 u23 u25 hv1 hv2 hv3 hv5 hv7 hv9 hv11 hv13 hv15 hv17 hu18 hv20 hu21 hu23 hu25 c261).elim
          · refine C26.iload at_264 rfl rfl ?_
            refine C26.if_eq at_266 (by decide) (by decide : _ = 290) rfl (fun c266 => ?_) (fun c266 => ?_)
            · refine C26.iconst (0 : Int32) at_290 rfl rfl ?_
              exact (own_bad1 j0 j1 i2 j3 j4 i5 v1 v2 v3 v5 v7 v9 v11 v13 v15 v17 u18 v20 u21 u23 u25 hv1 hv2 hv3 hv5 hv7 hv9 hv11 hv13 hv15 hv17 hu18 hv20 hu21 hu23 hu25 c261 c266).elim
            · refine C26.iload at_269 rfl rfl ?_
              refine C26.if_eq at_271 (by decide) (by decide : _ = 290) rfl (fun c271 => ?_) (fun c271 => ?_)
              · refine C26.iconst (0 : Int32) at_290 rfl rfl ?_
                exact (own_bad2 j0 j1 i2 j3 j4 i5 v1 v2 v3 v5 v7 v9 v11 v13 v15 v17 u18 v20 u21 u23 u25 hv1 hv2 hv3 hv5 hv7 hv9 hv11 hv13 hv15 hv17 hu18 hv20 hu21 hu23 hu25 c261 c266 c271).elim
              · refine C26.iload at_274 rfl rfl ?_
                refine C26.if_eq at_276 (by decide) (by decide : _ = 290) rfl (fun c276 => ?_) (fun c276 => ?_)
                · refine C26.iconst (0 : Int32) at_290 rfl rfl ?_
                  exact (own_bad3 j0 j1 i2 j3 j4 i5 v1 v2 v3 v5 v7 v9 v11 v13 v15 v17 u18 v20 u21 u23 u25 hv1 hv2 hv3 hv5 hv7 hv9 hv11 hv13 hv15 hv17 hu18 hv20 hu21 hu23 hu25 c261 c266 c271 c276).elim
                · refine C26.lload at_279 rfl rfl ?_
                  refine C26.lconst (0 : Int64) at_281 rfl rfl ?_
                  refine C26.lif_ne at_282 rfl at_283 (by decide) (by decide : _ = 290) rfl (fun c283 => ?_) (fun c283 => ?_)
                  · refine C26.iconst (0 : Int32) at_290 rfl rfl ?_
                    exact (own_bad4 j0 j1 i2 j3 j4 i5 v1 v2 v3 v5 v7 v9 v11 v13 v15 v17 u18 v20 u21 u23 u25 hv1 hv2 hv3 hv5 hv7 hv9 hv11 hv13 hv15 hv17 hu18 hv20 hu21 hu23 hu25 c261 c266 c271 c276 c283).elim
                  · refine C26.iconst (1 : Int32) at_286 rfl rfl ?_
                    refine C26.goto at_287 (by decide) (by decide : _ = 291) ?_
                    exact C26.retN (t := .boolean) at_291 rfl (by simp) (by decide) (by decide) (w := (1 : Int32)) rfl rfl
        refine C24.lif_ne at_248 rfl at_249 (by decide) (by decide : _ = 256) rfl (fun c249 => ?_) (fun c249 => ?_)
        · refine C24.iconst (0 : Int32) at_256 rfl rfl ?_
          exact J257 _ (0 : Int32) C24 (by simp only [if_neg c249])
        · refine C24.iconst (1 : Int32) at_252 rfl rfl ?_
          refine C24.goto at_253 (by decide) (by decide : _ = 257) ?_
          exact J257 _ (1 : Int32) C24 (by simp only [if_pos c249])
      refine C22.lif_ne at_233 rfl at_234 (by decide) (by decide : _ = 241) rfl (fun c234 => ?_) (fun c234 => ?_)
      · refine C22.iconst (0 : Int32) at_241 rfl rfl ?_
        exact J242 _ (0 : Int32) C22 (by simp only [if_neg c234])
      · refine C22.iconst (1 : Int32) at_237 rfl rfl ?_
        refine C22.goto at_238 (by decide) (by decide : _ = 242) ?_
        exact J242 _ (1 : Int32) C22 (by simp only [if_pos c234])
    refine C19.lif_eq at_205 rfl at_206 (by decide) (by decide : _ = 216) rfl (fun c206 => ?_) (fun c206 => ?_)
    · refine C19.iconst (1 : Int32) at_216 rfl rfl ?_
      refine C19.goto at_217 (by decide) (by decide : _ = 221) ?_
      exact J221 _ (1 : Int32) C19 (by simp only [if_pos c206])
    · refine C19.lload at_209 rfl rfl ?_
      refine C19.lconst (1 : Int64) at_211 rfl rfl ?_
      refine C19.lif_ne at_212 rfl at_213 (by decide) (by decide : _ = 220) rfl (fun c213 => ?_) (fun c213 => ?_)
      · refine C19.iconst (0 : Int32) at_220 rfl rfl ?_
        exact J221 _ (0 : Int32) C19 (by simp only [if_neg c206, if_neg c213])
      · refine C19.iconst (1 : Int32) at_216 rfl rfl ?_
        refine C19.goto at_217 (by decide) (by decide : _ = 221) ?_
        exact J221 _ (1 : Int32) C19 (by simp only [if_neg c206, if_pos c213])
  refine C16.lif_gt at_124 rfl at_125 (by decide) (by decide : _ = 189) rfl (fun c125 => ?_) (fun c125 => ?_)
  · refine C16.iconst (0 : Int32) at_189 rfl rfl ?_
    exact J190 _ (0 : Int32) C16 (by simp only [if_pos c125])
  · refine C16.lload at_128 rfl rfl ?_
    refine C16.lload at_130 rfl rfl ?_
    refine C16.lif_ge at_132 rfl at_133 (by decide) (by decide : _ = 189) rfl (fun c133 => ?_) (fun c133 => ?_)
    · refine C16.iconst (0 : Int32) at_189 rfl rfl ?_
      exact J190 _ (0 : Int32) C16 (by simp only [if_neg c125, if_neg c133])
    · refine C16.lconst (0 : Int64) at_136 rfl rfl ?_
      refine C16.lload at_137 rfl rfl ?_
      refine C16.lif_gt at_139 rfl at_140 (by decide) (by decide : _ = 189) rfl (fun c140 => ?_) (fun c140 => ?_)
      · refine C16.iconst (0 : Int32) at_189 rfl rfl ?_
        exact J190 _ (0 : Int32) C16 (by simp only [if_neg c125, if_pos c133, if_pos c140])
      · refine C16.lload at_143 rfl rfl ?_
        refine C16.lload at_145 rfl rfl ?_
        refine C16.lif_ge at_147 rfl at_148 (by decide) (by decide : _ = 189) rfl (fun c148 => ?_) (fun c148 => ?_)
        · refine C16.iconst (0 : Int32) at_189 rfl rfl ?_
          exact J190 _ (0 : Int32) C16 (by simp only [if_neg c125, if_pos c133, if_neg c140, if_neg c148])
        · refine C16.lconst (0 : Int64) at_151 rfl rfl ?_
          refine C16.lload at_152 rfl rfl ?_
          refine C16.lif_gt at_154 rfl at_155 (by decide) (by decide : _ = 189) rfl (fun c155 => ?_) (fun c155 => ?_)
          · refine C16.iconst (0 : Int32) at_189 rfl rfl ?_
            exact J190 _ (0 : Int32) C16 (by simp only [if_neg c125, if_pos c133, if_neg c140, if_pos c148, if_pos c155])
          · refine C16.lload at_158 rfl rfl ?_
            refine C16.lload at_160 rfl rfl ?_
            refine C16.lload at_162 rfl rfl ?_
            refine C16.ladd at_164 rfl ?_
            refine C16.lif_ge at_165 rfl at_166 (by decide) (by decide : _ = 189) rfl (fun c166 => ?_) (fun c166 => ?_)
            · refine C16.iconst (0 : Int32) at_189 rfl rfl ?_
              exact J190 _ (0 : Int32) C16 (by simp only [if_neg c125, if_pos c133, if_neg c140, if_pos c148, if_neg c155, if_neg c166])
            · refine C16.lconst (0 : Int64) at_169 rfl rfl ?_
              refine C16.lload at_170 rfl rfl ?_
              refine C16.lif_gt at_172 rfl at_173 (by decide) (by decide : _ = 189) rfl (fun c173 => ?_) (fun c173 => ?_)
              · refine C16.iconst (0 : Int32) at_189 rfl rfl ?_
                exact J190 _ (0 : Int32) C16 (by simp only [if_neg c125, if_pos c133, if_neg c140, if_pos c148, if_neg c155, if_pos c166, if_pos c173])
              · refine C16.lload at_176 rfl rfl ?_
                refine C16.ldc2 (hw _ (List.mem_of_getElem? (i := 13) rfl)) at_178 rfl ?_
                refine C16.lif_ge at_181 rfl at_182 (by decide) (by decide : _ = 189) rfl (fun c182 => ?_) (fun c182 => ?_)
                · refine C16.iconst (0 : Int32) at_189 rfl rfl ?_
                  exact J190 _ (0 : Int32) C16 (by simp only [if_neg c125, if_pos c133, if_neg c140, if_pos c148, if_neg c155, if_pos c166, if_neg c173, if_neg c182])
                · refine C16.iconst (1 : Int32) at_185 rfl rfl ?_
                  refine C16.goto at_186 (by decide) (by decide : _ = 190) ?_
                  exact J190 _ (1 : Int32) C16 (by simp only [if_neg c125, if_pos c133, if_neg c140, if_pos c148, if_neg c155, if_pos c166, if_neg c173, if_pos c182])
set_option maxRecDepth 65536 in
set_option maxHeartbeats 40000000 in
theorem comes_1 {Post : Tables → Env → Array Value → State → Outcome → State → Prop} (hpost : ∀ tb e args s v u, (limb_1_1.after args s (.returned v) u = true ∧ limb_1_2.after args s (.returned v) u = true ∧ True) → FrameEnd s (.returned v) u (Jvm.fieldLocs frame_1_writes args s ++ Jvm.arrayLocs frame_1_arrays args s ++ Jvm.staticLocs frame_1_statics s) 0 0 → Post tb e args s (.returned v) u) :
    ArmFor flags0 classFile x code maxLocals ret World_1 tables_1 room_1 Calls_1 rest_1 Pre_1 Post := by
  intro l hfl _ _ p e ha hc hk s m args below hf hA hF happ hP
  obtain ⟨hcalls, hrest, hpre⟩ := hP
  obtain ⟨-, -, -, hnamed, -, -, -, hat⟩ := (Spec.applies_iff hf).mp happ
  obtain ⟨hg, hn⟩ := and_e (Cond.before_iff.mp (show (Jvm.Cond.and given_1 narrow_1).before args s = true from hpre))
  obtain ⟨g1, g2⟩ := and_e hg
  obtain ⟨g3, g4⟩ := and_e g2
  obtain ⟨g5, g6⟩ := and_e g4
  obtain ⟨g7, g8⟩ := and_e g6
  obtain ⟨g9, g10⟩ := and_e g8
  obtain ⟨g11, g12⟩ := and_e g10
  obtain ⟨w0, w1, w2, w3, w4, w5, rfl⟩ : ∃ w0 w1 w2 w3 w4 w5 : Value, args = #[w0, w1, w2, w3, w4, w5] := by
    have hs : args.size = 6 := by simpa [Cond.value, given_1] using g1
    obtain ⟨L⟩ := args
    match L, hs with
    | [w0, w1, w2, w3, w4, w5], _ => exact ⟨w0, w1, w2, w3, w4, w5, rfl⟩
  have hw := fun d (hd : d ∈ tables_1) => atoms_spec (ws := Jvm.Cond.code x code maxLocals ret :: tables_1) hat d (List.mem_cons_of_mem _ hd)
  have hfit : Fit s := fun {y c} hc i hi => by
    obtain ⟨ha, rfl⟩ := Array.getElem?_eq_some_iff.mp hc
    have q := List.all_eq_true.mp ((Array.all_eq_true_iff_forall_mem.mp hF) _ (Array.getElem_mem ha)) i (List.mem_range.mpr hi)
    simpa [Array.getElem?_eq_getElem hi] using q
  obtain ⟨i0, ei0⟩ := isL_v g3
  obtain rfl : w0 = (.long i0) := Option.some.inj ei0
  obtain ⟨i1, ei1⟩ := isL_v g5
  obtain rfl : w1 = (.long i1) := Option.some.inj ei1
  obtain ⟨i2, ei2⟩ := is_v g7
  obtain rfl : w2 = (.int i2) := Option.some.inj ei2
  obtain ⟨i3, ei3⟩ := isL_v g9
  obtain rfl : w3 = (.long i3) := Option.some.inj ei3
  obtain ⟨i4, ei4⟩ := isL_v g11
  obtain rfl : w4 = (.long i4) := Option.some.inj ei4
  obtain ⟨i5, ei5⟩ := is_v g12
  obtain rfl : w5 = (.int i5) := Option.some.inj ei5
  obtain ⟨n, o, h1, h2, h3, _, L, rfl, ⟨⟨rfl, -⟩, N⟩, hq⟩ := rm0 l s _ hw i0 i1 i2 i3 i4 i5 s.heap s.heap.size (Nat.le_refl _) tables_1 p e ha hc hk s m _ below hf ((Spec.applies_iff_loose hf).mp happ).1 ⟨rfl, State.Warmed39.refl s, rfl⟩ trivial
  refine ⟨n, _, h1, h2, h3, hpost _ _ _ _ _ _ ⟨Cond.after_iff.mpr rfl, Cond.after_iff.mpr (eq_i res_at (Term.int_eval (1)) rfl), trivial⟩ ⟨hq.1, hq.2.1, (hq.2.2.sift fun y hy => Or.inr (N y hy)).mono (by decide) (by decide)⟩⟩
theorem main_1_1 : Claimed_1_1 := comes_1 fun _ _ _ _ _ _ h hF => ⟨h.1, hF⟩
theorem main_1_2 : Claimed_1_2 := comes_1 fun _ _ _ _ _ _ h hF => ⟨h.2.1, hF⟩
end Jvm.Pilot.@@N@@
namespace Jvm.Pilot.@@N@@
open Jvm Jvm.ClassFile Sem Op Lib Jvm.Free Jvm.Stand Jvm.Pilot.@@N@@.Jvm.D
/-! MADE BY PROGRAM (witnessworld.py) out of the Statement's table words and the real class files: 10 classes; the members and pool entries that the words name. The judged class is class 1, her method 1. -/
namespace start1
open Jvm.ClassFile
def u (s : String) : CpInfo := .utf8 (stringToUtf16 s)
/-- a pool by its gaps: so many unusable entries, then the entry; so many at the end -/
def gap : Nat → List CpInfo → List CpInfo
  | 0, r => r
  | n + 1, r => .unusable :: gap n r
def poolList (es : List (Nat × CpInfo)) (last : Nat) : List CpInfo := es.foldr (fun e r => gap e.1 (e.2 :: r)) (gap last [])
def pool (es : List (Nat × CpInfo)) (last : Nat) : Array CpInfo := ⟨poolList es last⟩
def fileOf (pool : Array CpInfo) (this : Nat) (attrs : Array Attribute := #[]) (ms : Array MethodInfo := #[]) (fl : Nat := 33) (sup : Nat := 0) (ifs : Array Nat := #[]) (fds : Array FieldInfo := #[]) : ClassFile where
  minorVersion := 0
  majorVersion := 65
  constantPool := pool
  accessFlags := fl
  thisClass := this
  superClass := sup
  interfaces := ifs
  fields := fds
  methods := ms
  attributes := attrs
def plain (name : String) (sup : Option ClassId) : Class where
  name := name
  kind := .ordinary
  loader := none
  accessFlags := 33
  super := sup
  interfaces := #[]
  cf := none
  fields := #[]
  methods := #[]
  instanceTypes := #[]
  staticTypes := #[]
  resolved := #[]
  callSites := []
  init := .initialized
  statics := none
  mirror := none

def pool0 : Array CpInfo := pool [(5, u "<init>"), (0, u "()V"), (1, .class_ 10), (1, u "java/lang/Object")] 113

def k0m0 : Method := { name := "<init>", desc := "()V", sig := { parameters := [], returnType := none }, accessFlags := 1, code := none }
/-- java/lang/Object -/
def k0 : Class := { plain "java/lang/Object" none with
  accessFlags := 33
  interfaces := #[]
  cf := some (fileOf pool0 8 #[] #[{ accessFlags := 1, nameIndex := 5, descriptorIndex := 6, attributes := #[] }] 33 0 #[] #[])
  fields := #[]
  methods := #[k0m0]
  instanceTypes := #[]
  staticTypes := #[]
  resolved := Array.replicate 124 none
  statics := none }

def pool1 : Array CpInfo := pool [(2, .class_ 4), (1, u "java/lang/Object"), (0, u "<init>"), (0, u "()V"), (0, .long 34359738367), (1, .integer 2147483647), (0, .methodref 11 12), (0, .class_ 13), (0, .nameAndType 14 15), (0, u "com/example/membership/membership/ProbeScheme"), (0, u "probe"), (0, u "(JJIJ)J"), (0, .long 68719476736), (1, .class_ 19), (0, u "com/example/membership/membership/ProbeSchemeProbePinLaw"), (2, u "law"), (0, u "(JJIJJI)Z")] 3

def k1m0 : Method := { name := "<init>", desc := "()V", sig := { parameters := [], returnType := none }, accessFlags := 2, code := none }
def k1c1 : Code := { maxStack := 9, maxLocals := 37, code := code, exceptionTable := #[], attributes := #[] }
def k1m1 : Method := { name := "law", desc := "(JJIJJI)Z", sig := { parameters := [.long, .long, .int, .long, .long, .int], returnType := some .boolean }, accessFlags := 9, code := some k1c1 }
/-- com/example/membership/membership/ProbeSchemeProbePinLaw -/
def k1 : Class := { plain "com/example/membership/membership/ProbeSchemeProbePinLaw" (some 0) with
  accessFlags := 49
  interfaces := #[]
  cf := some (fileOf pool1 18 #[] #[{ accessFlags := 2, nameIndex := 5, descriptorIndex := 6, attributes := #[] }, { accessFlags := 9, nameIndex := 22, descriptorIndex := 23, attributes := #[] }] 49 2 #[] #[])
  fields := #[]
  methods := #[k1m0, k1m1]
  instanceTypes := #[]
  staticTypes := #[]
  resolved := Array.replicate 27 none
  statics := none }

def pool2 : Array CpInfo := pool [(2, .class_ 4), (1, u "java/lang/Object"), (0, u "<init>"), (0, u "()V"), (0, .long 13787848793156543929), (1, .long 10723151780598845931), (1, .methodref 12 13), (0, .class_ 14), (0, .nameAndType 15 16), (0, u "java/lang/Math"), (0, u "multiplyHigh"), (0, u "(JJ)J"), (0, .class_ 18), (0, u "com/example/membership/membership/ProbeScheme"), (0, u "ID"), (0, u "I"), (2, u "SEED"), (3, u "probe"), (0, u "(JJIJ)J")] 2

def k2m0 : Method := { name := "<init>", desc := "()V", sig := { parameters := [], returnType := none }, accessFlags := 2, code := none }
def k2c1 : Code := { maxStack := 6, maxLocals := 11, code := prog_13_method_2_code, exceptionTable := #[], attributes := #[] }
def k2m1 : Method := { name := "probe", desc := "(JJIJ)J", sig := { parameters := [.long, .long, .int, .long], returnType := some .long }, accessFlags := 8, code := some k2c1 }
/-- com/example/membership/membership/ProbeScheme -/
def k2 : Class := { plain "com/example/membership/membership/ProbeScheme" (some 0) with
  accessFlags := 32
  interfaces := #[]
  cf := some (fileOf pool2 17 #[] #[{ accessFlags := 2, nameIndex := 5, descriptorIndex := 6, attributes := #[] }, { accessFlags := 8, nameIndex := 27, descriptorIndex := 28, attributes := #[] }] 32 2 #[] #[{ accessFlags := 24, nameIndex := 19, descriptorIndex := 20, attributes := #[] }, { accessFlags := 24, nameIndex := 23, descriptorIndex := 20, attributes := #[] }])
  fields := #[{ name := "ID", type := .int, accessFlags := 24, slot := 0, constantValue := 0 }, { name := "SEED", type := .int, accessFlags := 24, slot := 1, constantValue := 0 }]
  methods := #[k2m0, k2m1]
  instanceTypes := #[]
  staticTypes := #[.int, .int]
  resolved := Array.replicate 31 none
  statics := none }

def pool3 : Array CpInfo := pool [(1, .class_ 2), (0, u "java/lang/Math"), (1, .class_ 6), (1, u "java/lang/Object"), (0, u "<init>"), (0, u "()V"), (89, .class_ 100), (1, u "java/lang/Math$RandomNumberGeneratorHolder"), (20, u "(JJ)J"), (16, .long 4294967295), (3, u "multiplyHigh"), (29, u "negativeZeroFloatBits"), (0, u "J"), (2, u "negativeZeroDoubleBits"), (68, u "$assertionsDisabled"), (0, u "Z"), (91, u "twoToTheDoubleScaleDown"), (0, u "D"), (4, u "twoToTheDoubleScaleUp"), (9, u "E"), (3, u "PI"), (2, u "TAU"), (2, u "DEGREES_TO_RADIANS"), (0, u "RADIANS_TO_DEGREES")] 94

def k3m0 : Method := { name := "<init>", desc := "()V", sig := { parameters := [], returnType := none }, accessFlags := 2, code := none }
def k3c1 : Code := { maxStack := 6, maxLocals := 20, code := jdk_29_method_45_code, exceptionTable := #[], attributes := #[] }
def k3m1 : Method := { name := "multiplyHigh", desc := "(JJ)J", sig := { parameters := [.long, .long], returnType := some .long }, accessFlags := 9, code := some k3c1 }
/-- java/lang/Math -/
def k3 : Class := { plain "java/lang/Math" (some 0) with
  accessFlags := 49
  interfaces := #[]
  cf := some (fileOf pool3 1 #[.nestMembers #[98]] #[{ accessFlags := 2, nameIndex := 7, descriptorIndex := 8, attributes := #[] }, { accessFlags := 9, nameIndex := 142, descriptorIndex := 121, attributes := #[] }] 49 4 #[] #[{ accessFlags := 25, nameIndex := 354, descriptorIndex := 339, attributes := #[] }, { accessFlags := 25, nameIndex := 358, descriptorIndex := 339, attributes := #[] }, { accessFlags := 25, nameIndex := 361, descriptorIndex := 339, attributes := #[] }, { accessFlags := 26, nameIndex := 364, descriptorIndex := 339, attributes := #[] }, { accessFlags := 26, nameIndex := 365, descriptorIndex := 339, attributes := #[] }, { accessFlags := 26, nameIndex := 172, descriptorIndex := 173, attributes := #[] }, { accessFlags := 26, nameIndex := 176, descriptorIndex := 173, attributes := #[] }, { accessFlags := 8, nameIndex := 344, descriptorIndex := 339, attributes := #[] }, { accessFlags := 8, nameIndex := 338, descriptorIndex := 339, attributes := #[] }, { accessFlags := 4120, nameIndex := 245, descriptorIndex := 246, attributes := #[] }])
  fields := #[{ name := "E", type := .double, accessFlags := 25, slot := 0, constantValue := 0 }, { name := "PI", type := .double, accessFlags := 25, slot := 1, constantValue := 0 }, { name := "TAU", type := .double, accessFlags := 25, slot := 2, constantValue := 0 }, { name := "DEGREES_TO_RADIANS", type := .double, accessFlags := 26, slot := 3, constantValue := 0 }, { name := "RADIANS_TO_DEGREES", type := .double, accessFlags := 26, slot := 4, constantValue := 0 }, { name := "negativeZeroFloatBits", type := .long, accessFlags := 26, slot := 5, constantValue := 0 }, { name := "negativeZeroDoubleBits", type := .long, accessFlags := 26, slot := 6, constantValue := 0 }, { name := "twoToTheDoubleScaleUp", type := .double, accessFlags := 8, slot := 7, constantValue := 0 }, { name := "twoToTheDoubleScaleDown", type := .double, accessFlags := 8, slot := 8, constantValue := 0 }, { name := "$assertionsDisabled", type := .boolean, accessFlags := 4120, slot := 9, constantValue := 0 }]
  methods := #[k3m0, k3m1]
  instanceTypes := #[]
  staticTypes := #[.double, .double, .double, .double, .double, .long, .long, .double, .double, .boolean]
  resolved := Array.replicate 460 none
  statics := none }

def pool4 : Array CpInfo := pool [(1, u "java/lang/Cloneable"), (0, .class_ 1), (0, u "java/lang/Object"), (0, .class_ 3)] 3

/-- java/lang/Cloneable -/
def k4 : Class := { plain "java/lang/Cloneable" (some 0) with
  accessFlags := 1537
  interfaces := #[]
  cf := some (fileOf pool4 2 #[] #[] 1537 4 #[] #[])
  fields := #[]
  methods := #[]
  instanceTypes := #[]
  staticTypes := #[]
  resolved := Array.replicate 8 none
  statics := none }

def pool5 : Array CpInfo := pool [(1, u "java/io/Serializable"), (0, .class_ 1), (0, u "java/lang/Object"), (0, .class_ 3)] 3

/-- java/io/Serializable -/
def k5 : Class := { plain "java/io/Serializable" (some 0) with
  accessFlags := 1537
  interfaces := #[]
  cf := some (fileOf pool5 2 #[] #[] 1537 4 #[] #[])
  fields := #[]
  methods := #[]
  instanceTypes := #[]
  staticTypes := #[]
  resolved := Array.replicate 8 none
  statics := none }

/-- the primitive byte -/
def k6 : Class := { plain "byte" none with kind := .primitive 'B', accessFlags := 0x411 }
/-- [B -/
def k7 : Class := { plain "[B" (some 0) with kind := .array 6 .byte, interfaces := #[4, 5], accessFlags := 1041 }

/-- the primitive int -/
def k8 : Class := { plain "int" none with kind := .primitive 'I', accessFlags := 0x411 }
/-- [I -/
def k9 : Class := { plain "[I" (some 0) with kind := .array 8 .int, interfaces := #[4, 5], accessFlags := 1041 }

def heap : Heap := #[]
def classes : Array Class := #[k0, k1, k2, k3, k4, k5, k6, k7, k8, k9]
def interned : List (Array UInt16 × Addr) := []
def slotsUsed : Nat := 0
def theMethod : MethodId := ⟨1, 1⟩
def args0 : Array Value := #[.long 5, .long 7, .int 9, .long 1, .long 3, .int 4]
def aboutOver (below : List Frame) : State where
  vm := { classes := classes, interned := interned.toArray }
  heap := heap
  slotsUsed := slotsUsed
  threads := #[{ frames := .invoking theMethod args0 :: below }]
def below0 : List Frame := [.native { method := ⟨0, 0⟩, args := #[] }]
def about1 : State := aboutOver below0
def p0 : Program := .bare "" "" ""
def e0 : Env := launch0.env 0 0 0
theorem w_frames : about1.frames = Frame.invoking theMethod args0 :: below0 := rfl
set_option maxRecDepth 65536 in
theorem w_args : argsFit about1.vm theMethod args0 = true := by decide +kernel
set_option maxRecDepth 65536 in
theorem w_heap : heapFits about1 = true := by decide +kernel
set_option maxRecDepth 65536 in
theorem w_runnable : about1.curStatus? = some .runnable := by decide +kernel
set_option maxRecDepth 65536 in
theorem w_alone : about1.alone = true := by decide +kernel
set_option maxRecDepth 65536 in
theorem w_named : about1.methodNamed? x = some theMethod := by decide +kernel
set_option maxRecDepth 65536 in
theorem w_hears : about1.hears theMethod below0 = true := by decide +kernel
set_option maxRecDepth 65536 in
theorem w_ripe : about1.ripe theMethod args0 below0 = true := by decide +kernel
theorem w_running : about1.status = .running := rfl
set_option maxRecDepth 65536 in
theorem w_room : about1.hasRoom e0.platform room_1 = true :=
  launch0.hasRoom_least _ room_1 (by decide +kernel) (by decide +kernel) (by decide +kernel) (by decide +kernel) (by decide +kernel) (by decide +kernel)
theorem allAtoms_all (ts : List Jvm.Cond) (a : Array Jvm.Value) (st : Jvm.State) : (allAtoms ts).before a st = ts.all (fun c => c.before a st) := by
  induction ts with
  | nil => rfl
  | cons c t ih =>
    show (Jvm.Cond.and c (allAtoms t)).before a st = _
    rw [Jvm.Cond.before_and, ih, List.all_cons]
def words1 : List Jvm.Cond := Jvm.Cond.code x code maxLocals ret :: tables_1
/-- a 'code' word, met by the world's own term for the bytes: nothing is compared byte by byte -/
theorem code_word {y : MethodName} {bytes : ByteArray} {mx : Nat} {rt : Option FieldType} {a : Array Value} {s : State} {m : MethodId} {meth : Method} {c : Code} (h1 : s.methodNamed? y = some m) (h2 : s.vm.method? m = some meth) (h3 : meth.code = some c) (h4 : c.code = bytes)
    (h5 : (c.maxLocals == mx && c.exceptionTable.isEmpty && decide (c.maxStack ≤ mostOperands) && decide (meth.sig.returnType = rt) && !meth.locks && decide (parseMethodDescriptor y.desc = some meth.sig)) = true) : (Jvm.Cond.code y bytes mx rt).before a s = true := by
  simp only [Bool.and_eq_true, beq_iff_eq, Bool.not_eq_true', decide_eq_true_eq] at h5
  obtain ⟨⟨⟨⟨⟨g1, g2⟩, g3⟩, g4⟩, g5⟩, g6⟩ := h5
  simp [Cond.before, Cond.holds, Cond.value, h1, h2, h3, h4, g1, g2, g3, g4, g5, g6]
def isCode : Jvm.Cond → Bool
  | .code _ _ _ _ => true
  | _ => false
theorem all_split {L : List Jvm.Cond} {P : Jvm.Cond → Bool} (h1 : L.all (fun c => isCode c || P c) = true) (h2 : ∀ c ∈ L.filter isCode, P c = true) : L.all P = true := by
  refine List.all_eq_true.mpr fun c hc => ?_
  have h := List.all_eq_true.mp h1 c hc
  rcases Bool.eq_false_or_eq_true (isCode c) with hi | hi
  · exact h2 c (List.mem_filter.mpr ⟨hc, hi⟩)
  · simpa [hi] using h
set_option maxRecDepth 65536 in
theorem w_c0 : (Jvm.Cond.code x code maxLocals ret).before args0 about1 = true := code_word (m := ⟨1, 1⟩) (meth := k1m1) (c := k1c1) (by decide +kernel) rfl rfl rfl (by decide +kernel)
set_option maxRecDepth 65536 in
theorem w_c1 : (Jvm.Cond.code ({ cls := "com/example/membership/membership/ProbeScheme", name := "probe", desc := "(JJIJ)J" } : Jvm.MethodName) prog_13_method_2_code (11 : Nat) (Option.some Jvm.ClassFile.FieldType.long)).before args0 about1 = true := code_word (m := ⟨2, 1⟩) (meth := k2m1) (c := k2c1) (by decide +kernel) rfl rfl rfl (by decide +kernel)
set_option maxRecDepth 65536 in
theorem w_c2 : (Jvm.Cond.code ({ cls := "java/lang/Math", name := "multiplyHigh", desc := "(JJ)J" } : Jvm.MethodName) jdk_29_method_45_code (20 : Nat) (Option.some Jvm.ClassFile.FieldType.long)).before args0 about1 = true := code_word (m := ⟨3, 1⟩) (meth := k3m1) (c := k3c1) (by decide +kernel) rfl rfl rfl (by decide +kernel)
def codes1 : List Jvm.Cond := [Jvm.Cond.code x code maxLocals ret, Jvm.Cond.code ({ cls := "com/example/membership/membership/ProbeScheme", name := "probe", desc := "(JJIJ)J" } : Jvm.MethodName) prog_13_method_2_code (11 : Nat) (Option.some Jvm.ClassFile.FieldType.long), Jvm.Cond.code ({ cls := "java/lang/Math", name := "multiplyHigh", desc := "(JJ)J" } : Jvm.MethodName) jdk_29_method_45_code (20 : Nat) (Option.some Jvm.ClassFile.FieldType.long)]
set_option maxRecDepth 65536 in
theorem codes_eq : words1.filter isCode = codes1 := rfl
theorem w_codes : ∀ c ∈ words1.filter isCode, c.before args0 about1 = true := by
  rw [codes_eq]
  intro c hc
  simp only [codes1, List.mem_cons, List.not_mem_nil, or_false] at hc
  rcases hc with rfl | rfl | rfl
  · exact w_c0
  · exact w_c1
  · exact w_c2
set_option maxRecDepth 65536 in
theorem w_t1 : words1.all (fun c => isCode c || c.before args0 about1) = true := by decide +kernel
theorem w_tables : (allAtoms (Jvm.Cond.code x code maxLocals ret :: tables_1)).before args0 about1 = true := by
  rw [allAtoms_all]
  show words1.all (fun c => c.before args0 about1) = true
  refine all_split ?_ w_codes
  rw [w_t1]
set_option maxRecDepth 65536 in
theorem w_case : (Jvm.Cond.and given_1 narrow_1).before args0 about1 = true := by decide +kernel
theorem w_applies : (headSpec (Jvm.Cond.code x code maxLocals ret :: tables_1) room_1).applies x e0.platform about1 = true :=
  (Spec.applies_iff w_frames).mpr ⟨w_running, w_runnable, w_alone, w_named, w_hears, w_ripe, w_room, w_tables⟩
theorem atStart : AtStart classFile x code maxLocals ret World_1 tables_1 room_1 Calls_1 rest_1 Pre_1 launch0 p0 e0 about1 theMethod args0 below0 :=
  ⟨lists_1, trivial, launch0.admits_env _ _ _, launch0.least_env, fairChoices_fair.cas, fairChoices_fair.clock, w_frames, w_args, w_heap, w_applies, trivial, trivial, w_case⟩
end start1
theorem witness_1 : WitnessClaimed_1 := ⟨start1.p0, start1.e0, start1.about1, start1.theMethod, start1.args0, start1.below0, start1.atStart⟩
end Jvm.Pilot.@@N@@
