import JvmDerived
import JvmDerived.Pilot.@@N@@Statement
import JvmDerived.Pilot.@@N@@Code
set_option linter.unusedVariables false
set_option linter.unusedSimpArgs false
namespace Jvm.Ow
open Sem ClassFile Op Lib Jvm.Stand Jvm.Free Jvm.LawKit Jvm.RoadKit
def WideEnd (s : State) (o : Outcome) (t : State) (L : List Loc) (k n : Nat) : Prop :=
  (∃ v : Option Value, o = Outcome.returned v) ∧ s.Warmed39 t.vm ∧ (∀ (j : Nat) (p : Array UInt16 × Addr), s.vm.interned.size ≤ j → t.vm.interned[j]? = some p → s.heap.size ≤ p.2 ∧ p.2 < t.heap.size) ∧ s.sameButNew { t with vm := s.vm } L k n
def EndF (wd : Bool) (s : State) (o : Outcome) (t : State) (L : List Loc) (k n : Nat) : Prop := match wd with
  | true => WideEnd s o t L k n
  | false => FrameEnd s o t L k n
theorem EndF.of {wd : Bool} {s : State} {o : Outcome} {t : State} {L : List Loc} {k n : Nat} (h : FrameEnd s o t L k n) : EndF wd s o t L k n := by
  cases wd
  · exact h
  · exact wide h
def Cx (p : Program) (l : Launch) (e : Env) (R : Room) (m : MethodId) (args : Array Value) (below : List Frame) (meth : Method) (c : Code) (Z : State) (y : MethodName) (bytes : ByteArray) (ml : Nat) (ret : Option FieldType) (n0 : Nat) (wd : Bool) (F : Outcome → State → List Loc → Prop) (T : State) (h : Heap) (cells slots : Nat) : Prop :=
  ∃ s locs, Stand p l e R s m args below meth c T locs cells slots ∧ p.tables.exec = Jvm.exec ∧ c.code = bytes ∧ c.maxLocals = ml ∧ Z.Warmed39 s.vm ∧ s.vm.findClass y.cls = some m.cls ∧ meth.name = y.name ∧ meth.sig.returnType = ret ∧ meth.locks = false ∧ T.heap = h ∧ Fr n0 locs ∧ n0 ≤ s.heap.size ∧ ∀ o t L, h.size ≤ t.heap.size → EndF wd s o t L R.cells R.slots → F o t L
def Go (p : Program) (e : Env) (below : List Frame) (F : Outcome → State → List Loc → Prop) (n0 : Nat) (Q : Option Value → Heap → Prop) (T : State) (f : JFrame) : Prop :=
  ∃ s₂ o, Steps p.tables e below (T.setTop f) s₂ ∧ s₂.status = .running ∧ Ended s₂ below o ∧ ∃ v L, o = .returned v ∧ (Q v s₂.heap ∧ Fr n0 L ∧ n0 ≤ s₂.heap.size) ∧ F o s₂ L
def Ctr (l : Launch) (Z : State) (y : MethodName) (bytes : ByteArray) (ml : Nat) (ret : Option FieldType) (R : Room) (as' : Array Value) (h : Heap) (n0 : Nat) (Q : Option Value → Heap → Prop) : Prop :=
  ∀ ws : List Jvm.Cond, MetFree l y (head1 (Jvm.Cond.code y bytes ml ret :: ws) R) (fun a U => a = as' ∧ Z.Warmed39 U.vm ∧ U.heap = h) (fun _ _ _ _ _ => True) (fun _ U o U' => ∃ v L, o = .returned v ∧ ((Q v U'.heap ∧ h.size ≤ U'.heap.size) ∧ Fr n0 L) ∧ FrameEnd U o U' L R.cells R.slots)
section Layer
variable {p : Program} {l : Launch} {e : Env} {R : Room} {m : MethodId} {args : Array Value} {below : List Frame} {meth : Method} {c : Code} {T T' : State} {cells slots : Nat} {Z : State} {a0 : Array Value} {h : Heap} {y : MethodName} {bytes : ByteArray} {ml n0 : Nat} {ret : Option FieldType} {wd : Bool} {F : Outcome → State → List Loc → Prop} {Q : Option Value → Heap → Prop} {pc pc' : Nat} {L L' : Array Slot} {S : List Value}
theorem Ctr.body {as' : Array Value} (hpl : plainFor y = true) (hn : n0 ≤ h.size) (ef : ∀ m, entryFrame m as' ml = mkF m 0 L [])
    (k : ∀ (p : Program) (e : Env) (F : Outcome → State → List Loc → Prop) (m : MethodId) (below : List Frame) (meth : Method) (c : Code) (T : State), Cx p l e R m as' below meth c Z y bytes ml ret n0 false F T h 0 0 → Go p e below F n0 Q T (mkF m 0 L [])) : Ctr l Z y bytes ml ret R as' h n0 Q := by
  intro ws
  refine MetFree.of_bodySF hpl hisR ?_
  intro p e s m args below meth c s₁ Bd hml0 hP hK
  obtain ⟨rfl, hZ, hh⟩ := hP
  obtain ⟨s₂, o, g1, g2, g3, v, L9, g4, ⟨g5, g6, -⟩, g7⟩ := k p e (fun o t L => FrameEnd s o t L R.cells R.slots) m below meth c s₁ ⟨s, [], Stand.of_body Bd, Bd.exec, Bd.bytes, hml0, hZ, findClass_of_methodNamed Bd.named, (name_of_methodNamed Bd.named Bd.method).1, Bd.returns, Bd.notSynchronized, by rw [← hh, Bd.state]; rfl, Fr.nil n0, by rw [hh]; exact hn, fun _ _ _ _ q => q⟩
  rw [ef m]
  exact ⟨s₂, o, g1, g2, g3, v, L9, g4, ⟨⟨g5, by rw [← hh]; exact g7.2.2.2.1⟩, g6⟩, g7⟩
theorem Go.via {f f' : JFrame} (k : Go p e below F n0 Q T' f') (hs : ∀ t, Steps p.tables e below (T'.setTop f') t → Steps p.tables e below (T.setTop f) t) : Go p e below F n0 Q T f := by
  obtain ⟨s₂, o, h1, h2⟩ := k; exact ⟨s₂, o, hs _ h1, h2⟩
theorem Cx.size (C : Cx p l e R m args below meth c Z y bytes ml ret n0 wd F T h cells slots) : n0 ≤ h.size := by
  obtain ⟨s, locs, X, -, -, -, -, -, -, -, -, rfl, -, hn, -⟩ := C
  exact Nat.le_trans hn X.same.2.1
theorem Cx.iloadN (C : Cx p l e R m args below meth c Z y bytes ml ret n0 wd F T h cells slots) {k : Fin 4} {v : Int32} (hd : decode bytes pc = .ok (.iload_n k, 1)) (hp : pc + 1 = pc') (hl : L[k.val]? = some (.val (.int v))) (K : Go p e below F n0 Q T (mkF m pc' L (.int v :: S))) : Go p e below F n0 Q T (mkF m pc L S) := by
  obtain ⟨s, locs, X, hx, rfl, -⟩ := C; subst hp
  exact K.via fun t k => XS.iloadN X.here hx rfl hd hl k
theorem Cx.iload (C : Cx p l e R m args below meth c Z y bytes ml ret n0 wd F T h cells slots) {k : Nat} {v : Int32} (hd : decode bytes pc = .ok (.iload k, 2)) (hp : pc + 2 = pc') (hl : L[k]? = some (.val (.int v))) (K : Go p e below F n0 Q T (mkF m pc' L (.int v :: S))) : Go p e below F n0 Q T (mkF m pc L S) := by
  obtain ⟨s, locs, X, hx, rfl, -⟩ := C; subst hp
  exact K.via fun t k => XS.iload X.here hx rfl hd hl k
theorem Cx.istore (C : Cx p l e R m args below meth c Z y bytes ml ret n0 wd F T h cells slots) {k : Nat} {x : Int32} (hd : decode bytes pc = .ok (.istore k, 2)) (hp : pc + 2 = pc') (hl : storeLocals L k (.int x) = some L') (K : Go p e below F n0 Q T (mkF m pc' L' S)) : Go p e below F n0 Q T (mkF m pc L (.int x :: S)) := by
  obtain ⟨s, locs, X, hx, rfl, -⟩ := C; subst hp
  exact K.via fun t k => XS.istore X.here hx rfl hd rfl hl k
theorem Cx.istoreV (C : Cx p l e R m args below meth c Z y bytes ml ret n0 wd F T h cells slots) {k : Nat} {x : Int32} (Lf : Int32 → Array Slot) (hd : decode bytes pc = .ok (.istore k, 2)) (hp : pc + 2 = pc') (hl : ∀ v, storeLocals L k (.int v) = some (Lf v)) (K : ∀ v, v = x → Go p e below F n0 Q T (mkF m pc' (Lf v) S)) : Go p e below F n0 Q T (mkF m pc L (.int x :: S)) :=
  C.istore hd hp (hl x) (K x rfl)
theorem Cx.lloadN (C : Cx p l e R m args below meth c Z y bytes ml ret n0 wd F T h cells slots) {k : Fin 4} {v : Int64} (hd : decode bytes pc = .ok (.lload_n k, 1)) (hp : pc + 1 = pc') (hl : L[k.val]? = some (.val (.long v))) (K : Go p e below F n0 Q T (mkF m pc' L (.long v :: S))) : Go p e below F n0 Q T (mkF m pc L S) := by
  obtain ⟨s, locs, X, hx, rfl, -⟩ := C; subst hp
  exact K.via fun t k => XT.lloadN X.here hx rfl hd hl k
theorem Cx.lload (C : Cx p l e R m args below meth c Z y bytes ml ret n0 wd F T h cells slots) {k : Nat} {v : Int64} (hd : decode bytes pc = .ok (.lload k, 2)) (hp : pc + 2 = pc') (hl : L[k]? = some (.val (.long v))) (K : Go p e below F n0 Q T (mkF m pc' L (.long v :: S))) : Go p e below F n0 Q T (mkF m pc L S) := by
  obtain ⟨s, locs, X, hx, rfl, -⟩ := C; subst hp
  exact K.via fun t k => XT.lload X.here hx rfl hd hl k
theorem Cx.lstore (C : Cx p l e R m args below meth c Z y bytes ml ret n0 wd F T h cells slots) {k : Nat} {x : Int64} (hd : decode bytes pc = .ok (.lstore k, 2)) (hp : pc + 2 = pc') (hl : storeLocals L k (.long x) = some L') (K : Go p e below F n0 Q T (mkF m pc' L' S)) : Go p e below F n0 Q T (mkF m pc L (.long x :: S)) := by
  obtain ⟨s, locs, X, hx, rfl, -⟩ := C; subst hp
  exact K.via fun t k => XT.lstore X.here hx rfl hd rfl hl k
theorem Cx.lstoreV (C : Cx p l e R m args below meth c Z y bytes ml ret n0 wd F T h cells slots) {k : Nat} {x : Int64} (Lf : Int64 → Array Slot) (hd : decode bytes pc = .ok (.lstore k, 2)) (hp : pc + 2 = pc') (hl : ∀ v, storeLocals L k (.long v) = some (Lf v)) (K : ∀ v, v = x → Go p e below F n0 Q T (mkF m pc' (Lf v) S)) : Go p e below F n0 Q T (mkF m pc L (.long x :: S)) :=
  C.lstore hd hp (hl x) (K x rfl)
theorem Cx.aloadN (C : Cx p l e R m args below meth c Z y bytes ml ret n0 wd F T h cells slots) {k : Fin 4} {v : Value} (hd : decode bytes pc = .ok (.aload_n k, 1)) (hp : pc + 1 = pc') (hl : L[k.val]? = some (.val v)) (hv : v.isRef = true) (K : Go p e below F n0 Q T (mkF m pc' L (v :: S))) : Go p e below F n0 Q T (mkF m pc L S) := by
  obtain ⟨s, locs, X, hx, rfl, -⟩ := C; subst hp
  exact K.via fun t k => XS.aloadN X.here hx rfl hd hl hv k
theorem Cx.aload (C : Cx p l e R m args below meth c Z y bytes ml ret n0 wd F T h cells slots) {k : Nat} {v : Value} (hd : decode bytes pc = .ok (.aload k, 2)) (hp : pc + 2 = pc') (hl : L[k]? = some (.val v)) (hv : v.isRef = true) (K : Go p e below F n0 Q T (mkF m pc' L (v :: S))) : Go p e below F n0 Q T (mkF m pc L S) := by
  obtain ⟨s, locs, X, hx, rfl, -⟩ := C; subst hp
  exact K.via fun t k => XS.aload X.here hx rfl hd hl hv k
theorem Cx.astore (C : Cx p l e R m args below meth c Z y bytes ml ret n0 wd F T h cells slots) {k : Nat} {x : Value} (hd : decode bytes pc = .ok (.astore k, 2)) (hp : pc + 2 = pc') (hv : x.isRef = true) (hl : storeLocals L k x = some L') (K : Go p e below F n0 Q T (mkF m pc' L' S)) : Go p e below F n0 Q T (mkF m pc L (x :: S)) := by
  obtain ⟨s, locs, X, hx, rfl, -⟩ := C; subst hp
  exact K.via fun t k => XS.astore X.here hx rfl hd rfl hv hl k
theorem Cx.iconst (C : Cx p l e R m args below meth c Z y bytes ml ret n0 wd F T h cells slots) {i : Int} (v : Int32) (hd : decode bytes pc = .ok (.iconst i, 1)) (hp : pc + 1 = pc') (hv : Int32.ofInt i = v) (K : Go p e below F n0 Q T (mkF m pc' L (.int v :: S))) : Go p e below F n0 Q T (mkF m pc L S) := by
  obtain ⟨s, locs, X, hx, rfl, -⟩ := C; subst hp
  exact K.via fun t k => XT.iconstV X.here hx rfl v hd hv k
theorem Cx.bipush (C : Cx p l e R m args below meth c Z y bytes ml ret n0 wd F T h cells slots) {i : Int} (v : Int32) (hd : decode bytes pc = .ok (.bipush i, 2)) (hp : pc + 2 = pc') (hv : (Int8.ofInt i).toInt32 = v) (K : Go p e below F n0 Q T (mkF m pc' L (.int v :: S))) : Go p e below F n0 Q T (mkF m pc L S) := by
  obtain ⟨s, locs, X, hx, rfl, -⟩ := C; subst hp
  exact K.via fun t k => XT.bipushV X.here hx rfl v hd hv k
theorem Cx.lconst (C : Cx p l e R m args below meth c Z y bytes ml ret n0 wd F T h cells slots) {i : Fin 2} (v : Int64) (hd : decode bytes pc = .ok (.lconst i, 1)) (hp : pc + 1 = pc') (hv : Int64.ofNat i = v) (K : Go p e below F n0 Q T (mkF m pc' L (.long v :: S))) : Go p e below F n0 Q T (mkF m pc L S) := by
  obtain ⟨s, locs, X, hx, rfl, -⟩ := C; subst hp
  exact K.via fun t k => XT.lconstV X.here hx rfl v hd hv k
theorem Cx.iadd (C : Cx p l e R m args below meth c Z y bytes ml ret n0 wd F T h cells slots) {x z : Int32} (hd : decode bytes pc = .ok (.iadd, 1)) (hp : pc + 1 = pc')  (K : Go p e below F n0 Q T (mkF m pc' L (.int (x + z) :: S))) : Go p e below F n0 Q T (mkF m pc L (.int z :: .int x :: S)) := by
  obtain ⟨s, locs, X, hx, rfl, -⟩ := C; subst hp
  exact K.via fun t k => XS.iadd X.here hx rfl hd rfl k
theorem Cx.isub (C : Cx p l e R m args below meth c Z y bytes ml ret n0 wd F T h cells slots) {x z : Int32} (hd : decode bytes pc = .ok (.isub, 1)) (hp : pc + 1 = pc')  (K : Go p e below F n0 Q T (mkF m pc' L (.int (x - z) :: S))) : Go p e below F n0 Q T (mkF m pc L (.int z :: .int x :: S)) := by
  obtain ⟨s, locs, X, hx, rfl, -⟩ := C; subst hp
  exact K.via fun t k => XS.isub X.here hx rfl hd rfl k
theorem Cx.iand (C : Cx p l e R m args below meth c Z y bytes ml ret n0 wd F T h cells slots) {x z : Int32} (hd : decode bytes pc = .ok (.iand, 1)) (hp : pc + 1 = pc')  (K : Go p e below F n0 Q T (mkF m pc' L (.int (x &&& z) :: S))) : Go p e below F n0 Q T (mkF m pc L (.int z :: .int x :: S)) := by
  obtain ⟨s, locs, X, hx, rfl, -⟩ := C; subst hp
  exact K.via fun t k => XS.iand X.here hx rfl hd rfl k
theorem Cx.ladd (C : Cx p l e R m args below meth c Z y bytes ml ret n0 wd F T h cells slots) {x z : Int64} (hd : decode bytes pc = .ok (.ladd, 1)) (hp : pc + 1 = pc')  (K : Go p e below F n0 Q T (mkF m pc' L (.long (x + z) :: S))) : Go p e below F n0 Q T (mkF m pc L (.long z :: .long x :: S)) := by
  obtain ⟨s, locs, X, hx, rfl, -⟩ := C; subst hp
  exact K.via fun t k => XT.ladd X.here hx rfl hd rfl k
theorem Cx.land (C : Cx p l e R m args below meth c Z y bytes ml ret n0 wd F T h cells slots) {x z : Int64} (hd : decode bytes pc = .ok (.land, 1)) (hp : pc + 1 = pc')  (K : Go p e below F n0 Q T (mkF m pc' L (.long (x &&& z) :: S))) : Go p e below F n0 Q T (mkF m pc L (.long z :: .long x :: S)) := by
  obtain ⟨s, locs, X, hx, rfl, -⟩ := C; subst hp
  exact K.via fun t k => XT.land X.here hx rfl hd rfl k
theorem Cx.iushr (C : Cx p l e R m args below meth c Z y bytes ml ret n0 wd F T h cells slots) {x z : Int32} (hd : decode bytes pc = .ok (.iushr, 1)) (hp : pc + 1 = pc')  (K : Go p e below F n0 Q T (mkF m pc' L (.int ((x.toUInt32 >>> (z &&& 31).toUInt32).toInt32) :: S))) : Go p e below F n0 Q T (mkF m pc L (.int z :: .int x :: S)) := by
  obtain ⟨s, locs, X, hx, rfl, -⟩ := C; subst hp
  exact K.via fun t k => XS.iushr X.here hx rfl hd rfl k
theorem Cx.lushr (C : Cx p l e R m args below meth c Z y bytes ml ret n0 wd F T h cells slots) {x : Int64} {z : Int32} (hd : decode bytes pc = .ok (.lushr, 1)) (hp : pc + 1 = pc')  (K : Go p e below F n0 Q T (mkF m pc' L (.long ((x.toUInt64 >>> (z &&& 0x3f).toInt64.toUInt64).toInt64) :: S))) : Go p e below F n0 Q T (mkF m pc L (.int z :: .long x :: S)) := by
  obtain ⟨s, locs, X, hx, rfl, -⟩ := C; subst hp
  exact K.via fun t k => XS.lushr X.here hx rfl hd rfl k
theorem Cx.irem (C : Cx p l e R m args below meth c Z y bytes ml ret n0 wd F T h cells slots) {x z : Int32} (hd : decode bytes pc = .ok (.irem, 1)) (hp : pc + 1 = pc') (hz : z ≠ 0) (K : Go p e below F n0 Q T (mkF m pc' L (.int (x % z) :: S))) : Go p e below F n0 Q T (mkF m pc L (.int z :: .int x :: S)) := by
  obtain ⟨s, locs, X, hx, rfl, -⟩ := C; subst hp
  exact K.via fun t k => iremM X hx rfl hd rfl hz k
theorem Cx.i2l (C : Cx p l e R m args below meth c Z y bytes ml ret n0 wd F T h cells slots) {x : Int32} (hd : decode bytes pc = .ok (.i2l, 1)) (hp : pc + 1 = pc')  (K : Go p e below F n0 Q T (mkF m pc' L (.long (x.toInt64) :: S))) : Go p e below F n0 Q T (mkF m pc L (.int x :: S)) := by
  obtain ⟨s, locs, X, hx, rfl, -⟩ := C; subst hp
  exact K.via fun t k => XT.i2l X.here hx rfl hd rfl k
theorem Cx.goto (C : Cx p l e R m args below meth c Z y bytes ml ret n0 wd F T h cells slots) {o : Int} (hd : decode bytes pc = .ok (.goto o, 3)) (ho : 0 ≤ (pc : Int) + o) (hp : ((pc : Int) + o).toNat = pc') (K : Go p e below F n0 Q T (mkF m pc' L S)) : Go p e below F n0 Q T (mkF m pc L S) := by
  obtain ⟨s, locs, X, hx, rfl, -⟩ := C
  exact K.via fun t k => XS.goto X.here hx rfl rfl hd ho hp k
theorem Cx.icmp_ne (C : Cx p l e R m args below meth c Z y bytes ml ret n0 wd F T h cells slots) {x z : Int32} {o : Int} {py pn : Nat} (hd : decode bytes pc = .ok (.if_icmp .ne o, 3)) (ho : 0 ≤ (pc : Int) + o) (hy : ((pc : Int) + o).toNat = py) (hn : pc + 3 = pn) (K1 : ¬ x = z → Go p e below F n0 Q T (mkF m py L S)) (K2 : x = z → Go p e below F n0 Q T (mkF m pn L S)) : Go p e below F n0 Q T (mkF m pc L (.int z :: .int x :: S)) := by
  obtain ⟨s, locs, X, hx, rfl, -⟩ := C; subst hn
  by_cases q : x = z
  · exact (K2 q).via fun t k => XS.icmpNo X.here hx rfl hd rfl (XT.ii_ne_f q) k
  · exact (K1 q).via fun t k => XS.icmpYes X.here hx rfl rfl hd rfl (XT.ii_ne_t q) ho hy k
theorem Cx.if_ne (C : Cx p l e R m args below meth c Z y bytes ml ret n0 wd F T h cells slots) {x : Int32} {o : Int} {py pn : Nat} (hd : decode bytes pc = .ok (.ifCond .ne o, 3)) (ho : 0 ≤ (pc : Int) + o) (hy : ((pc : Int) + o).toNat = py) (hn : pc + 3 = pn) (K1 : ¬ x = (0 : Int32) → Go p e below F n0 Q T (mkF m py L S)) (K2 : x = (0 : Int32) → Go p e below F n0 Q T (mkF m pn L S)) : Go p e below F n0 Q T (mkF m pc L (.int x :: S)) := by
  obtain ⟨s, locs, X, hx, rfl, -⟩ := C; subst hn
  by_cases q : x = (0 : Int32)
  · exact (K2 q).via fun t k => XS.ifNo X.here hx rfl hd rfl (XT.i0_ne_f q) k
  · exact (K1 q).via fun t k => XS.ifYes X.here hx rfl rfl hd rfl (XT.i0_ne_t q) ho hy k
theorem Cx.icmp_lt (C : Cx p l e R m args below meth c Z y bytes ml ret n0 wd F T h cells slots) {x z : Int32} {o : Int} {py pn : Nat} (hd : decode bytes pc = .ok (.if_icmp .lt o, 3)) (ho : 0 ≤ (pc : Int) + o) (hy : ((pc : Int) + o).toNat = py) (hn : pc + 3 = pn) (K1 : x < z → Go p e below F n0 Q T (mkF m py L S)) (K2 : ¬ x < z → Go p e below F n0 Q T (mkF m pn L S)) : Go p e below F n0 Q T (mkF m pc L (.int z :: .int x :: S)) := by
  obtain ⟨s, locs, X, hx, rfl, -⟩ := C; subst hn
  by_cases q : x < z
  · exact (K1 q).via fun t k => XS.icmpYes X.here hx rfl rfl hd rfl (XT.ii_lt_t q) ho hy k
  · exact (K2 q).via fun t k => XS.icmpNo X.here hx rfl hd rfl (XT.ii_lt_f q) k
theorem Cx.icmp_ge (C : Cx p l e R m args below meth c Z y bytes ml ret n0 wd F T h cells slots) {x z : Int32} {o : Int} {py pn : Nat} (hd : decode bytes pc = .ok (.if_icmp .ge o, 3)) (ho : 0 ≤ (pc : Int) + o) (hy : ((pc : Int) + o).toNat = py) (hn : pc + 3 = pn) (K1 : ¬ x < z → Go p e below F n0 Q T (mkF m py L S)) (K2 : x < z → Go p e below F n0 Q T (mkF m pn L S)) : Go p e below F n0 Q T (mkF m pc L (.int z :: .int x :: S)) := by
  obtain ⟨s, locs, X, hx, rfl, -⟩ := C; subst hn
  by_cases q : x < z
  · exact (K2 q).via fun t k => XS.icmpNo X.here hx rfl hd rfl (XT.ii_ge_f q) k
  · exact (K1 q).via fun t k => XS.icmpYes X.here hx rfl rfl hd rfl (XT.ii_ge_t q) ho hy k
theorem Cx.icmp_gt (C : Cx p l e R m args below meth c Z y bytes ml ret n0 wd F T h cells slots) {x z : Int32} {o : Int} {py pn : Nat} (hd : decode bytes pc = .ok (.if_icmp .gt o, 3)) (ho : 0 ≤ (pc : Int) + o) (hy : ((pc : Int) + o).toNat = py) (hn : pc + 3 = pn) (K1 : z < x → Go p e below F n0 Q T (mkF m py L S)) (K2 : ¬ z < x → Go p e below F n0 Q T (mkF m pn L S)) : Go p e below F n0 Q T (mkF m pc L (.int z :: .int x :: S)) := by
  obtain ⟨s, locs, X, hx, rfl, -⟩ := C; subst hn
  by_cases q : z < x
  · exact (K1 q).via fun t k => XS.icmpYes X.here hx rfl rfl hd rfl (XT.ii_gt_t q) ho hy k
  · exact (K2 q).via fun t k => XS.icmpNo X.here hx rfl hd rfl (XT.ii_gt_f q) k
theorem Cx.lif_gt (C : Cx p l e R m args below meth c Z y bytes ml ret n0 wd F T h cells slots) {x z : Int64} {o : Int} {p1 py pn : Nat} (hd1 : decode bytes pc = .ok (.lcmp, 1)) (hp1 : pc + 1 = p1) (hd : decode bytes p1 = .ok (.ifCond .gt o, 3)) (ho : 0 ≤ (p1 : Int) + o) (hy : ((p1 : Int) + o).toNat = py) (hn : p1 + 3 = pn) (K1 : z < x → Go p e below F n0 Q T (mkF m py L S)) (K2 : ¬ z < x → Go p e below F n0 Q T (mkF m pn L S)) : Go p e below F n0 Q T (mkF m pc L (.long z :: .long x :: S)) := by
  obtain ⟨s, locs, X, hx, rfl, -⟩ := C; subst hn; subst hp1
  by_cases q : z < x
  · exact (K1 q).via fun t k => XT.lcmp X.here hx rfl hd1 rfl (XS.ifYes X.here hx rfl rfl hd rfl (XT.ll_gt_t q) ho hy k)
  · exact (K2 q).via fun t k => XT.lcmp X.here hx rfl hd1 rfl (XS.ifNo X.here hx rfl hd rfl (XT.ll_gt_f q) k)
theorem Cx.icmp_le (C : Cx p l e R m args below meth c Z y bytes ml ret n0 wd F T h cells slots) {x z : Int32} {o : Int} {py pn : Nat} (hd : decode bytes pc = .ok (.if_icmp .le o, 3)) (ho : 0 ≤ (pc : Int) + o) (hy : ((pc : Int) + o).toNat = py) (hn : pc + 3 = pn) (K1 : ¬ z < x → Go p e below F n0 Q T (mkF m py L S)) (K2 : z < x → Go p e below F n0 Q T (mkF m pn L S)) : Go p e below F n0 Q T (mkF m pc L (.int z :: .int x :: S)) := by
  obtain ⟨s, locs, X, hx, rfl, -⟩ := C; subst hn
  by_cases q : z < x
  · exact (K2 q).via fun t k => XS.icmpNo X.here hx rfl hd rfl (XT.ii_le_f q) k
  · exact (K1 q).via fun t k => XS.icmpYes X.here hx rfl rfl hd rfl (XT.ii_le_t q) ho hy k
theorem Cx.done (C : Cx p l e R m args below meth c Z y bytes ml ret n0 wd F T h cells slots) {v : Option Value} (hv : ret = none → v = none) (hc : cells ≤ R.cells) (hs : slots ≤ R.slots) (hq : Q v h) {f : JFrame}
    (k : ∀ s locs fs, Stand p l e R s m args below meth c T locs cells slots → (∀ (f : JFrame) (acts : List Action), f.method = m → f.locked = none → f.entered = [] → (doReturn e (T.setTop f) acts v).1 = T.setFrames fs) → Steps p.tables e below (T.setTop f) (T.setFrames fs)) : Go p e below F n0 Q T f := by
  have hz := C.size
  obtain ⟨s, locs, X, hx, rfl, rfl, hZ, hown, hnm, rfl, hlk, rfl, N, hn, hF⟩ := C
  obtain ⟨fs, hr, hrun, hended, hW, hsame⟩ := X.leave (v := v) hv
  exact ⟨_, _, k s locs fs X hr, hrun, hended, v, locs, rfl, ⟨hq, N, hz⟩, hF _ _ _ (Nat.le_refl _) (EndF.of ⟨⟨v, rfl⟩, hW, hsame.mono hc hs⟩)⟩
theorem Cx.retI (C : Cx p l e R m args below meth c Z y bytes ml ret n0 wd F T h cells slots) {z : Int32} (hd : decode bytes pc = .ok (.ireturn, 1)) (hret : ret = some .int) (hc : cells ≤ R.cells) (hs : slots ≤ R.slots) (hq : Q (some (.int z)) h) : Go p e below F n0 Q T (mkF m pc L (.int z :: S)) := by
  refine C.done (fun q => by rw [hret] at q; cases q) hc hs hq fun s locs fs X hr => ?_
  obtain ⟨_, _, -, hx, rfl, -, -, -, -, rfl, -⟩ := C
  exact retOut X hx hret rfl (Or.inl ⟨rfl, Or.inl rfl, _, rfl⟩) hd hr
theorem Cx.retN (C : Cx p l e R m args below meth c Z y bytes ml ret n0 wd F T h cells slots) {z w : Int32} {t : FieldType} (hd : decode bytes pc = .ok (.ireturn, 1)) (hret : ret = some t) (ht : t = .boolean ∨ t = .byte ∨ t = .char ∨ t = .short) (hc : cells ≤ R.cells) (hs : slots ≤ R.slots) (hw : nar t z = w) (hq : Q (some (.int w)) h) : Go p e below F n0 Q T (mkF m pc L (.int z :: S)) := by
  subst hw
  refine C.done (fun q => by rw [hret] at q; cases q) hc hs hq fun s locs fs X hr => ?_
  obtain ⟨_, _, -, hx, rfl, -, -, -, -, rfl, -⟩ := C
  exact Jvm.RoadKit.retN X hx hret ht hd hr
theorem Cx.retJ (C : Cx p l e R m args below meth c Z y bytes ml ret n0 wd F T h cells slots) {z : Int64} (hd : decode bytes pc = .ok (.lreturn, 1)) (hret : ret = some .long) (hc : cells ≤ R.cells) (hs : slots ≤ R.slots) (hq : Q (some (.long z)) h) : Go p e below F n0 Q T (mkF m pc L (.long z :: S)) := by
  refine C.done (fun q => by rw [hret] at q; cases q) hc hs hq fun s locs fs X hr => ?_
  obtain ⟨_, _, -, hx, rfl, -, -, -, -, rfl, -⟩ := C
  exact retOut X hx hret rfl (Or.inr (Or.inl ⟨rfl, rfl, _, rfl⟩)) hd hr
theorem Cx.ldc2 (C : Cx p l e R m args below meth c Z y bytes ml ret n0 wd F T h cells slots) {idx : Nat} {v : Int64} (w : (Jvm.Cond.constantLong y.cls idx v).before a0 Z = true) (hd : decode bytes pc = .ok (.ldc2_w idx, 3)) (hp : pc + 3 = pc') (K : Go p e below F n0 Q T (mkF m pc' L (.long v :: S))) : Go p e below F n0 Q T (mkF m pc L S) := by
  obtain ⟨s, locs, X, hx, rfl, rfl, hZ, hown, -⟩ := C; subst hp
  exact K.via fun t k => X.ldc2Long hx hown (mvT hZ w) (g := mkF m pc L S) rfl hd t k
theorem Cx.callS (C : Cx p l e R m args below meth c Z y bytes ml ret n0 wd F T h cells slots) {idx : Nat} {y' : MethodName} {bytes' : ByteArray} {ml' : Nat} {ret' : Option FieldType} {R' : Room} {Q' : Option Value → Heap → Prop} {argsL : List Value} (w1 : (Jvm.Cond.methodLink y.cls idx y').before a0 Z = true) (w2 : (Jvm.Cond.static y').before a0 Z = true) (w3 : (Jvm.Cond.initialized y'.cls).before a0 Z = true) (w4 : (Jvm.Cond.code y' bytes' ml' ret').before a0 Z = true)
    (hy : y'.cls ≠ "java/lang/invoke/MethodHandle" ∧ y'.cls ≠ "java/lang/invoke/VarHandle") (M : Ctr l Z y' bytes' ml' ret' R' argsL.toArray h n0 Q') {ps : List FieldType} {rt : Option FieldType} (hpd : parseMethodDescriptor y'.desc = some ⟨ps, rt⟩) (hlen : argsL.length = ps.length)
    (W : Nat) (hf : R'.frames + 1 ≤ R.frames) (hl : W + (ml' + 11) + R'.locals ≤ R.locals) (hc : cells + R'.cells ≤ R.cells) (hs : slots + R'.slots ≤ R.slots) {rest : List Value} (hst : S = argsL.reverse ++ rest) (hsz : L.size = ml) (hW : (rest.map fun v => v.category).sum ≤ W)
    (hd : decode bytes pc = .ok (.invokestatic idx, 3)) (hp : pc + 3 = pc') (K : ∀ v T' h', Cx p l e R m args below meth c Z y bytes ml ret n0 wd F T' h' (cells + R'.cells) (slots + R'.slots) → Q' v h' → Go p e below F n0 Q T' (mkF m pc' L (v.toList ++ rest))) : Go p e below F n0 Q T (mkF m pc L S) := by
  obtain ⟨s, locs, X, hx, rfl, rfl, hZ, hown, hnm, hr, hlk, eT, N, hn, hF⟩ := C; subst hp
  obtain ⟨v, _, ⟨T', L', k', n'⟩, -, X', ⟨Lc, hQ, e1, e2, e3⟩, st⟩ := Jvm.LawKit.callS X hx (y := y') hown (mvT hZ w1) (mvT hZ w2) (mvT hZ w3) (mvT hZ w4) hy (backOf (W := W) (Q := fun v h9 L => (Q' v h9 ∧ h.size ≤ h9.size) ∧ Fr n0 L) (M []) hZ w4 w3 hf hl) (g := mkF m pc L S) rfl hsz (argsL := argsL) (rest := rest) (lenOf hpd hlen) hst (by show 2 * 0 + _ ≤ _; omega) hd (fun _ _ => ⟨rfl, eT, hc, hs⟩)
  dsimp only [Pt.U, Pt.locs, Pt.cells, Pt.slots] at X' e1 e2 e3 st hQ
  subst e1 e2 e3
  exact (K v T' T'.heap ⟨s, _, X', hx, rfl, rfl, hZ, hown, hnm, hr, hlk, rfl, N.app hQ.2, hn, fun o t L q => hF o t L (Nat.le_trans hQ.1.2 q)⟩ hQ.1.1).via st
theorem Cx.new (C : Cx p l e R m args below meth c Z y bytes ml ret n0 wd F T h cells slots) {idx n : Nat} {Cl : String} (w : (Jvm.Cond.classLink y.cls idx Cl).before a0 Z = true) (wi : (Jvm.Cond.instantiable Cl n).before a0 Z = true) (wz : (Jvm.Cond.initialized Cl).before a0 Z = true) (hd : decode bytes pc = .ok (.new idx, 3)) (hp : pc + 3 = pc') (hc : cells + 1 ≤ R.cells) (hl : slots + n ≤ R.slots)
    (K : ∀ T' h' b, Cx p l e R m args below meth c Z y bytes ml ret n0 wd F T' h' (cells + 1) (slots + n) → b = h.size → n0 ≤ b → Ext h h' → Exa Z h' b Cl → (∀ {O nm d : String} {ty : FieldType}, Laid Z a0 Cl O nm d → parseFieldDescriptor d = some ty → Fld Z h' b O nm d (defaultValue ty)) → Go p e below F n0 Q T' (mkF m pc' L (.ref b :: S))) : Go p e below F n0 Q T (mkF m pc L S) := by
  have hz := C.size
  obtain ⟨s, locs, X, hx, rfl, rfl, hZ, hown, hnm, hr, hlk, eT, N, hn, hF⟩ := C; subst hp
  obtain ⟨T', h', X', e', E, A, D, -, st⟩ := newO X hx hZ hown w wi wz eT (g := mkF m pc L S) rfl hd hc hl
  exact (K T' h' h.size ⟨s, locs, X', hx, rfl, rfl, hZ, hown, hnm, hr, hlk, e', N, hn, fun o t L q => hF o t L (Nat.le_trans E.1 q)⟩ rfl hz E A D).via st
theorem Cx.newarr (C : Cx p l e R m args below meth c Z y bytes ml ret n0 wd F T h cells slots) {aty : ArrayType} (w : (Jvm.Cond.arrayClass (newarray.typeOf aty)).before a0 Z = true) {n : Int32} (cap : Nat) (hn0 : ¬ n < 0) (hcap : n.toNatClampNeg ≤ cap) (hb : cap * 8 ≤ 536870912) (hc : cells + 1 ≤ R.cells) (hl : slots + cap ≤ R.slots) (hd : decode bytes pc = .ok (.newarray aty, 2)) (hp : pc + 2 = pc')
    (K : ∀ T' h' b k, Cx p l e R m args below meth c Z y bytes ml ret n0 wd F T' h' (cells + 1) (slots + cap) → b = h.size → n0 ≤ b → Ext h h' → Arv Z h' b k (newarray.typeOf aty) n (List.replicate cap (defaultValue (newarray.typeOf aty))) (defaultValue (newarray.typeOf aty)) → Go p e below F n0 Q T' (mkF m pc' L (.ref b :: S))) : Go p e below F n0 Q T (mkF m pc L (.int n :: S)) := by
  have hz := C.size
  obtain ⟨s, locs, X, hx, rfl, rfl, hZ, hown, hnm, hr, hlk, eT, N, hn, hF⟩ := C; subst hp
  obtain ⟨T', h', cA, X', e', E, A, st⟩ := newP X hx hZ w eT (g := mkF m pc L (.int n :: S)) rfl hd rfl hn0 (cap := cap) hcap hb hc hl
  exact (K T' h' h.size cA ⟨s, locs, X', hx, rfl, rfl, hZ, hown, hnm, hr, hlk, e', N, hn, fun o t L q => hF o t L (Nat.le_trans E.1 q)⟩ rfl hz E ((Arv.new A hn0).pad (pad_rep [] _ cap))).via st
theorem Cx.lastore (C : Cx p l e R m args below meth c Z y bytes ml ret n0 wd F T h cells slots) {a : Addr} {k : ClassId} {n j : Int32} {x : Int64} {vs : List Value} {dv : Value} (A : Arv Z h a k .long n vs dv) (hj : ¬ j < 0 ∧ j < n) (hlen : j.toNatClampNeg < vs.length) (g : n0 ≤ a) (hd : decode bytes pc = .ok (.lastore, 1)) (hp : pc + 1 = pc')
    (K : ∀ T' h', Cx p l e R m args below meth c Z y bytes ml ret n0 wd F T' h' cells slots → Wr h h' a j.toNatClampNeg (.long x) → Arv Z h' a k .long n (vs.set j.toNatClampNeg (.long x)) dv → Go p e below F n0 Q T' (mkF m pc' L S)) : Go p e below F n0 Q T (mkF m pc L (.long x :: .int j :: .ref a :: S)) := by
  obtain ⟨s, locs, X, hx, rfl, rfl, hZ, hown, hnm, hr, hlk, eT, N, hn, hF⟩ := C; subst hp
  obtain ⟨cl, Ar, q1, Sz, q3, H, G⟩ := A
  obtain ⟨T', h', X', e', W, st⟩ := stJ X hx hZ eT Ar (j := j) (inb_of Sz hj) (g := mkF m pc L (.long x :: .int j :: .ref a :: S)) rfl rfl hd
  exact (K T' h' ⟨s, _, X', hx, rfl, rfl, hZ, hown, hnm, hr, hlk, e', Fr.snoc X' N g, hn, fun o t L q => hF o t L (W.size ▸ q)⟩ W (Arv.set Ar q1 Sz q3 H G rfl W _ rfl hlen)).via st
theorem Cx.laload (C : Cx p l e R m args below meth c Z y bytes ml ret n0 wd F T h cells slots) {a : Addr} {k : ClassId} {n j : Int32} {v : Int64} {vs : List Value} {dv : Value} (A : Arv Z h a k .long n vs dv) (hj : ¬ j < 0 ∧ j < n) (hv : vs.getD j.toNatClampNeg dv = .long v) (hd : decode bytes pc = .ok (.laload, 1)) (hp : pc + 1 = pc') (K : Go p e below F n0 Q T (mkF m pc' L (.long v :: S))) : Go p e below F n0 Q T (mkF m pc L (.int j :: .ref a :: S)) := by
  obtain ⟨s, locs, X, hx, rfl, rfl, hZ, hown, hnm, hr, hlk, eT, N, hn, hF⟩ := C; subst hp
  obtain ⟨cl, Ar, q1, Sz, q3, H, G⟩ := A
  exact K.via fun t k => X.laload hx (j := j) (by rw [eT]; exact Ar.1) (State.isArrayOf_alike hZ.alike Ar.2.1) Ar.2.2 (inb_of Sz hj) (H.at (inb_of Sz hj) hv) (g := mkF m pc L (.int j :: .ref a :: S)) rfl rfl hd t k
end Layer
end Jvm.Ow
namespace Jvm.Pilot.@@N@@
open Jvm Jvm.ClassFile Sem Op Lib Jvm.Free Jvm.Stand Jvm.LawKit Jvm.RoadKit Bundle Jvm.Ow Jvm.Pilot.@@N@@.Jvm.D
theorem own_getI (l : List Int32) (i : Nat) : (l.map Value.int).getD i (.int 0) = .int (l.getD i 0) := by
  simp only [List.getD_eq_getElem?_getD, List.getElem?_map]; cases l[i]? <;> rfl
theorem own_getJ (l : List Int64) (i : Nat) : (l.map Value.long).getD i (.long 0) = .long (l.getD i 0) := by
  simp only [List.getD_eq_getElem?_getD, List.getElem?_map]; cases l[i]? <;> rfl
theorem own_eqite {α : Type} {P : Prop} [Decidable P] {u a b : α} : (u = if P then a else b) ↔ ((P ∧ u = a) ∨ (¬ P ∧ u = b)) := by by_cases h : P <;> simp [h]
theorem own_iteeq {α : Type} {P : Prop} [Decidable P] {u a b : α} : ((if P then a else b) = u) ↔ ((P ∧ a = u) ∨ (¬ P ∧ b = u)) := by by_cases h : P <;> simp [h]
def loopA (g : Int32 → Int64) (t : Int64) : Nat → Int32 → Int32 → Int32
  | 0, b, _ => b
  | k + 1, b, n => if (1 : Int32) < n then loopA g t k (if t < g (b + ((n.toUInt32 >>> ((1 : Int32) &&& 31).toUInt32).toInt32)) then b else (b + ((n.toUInt32 >>> ((1 : Int32) &&& 31).toUInt32).toInt32))) (n - ((n.toUInt32 >>> ((1 : Int32) &&& 31).toUInt32).toInt32)) else b
def fstB (g : Int32 → Int64) (from_ to_ : Int32) (t : Int64) (b : Int32) : Int32 := if from_ < to_ then (if t < g b then b else b + (1 : Int32)) else b
def fstA (g : Int32 → Int64) (from_ to_ : Int32) (t : Int64) : Int32 := fstB g from_ to_ t (loopA g t 6 from_ (to_ - from_))
def own_lA (g : Int32 → Int64) (t : Int64) (k : Nat) (b n _h : Int32) : Int32 := loopA g t k b n

def f1 (j0 : Int64) (j1 : Int64) : Int64 := if j1 < j0 then j1 else (j0)
theorem pd1 : parseMethodDescriptor "(JJ)J" = some ⟨[.long, .long], some .long⟩ := by decide +kernel
theorem ef1 (m : MethodId) (j0 : Int64) (j1 : Int64) : entryFrame m #[(.long j0), (.long j1)] 4 = mkF m 0 #[.val (.long j0), .second, .val (.long j1), .second] [] := by first | (simp [entryFrame, mkF, argsToLocals, Value.category]; done) | rfl
theorem d1_0 : decode jdk_29_method_70_code 0 = .ok (.lload_n 0, 1) := by decide +kernel
theorem d1_1 : decode jdk_29_method_70_code 1 = .ok (.lload_n 2, 1) := by decide +kernel
theorem d1_2 : decode jdk_29_method_70_code 2 = .ok (.lcmp, 1) := by decide +kernel
theorem d1_3 : decode jdk_29_method_70_code 3 = .ok (.ifCond .gt 7, 3) := by decide +kernel
theorem d1_6 : decode jdk_29_method_70_code 6 = .ok (.lload_n 0, 1) := by decide +kernel
theorem d1_7 : decode jdk_29_method_70_code 7 = .ok (.goto 4, 3) := by decide +kernel
theorem d1_10 : decode jdk_29_method_70_code 10 = .ok (.lload_n 2, 1) := by decide +kernel
theorem d1_11 : decode jdk_29_method_70_code 11 = .ok (.lreturn, 1) := by decide +kernel
set_option maxRecDepth 65536 in
set_option maxHeartbeats 40000000 in
theorem rm1 (l : Launch) (Z : State) (a0 : Array Value) (hw : ∀ d ∈ tables_1, d.before a0 Z = true) (j0 : Int64) (j1 : Int64) (h0 : Heap) (n0 : Nat) (Z0 : n0 ≤ h0.size) :
    Ctr l Z (⟨"java/lang/Math", "min", "(JJ)J"⟩ : MethodName) jdk_29_method_70_code 4 (some .long) ({ frames := 0, cells := 0, slots := 0, locals := 0 } : Room) #[(.long j0), (.long j1)] h0 n0 (fun v h' => v = some (.long (f1 j0 j1)) ∧ h' = h0) := by
  refine Ctr.body (L := #[.val (.long j0), .second, .val (.long j1), .second]) (Jvm.Free.JP.mathPlain rfl (by decide +kernel)) Z0 (fun m => ef1 m j0 j1) ?_
  intro p e F m below meth c T0 C0
  refine C0.lloadN d1_0 rfl rfl ?_
  refine C0.lloadN d1_1 rfl rfl ?_
  refine C0.lif_gt d1_2 rfl d1_3 (by decide) (by decide : _ = 10) rfl (fun c3 => ?_) (fun c3 => ?_)
  · refine C0.lloadN d1_10 rfl rfl ?_
    exact C0.retJ d1_11 rfl (by decide) (by decide) ⟨by rw [f1, if_pos c3], rfl⟩
  · refine C0.lloadN d1_6 rfl rfl ?_
    refine C0.goto d1_7 (by decide) (by decide : _ = 11) ?_
    exact C0.retJ d1_11 rfl (by decide) (by decide) ⟨by rw [f1, if_neg c3], rfl⟩
def f2 (i0 : Int32) (i1 : Int32) : Int32 := if i1 < i0 then i1 else (i0)
theorem pd2 : parseMethodDescriptor "(II)I" = some ⟨[.int, .int], some .int⟩ := by decide +kernel
theorem ef2 (m : MethodId) (i0 : Int32) (i1 : Int32) : entryFrame m #[(.int i0), (.int i1)] 2 = mkF m 0 #[.val (.int i0), .val (.int i1)] [] := by first | (simp [entryFrame, mkF, argsToLocals, Value.category]; done) | rfl
theorem d2_0 : decode jdk_29_method_69_code 0 = .ok (.iload_n 0, 1) := by decide +kernel
theorem d2_1 : decode jdk_29_method_69_code 1 = .ok (.iload_n 1, 1) := by decide +kernel
theorem d2_2 : decode jdk_29_method_69_code 2 = .ok (.if_icmp .gt 7, 3) := by decide +kernel
theorem d2_5 : decode jdk_29_method_69_code 5 = .ok (.iload_n 0, 1) := by decide +kernel
theorem d2_6 : decode jdk_29_method_69_code 6 = .ok (.goto 4, 3) := by decide +kernel
theorem d2_9 : decode jdk_29_method_69_code 9 = .ok (.iload_n 1, 1) := by decide +kernel
theorem d2_10 : decode jdk_29_method_69_code 10 = .ok (.ireturn, 1) := by decide +kernel
set_option maxRecDepth 65536 in
set_option maxHeartbeats 40000000 in
theorem rm2 (l : Launch) (Z : State) (a0 : Array Value) (hw : ∀ d ∈ tables_1, d.before a0 Z = true) (i0 : Int32) (i1 : Int32) (h0 : Heap) (n0 : Nat) (Z0 : n0 ≤ h0.size) :
    Ctr l Z (⟨"java/lang/Math", "min", "(II)I"⟩ : MethodName) jdk_29_method_69_code 2 (some .int) ({ frames := 0, cells := 0, slots := 0, locals := 0 } : Room) #[(.int i0), (.int i1)] h0 n0 (fun v h' => v = some (.int (f2 i0 i1)) ∧ h' = h0) := by
  refine Ctr.body (L := #[.val (.int i0), .val (.int i1)]) (Jvm.Free.JP.mathPlain rfl (by decide +kernel)) Z0 (fun m => ef2 m i0 i1) ?_
  intro p e F m below meth c T0 C0
  refine C0.iloadN d2_0 rfl rfl ?_
  refine C0.iloadN d2_1 rfl rfl ?_
  refine C0.icmp_gt d2_2 (by decide) (by decide : _ = 9) rfl (fun c2 => ?_) (fun c2 => ?_)
  · refine C0.iloadN d2_9 rfl rfl ?_
    exact C0.retI d2_10 rfl (by decide) (by decide) ⟨by rw [f2, if_pos c2], rfl⟩
  · refine C0.iloadN d2_5 rfl rfl ?_
    refine C0.goto d2_6 (by decide) (by decide : _ = 10) ?_
    exact C0.retI d2_10 rfl (by decide) (by decide) ⟨by rw [f2, if_neg c2], rfl⟩
def f3 (i0 : Int32) (i1 : Int32) : Int32 := if i0 < i1 then i1 else (i0)
theorem pd3 : parseMethodDescriptor "(II)I" = some ⟨[.int, .int], some .int⟩ := by decide +kernel
theorem ef3 (m : MethodId) (i0 : Int32) (i1 : Int32) : entryFrame m #[(.int i0), (.int i1)] 2 = mkF m 0 #[.val (.int i0), .val (.int i1)] [] := by first | (simp [entryFrame, mkF, argsToLocals, Value.category]; done) | rfl
theorem d3_0 : decode jdk_29_method_65_code 0 = .ok (.iload_n 0, 1) := by decide +kernel
theorem d3_1 : decode jdk_29_method_65_code 1 = .ok (.iload_n 1, 1) := by decide +kernel
theorem d3_2 : decode jdk_29_method_65_code 2 = .ok (.if_icmp .lt 7, 3) := by decide +kernel
theorem d3_5 : decode jdk_29_method_65_code 5 = .ok (.iload_n 0, 1) := by decide +kernel
theorem d3_6 : decode jdk_29_method_65_code 6 = .ok (.goto 4, 3) := by decide +kernel
theorem d3_9 : decode jdk_29_method_65_code 9 = .ok (.iload_n 1, 1) := by decide +kernel
theorem d3_10 : decode jdk_29_method_65_code 10 = .ok (.ireturn, 1) := by decide +kernel
set_option maxRecDepth 65536 in
set_option maxHeartbeats 40000000 in
theorem rm3 (l : Launch) (Z : State) (a0 : Array Value) (hw : ∀ d ∈ tables_1, d.before a0 Z = true) (i0 : Int32) (i1 : Int32) (h0 : Heap) (n0 : Nat) (Z0 : n0 ≤ h0.size) :
    Ctr l Z (⟨"java/lang/Math", "max", "(II)I"⟩ : MethodName) jdk_29_method_65_code 2 (some .int) ({ frames := 0, cells := 0, slots := 0, locals := 0 } : Room) #[(.int i0), (.int i1)] h0 n0 (fun v h' => v = some (.int (f3 i0 i1)) ∧ h' = h0) := by
  refine Ctr.body (L := #[.val (.int i0), .val (.int i1)]) (Jvm.Free.JP.mathPlain rfl (by decide +kernel)) Z0 (fun m => ef3 m i0 i1) ?_
  intro p e F m below meth c T0 C0
  refine C0.iloadN d3_0 rfl rfl ?_
  refine C0.iloadN d3_1 rfl rfl ?_
  refine C0.icmp_lt d3_2 (by decide) (by decide : _ = 9) rfl (fun c2 => ?_) (fun c2 => ?_)
  · refine C0.iloadN d3_9 rfl rfl ?_
    exact C0.retI d3_10 rfl (by decide) (by decide) ⟨by rw [f3, if_pos c2], rfl⟩
  · refine C0.iloadN d3_5 rfl rfl ?_
    refine C0.goto d3_6 (by decide) (by decide : _ = 10) ?_
    exact C0.retI d3_10 rfl (by decide) (by decide) ⟨by rw [f3, if_neg c2], rfl⟩
def f4 (i1 : Int32) (i2 : Int32) (i3 : Int32) (j4 : Int64) (y1 : Int64) : Int32 := if i1 < i2 then (0 : Int32) else (if i1 < i3 then if j4 < y1 then (0 : Int32) else ((1 : Int32)) else ((0 : Int32)))
theorem pn4 : plainName "com/example/leeway/leeway/engine/TimeSearchFirstAfterPinLaw" = true := by first | (simp [plainName, overriddenIn]; done) | decide +kernel
theorem pd4 : parseMethodDescriptor "([JIIIJ)I" = some ⟨[(.array .long), .int, .int, .int, .long], some .int⟩ := by decide +kernel
theorem ef4 (m : MethodId) (o0 : Addr) (i1 : Int32) (i2 : Int32) (i3 : Int32) (j4 : Int64) : entryFrame m #[(.ref o0), (.int i1), (.int i2), (.int i3), (.long j4)] 6 = mkF m 0 #[.val (.ref o0), .val (.int i1), .val (.int i2), .val (.int i3), .val (.long j4), .second] [] := by first | (simp [entryFrame, mkF, argsToLocals, Value.category]; done) | rfl
theorem d4_0 : decode method_3_code 0 = .ok (.iload_n 1, 1) := by decide +kernel
theorem d4_1 : decode method_3_code 1 = .ok (.iload_n 2, 1) := by decide +kernel
theorem d4_2 : decode method_3_code 2 = .ok (.if_icmp .lt 21, 3) := by decide +kernel
theorem d4_5 : decode method_3_code 5 = .ok (.iload_n 1, 1) := by decide +kernel
theorem d4_6 : decode method_3_code 6 = .ok (.iload_n 3, 1) := by decide +kernel
theorem d4_7 : decode method_3_code 7 = .ok (.if_icmp .ge 16, 3) := by decide +kernel
theorem d4_10 : decode method_3_code 10 = .ok (.aload_n 0, 1) := by decide +kernel
theorem d4_11 : decode method_3_code 11 = .ok (.iload_n 1, 1) := by decide +kernel
theorem d4_12 : decode method_3_code 12 = .ok (.laload, 1) := by decide +kernel
theorem d4_13 : decode method_3_code 13 = .ok (.lload 4, 2) := by decide +kernel
theorem d4_15 : decode method_3_code 15 = .ok (.lcmp, 1) := by decide +kernel
theorem d4_16 : decode method_3_code 16 = .ok (.ifCond .gt 7, 3) := by decide +kernel
theorem d4_19 : decode method_3_code 19 = .ok (.iconst 1, 1) := by decide +kernel
theorem d4_20 : decode method_3_code 20 = .ok (.goto 4, 3) := by decide +kernel
theorem d4_23 : decode method_3_code 23 = .ok (.iconst 0, 1) := by decide +kernel
theorem d4_24 : decode method_3_code 24 = .ok (.ireturn, 1) := by decide +kernel
set_option maxRecDepth 65536 in
set_option maxHeartbeats 40000000 in
theorem rm4 (l : Launch) (Z : State) (a0 : Array Value) (hw : ∀ d ∈ tables_1, d.before a0 Z = true) (o0 : Addr) (i1 : Int32) (i2 : Int32) (i3 : Int32) (j4 : Int64) (k1 : ClassId) (n1 : Int32) (vs : List Value) (dv : Value) (y1 : Int64) (h0 : Heap) (n0 : Nat) (Z0 : n0 ≤ h0.size) (V_o0 : Arv Z h0 o0 k1 .long n1 vs dv) (hin : ¬ i1 < (0 : Int32) ∧ i1 < n1) (hv : vs.getD (i1).toNatClampNeg dv = .long y1) :
    Ctr l Z (⟨"com/example/leeway/leeway/engine/TimeSearchFirstAfterPinLaw", "in", "([JIIIJ)I"⟩ : MethodName) method_3_code 6 (some .int) ({ frames := 0, cells := 0, slots := 0, locals := 0 } : Room) #[(.ref o0), (.int i1), (.int i2), (.int i3), (.long j4)] h0 n0 (fun v h' => v = some (.int (f4 i1 i2 i3 j4 y1)) ∧ h' = h0) := by
  refine Ctr.body (L := #[.val (.ref o0), .val (.int i1), .val (.int i2), .val (.int i3), .val (.long j4), .second]) (plainFor_of_name pn4) Z0 (fun m => ef4 m o0 i1 i2 i3 j4) ?_
  intro p e F m below meth c T0 C0
  refine C0.iloadN d4_0 rfl rfl ?_
  refine C0.iloadN d4_1 rfl rfl ?_
  refine C0.icmp_lt d4_2 (by decide) (by decide : _ = 23) rfl (fun c2 => ?_) (fun c2 => ?_)
  · refine C0.iconst (0 : Int32) d4_23 rfl rfl ?_
    exact C0.retI d4_24 rfl (by decide) (by decide) ⟨by rw [f4, if_pos c2], rfl⟩
  · refine C0.iloadN d4_5 rfl rfl ?_
    refine C0.iloadN d4_6 rfl rfl ?_
    refine C0.icmp_ge d4_7 (by decide) (by decide : _ = 23) rfl (fun c7 => ?_) (fun c7 => ?_)
    · refine C0.iconst (0 : Int32) d4_23 rfl rfl ?_
      exact C0.retI d4_24 rfl (by decide) (by decide) ⟨by rw [f4, if_neg c2, if_neg c7], rfl⟩
    · refine C0.aloadN d4_10 rfl rfl rfl ?_
      refine C0.iloadN d4_11 rfl rfl ?_
      refine C0.laload (v := y1) V_o0 hin hv d4_12 rfl ?_
      refine C0.lload d4_13 rfl rfl ?_
      refine C0.lif_gt d4_15 rfl d4_16 (by decide) (by decide : _ = 23) rfl (fun c16 => ?_) (fun c16 => ?_)
      · refine C0.iconst (0 : Int32) d4_23 rfl rfl ?_
        exact C0.retI d4_24 rfl (by decide) (by decide) ⟨by rw [f4, if_neg c2, if_pos c7, if_pos c16], rfl⟩
      · refine C0.iconst (1 : Int32) d4_19 rfl rfl ?_
        refine C0.goto d4_20 (by decide) (by decide : _ = 24) ?_
        exact C0.retI d4_24 rfl (by decide) (by decide) ⟨by rw [f4, if_neg c2, if_pos c7, if_neg c16], rfl⟩
set_option maxRecDepth 65536 in
set_option maxHeartbeats 40000000 in
theorem own_ret5_0 (o0 : Addr) (i1 : Int32) (i2 : Int32) (j3 : Int64) (k1 : ClassId) (n1 : Int32) (vs : List Value) (dv : Value) (g : Int32 → Int64) (hg : ∀ j : Int32, ¬ j < (0 : Int32) ∧ j < n1 → vs.getD j.toNatClampNeg dv = .long (g j)) (hf0 : ¬ i1 < (0 : Int32)) (ht : ¬ n1 < i2) (hft : ¬ i2 < i1) (hn6 : ¬ (6 : Int32) < n1) (c11 : ¬ (1 : Int32) < (i2 - i1)) (c56 : ¬ i1 < i2) : i1 = (fstA g i1 i2 j3) := by
  first | (have e : loopA g j3 6 i1 (i2 - i1) = bs := (by rw [loopA, if_pos c11, ← hu1]; exact (hI.trans hR).symm); rw [fstA, e, fstB]; first | rw [if_pos c56, if_pos c65] | rw [if_pos c56, if_neg c65] | rw [if_neg c56]) | (have e : loopA g j3 6 i1 (i2 - i1) = i1 := (by rw [loopA, if_neg c11]); rw [fstA, e, fstB]; first | rw [if_pos c56, if_pos c65] | rw [if_pos c56, if_neg c65] | rw [if_neg c56])
set_option maxRecDepth 65536 in
set_option maxHeartbeats 40000000 in
theorem own_pre5_0 (o0 : Addr) (i1 : Int32) (i2 : Int32) (j3 : Int64) (k1 : ClassId) (n1 : Int32) (vs : List Value) (dv : Value) (g : Int32 → Int64) (hg : ∀ j : Int32, ¬ j < (0 : Int32) ∧ j < n1 → vs.getD j.toNatClampNeg dv = .long (g j)) (hf0 : ¬ i1 < (0 : Int32)) (ht : ¬ n1 < i2) (hft : ¬ i2 < i1) (hn6 : ¬ (6 : Int32) < n1) (c11 : ¬ (1 : Int32) < (i2 - i1)) (c56 : i1 < i2) : ¬ i1 < (0 : Int32) ∧ i1 < n1 := by
  first | (clear hg hR; have ca_0 := c_iushr (nn) 1 1 (by decide) (by decide); have ca_1 := c_iadd bs ((nn.toUInt32 >>> ((1 : Int32) &&& 31).toUInt32).toInt32); have ca_2 := c_isub (nn) ((nn.toUInt32 >>> ((1 : Int32) &&& 31).toUInt32).toInt32); have bl_0 := (bs).le_toInt; have bu_0 := (bs).toInt_lt; have bl_1 := (nn).le_toInt; have bu_1 := (nn).toInt_lt; have bl_2 := (bs + ((nn.toUInt32 >>> ((1 : Int32) &&& 31).toUInt32).toInt32)).le_toInt; have bu_2 := (bs + ((nn.toUInt32 >>> ((1 : Int32) &&& 31).toUInt32).toInt32)).toInt_lt; have bl_3 := ((nn) - ((nn.toUInt32 >>> ((1 : Int32) &&& 31).toUInt32).toInt32)).le_toInt; have bu_3 := ((nn) - ((nn.toUInt32 >>> ((1 : Int32) &&& 31).toUInt32).toInt32)).toInt_lt; have bl_4 := (i1).le_toInt; have bu_4 := (i1).toInt_lt; have bl_5 := (i2).le_toInt; have bu_5 := (i2).toInt_lt; have bl_6 := (n1).le_toInt; have bu_6 := (n1).toInt_lt; (try simp only [own_eqite, own_iteeq] at *); (try simp only [ne_eq, and_true, true_and, or_true, true_or, and_false, false_and, or_false, false_or, not_true_eq_false, not_false_eq_true, Int32.lt_iff_toInt_lt, Int64.lt_iff_toInt_lt, ← Int32.toInt_inj, ← Int64.toInt_inj, Int32.reduceToInt, Int64.reduceToInt] at *); omega) | (clear hg; have ca_0 := c_isub i2 i1; have ca_1 := c_iushr (i2 - i1) 1 1 (by decide) (by decide); have ca_2 := c_iadd i1 (((i2 - i1).toUInt32 >>> ((1 : Int32) &&& 31).toUInt32).toInt32); have ca_3 := c_isub (i2 - i1) (((i2 - i1).toUInt32 >>> ((1 : Int32) &&& 31).toUInt32).toInt32); have bl_0 := (i1).le_toInt; have bu_0 := (i1).toInt_lt; have bl_1 := (i2 - i1).le_toInt; have bu_1 := (i2 - i1).toInt_lt; have bl_2 := (i1 + (((i2 - i1).toUInt32 >>> ((1 : Int32) &&& 31).toUInt32).toInt32)).le_toInt; have bu_2 := (i1 + (((i2 - i1).toUInt32 >>> ((1 : Int32) &&& 31).toUInt32).toInt32)).toInt_lt; have bl_3 := ((i2 - i1) - (((i2 - i1).toUInt32 >>> ((1 : Int32) &&& 31).toUInt32).toInt32)).le_toInt; have bu_3 := ((i2 - i1) - (((i2 - i1).toUInt32 >>> ((1 : Int32) &&& 31).toUInt32).toInt32)).toInt_lt; have bl_4 := (i2).le_toInt; have bu_4 := (i2).toInt_lt; have bl_5 := (n1).le_toInt; have bu_5 := (n1).toInt_lt; (try simp only [own_eqite, own_iteeq] at *); (try simp only [ne_eq, and_true, true_and, or_true, true_or, and_false, false_and, or_false, false_or, not_true_eq_false, not_false_eq_true, Int32.lt_iff_toInt_lt, Int64.lt_iff_toInt_lt, ← Int32.toInt_inj, ← Int64.toInt_inj, Int32.reduceToInt, Int64.reduceToInt] at *); omega)
set_option maxRecDepth 65536 in
set_option maxHeartbeats 40000000 in
theorem own_ret5_1 (o0 : Addr) (i1 : Int32) (i2 : Int32) (j3 : Int64) (k1 : ClassId) (n1 : Int32) (vs : List Value) (dv : Value) (g : Int32 → Int64) (hg : ∀ j : Int32, ¬ j < (0 : Int32) ∧ j < n1 → vs.getD j.toNatClampNeg dv = .long (g j)) (hf0 : ¬ i1 < (0 : Int32)) (ht : ¬ n1 < i2) (hft : ¬ i2 < i1) (hn6 : ¬ (6 : Int32) < n1) (c11 : ¬ (1 : Int32) < (i2 - i1)) (c56 : i1 < i2) (c65 : j3 < (g i1)) : i1 = (fstA g i1 i2 j3) := by
  first | (have e : loopA g j3 6 i1 (i2 - i1) = bs := (by rw [loopA, if_pos c11, ← hu1]; exact (hI.trans hR).symm); rw [fstA, e, fstB]; first | rw [if_pos c56, if_pos c65] | rw [if_pos c56, if_neg c65] | rw [if_neg c56]) | (have e : loopA g j3 6 i1 (i2 - i1) = i1 := (by rw [loopA, if_neg c11]); rw [fstA, e, fstB]; first | rw [if_pos c56, if_pos c65] | rw [if_pos c56, if_neg c65] | rw [if_neg c56])
set_option maxRecDepth 65536 in
set_option maxHeartbeats 40000000 in
theorem own_ret5_2 (o0 : Addr) (i1 : Int32) (i2 : Int32) (j3 : Int64) (k1 : ClassId) (n1 : Int32) (vs : List Value) (dv : Value) (g : Int32 → Int64) (hg : ∀ j : Int32, ¬ j < (0 : Int32) ∧ j < n1 → vs.getD j.toNatClampNeg dv = .long (g j)) (hf0 : ¬ i1 < (0 : Int32)) (ht : ¬ n1 < i2) (hft : ¬ i2 < i1) (hn6 : ¬ (6 : Int32) < n1) (c11 : ¬ (1 : Int32) < (i2 - i1)) (c56 : i1 < i2) (c65 : ¬ j3 < (g i1)) : (i1 + (1 : Int32)) = (fstA g i1 i2 j3) := by
  first | (have e : loopA g j3 6 i1 (i2 - i1) = bs := (by rw [loopA, if_pos c11, ← hu1]; exact (hI.trans hR).symm); rw [fstA, e, fstB]; first | rw [if_pos c56, if_pos c65] | rw [if_pos c56, if_neg c65] | rw [if_neg c56]) | (have e : loopA g j3 6 i1 (i2 - i1) = i1 := (by rw [loopA, if_neg c11]); rw [fstA, e, fstB]; first | rw [if_pos c56, if_pos c65] | rw [if_pos c56, if_neg c65] | rw [if_neg c56])
set_option maxRecDepth 65536 in
set_option maxHeartbeats 40000000 in
theorem own_pre5_1 (o0 : Addr) (i1 : Int32) (i2 : Int32) (j3 : Int64) (k1 : ClassId) (n1 : Int32) (vs : List Value) (dv : Value) (g : Int32 → Int64) (hg : ∀ j : Int32, ¬ j < (0 : Int32) ∧ j < n1 → vs.getD j.toNatClampNeg dv = .long (g j)) (hf0 : ¬ i1 < (0 : Int32)) (ht : ¬ n1 < i2) (hft : ¬ i2 < i1) (hn6 : ¬ (6 : Int32) < n1) (c11 : (1 : Int32) < (i2 - i1)) : ¬ (i1 + (((i2 - i1).toUInt32 >>> ((1 : Int32) &&& 31).toUInt32).toInt32)) < (0 : Int32) ∧ (i1 + (((i2 - i1).toUInt32 >>> ((1 : Int32) &&& 31).toUInt32).toInt32)) < n1 := by
  first | (clear hg hR; have ca_0 := c_iushr (nn) 1 1 (by decide) (by decide); have ca_1 := c_iadd bs ((nn.toUInt32 >>> ((1 : Int32) &&& 31).toUInt32).toInt32); have ca_2 := c_isub (nn) ((nn.toUInt32 >>> ((1 : Int32) &&& 31).toUInt32).toInt32); have bl_0 := (bs).le_toInt; have bu_0 := (bs).toInt_lt; have bl_1 := (nn).le_toInt; have bu_1 := (nn).toInt_lt; have bl_2 := (bs + ((nn.toUInt32 >>> ((1 : Int32) &&& 31).toUInt32).toInt32)).le_toInt; have bu_2 := (bs + ((nn.toUInt32 >>> ((1 : Int32) &&& 31).toUInt32).toInt32)).toInt_lt; have bl_3 := ((nn) - ((nn.toUInt32 >>> ((1 : Int32) &&& 31).toUInt32).toInt32)).le_toInt; have bu_3 := ((nn) - ((nn.toUInt32 >>> ((1 : Int32) &&& 31).toUInt32).toInt32)).toInt_lt; have bl_4 := (i1).le_toInt; have bu_4 := (i1).toInt_lt; have bl_5 := (i2).le_toInt; have bu_5 := (i2).toInt_lt; have bl_6 := (n1).le_toInt; have bu_6 := (n1).toInt_lt; (try simp only [own_eqite, own_iteeq] at *); (try simp only [ne_eq, and_true, true_and, or_true, true_or, and_false, false_and, or_false, false_or, not_true_eq_false, not_false_eq_true, Int32.lt_iff_toInt_lt, Int64.lt_iff_toInt_lt, ← Int32.toInt_inj, ← Int64.toInt_inj, Int32.reduceToInt, Int64.reduceToInt] at *); omega) | (clear hg; have ca_0 := c_isub i2 i1; have ca_1 := c_iushr (i2 - i1) 1 1 (by decide) (by decide); have ca_2 := c_iadd i1 (((i2 - i1).toUInt32 >>> ((1 : Int32) &&& 31).toUInt32).toInt32); have ca_3 := c_isub (i2 - i1) (((i2 - i1).toUInt32 >>> ((1 : Int32) &&& 31).toUInt32).toInt32); have bl_0 := (i1).le_toInt; have bu_0 := (i1).toInt_lt; have bl_1 := (i2 - i1).le_toInt; have bu_1 := (i2 - i1).toInt_lt; have bl_2 := (i1 + (((i2 - i1).toUInt32 >>> ((1 : Int32) &&& 31).toUInt32).toInt32)).le_toInt; have bu_2 := (i1 + (((i2 - i1).toUInt32 >>> ((1 : Int32) &&& 31).toUInt32).toInt32)).toInt_lt; have bl_3 := ((i2 - i1) - (((i2 - i1).toUInt32 >>> ((1 : Int32) &&& 31).toUInt32).toInt32)).le_toInt; have bu_3 := ((i2 - i1) - (((i2 - i1).toUInt32 >>> ((1 : Int32) &&& 31).toUInt32).toInt32)).toInt_lt; have bl_4 := (i2).le_toInt; have bu_4 := (i2).toInt_lt; have bl_5 := (n1).le_toInt; have bu_5 := (n1).toInt_lt; (try simp only [own_eqite, own_iteeq] at *); (try simp only [ne_eq, and_true, true_and, or_true, true_or, and_false, false_and, or_false, false_or, not_true_eq_false, not_false_eq_true, Int32.lt_iff_toInt_lt, Int64.lt_iff_toInt_lt, ← Int32.toInt_inj, ← Int64.toInt_inj, Int32.reduceToInt, Int64.reduceToInt] at *); omega)
set_option maxRecDepth 65536 in
set_option maxHeartbeats 40000000 in
theorem own_pre5_2 (o0 : Addr) (i1 : Int32) (i2 : Int32) (j3 : Int64) (k1 : ClassId) (n1 : Int32) (vs : List Value) (dv : Value) (g : Int32 → Int64) (R : Int32) (bs : Int32) (nn : Int32) (hlf : Int32) (u1 : Int32) (hg : ∀ j : Int32, ¬ j < (0 : Int32) ∧ j < n1 → vs.getD j.toNatClampNeg dv = .long (g j)) (hf0 : ¬ i1 < (0 : Int32)) (ht : ¬ n1 < i2) (hft : ¬ i2 < i1) (hn6 : ¬ (6 : Int32) < n1) (hR : R = own_lA g j3 5 u1 ((i2 - i1) - (((i2 - i1).toUInt32 >>> ((1 : Int32) &&& 31).toUInt32).toInt32)) (((i2 - i1).toUInt32 >>> ((1 : Int32) &&& 31).toUInt32).toInt32)) (hk : nn.toInt ≤ 0 + 1) (h1 : i1.toInt ≤ bs.toInt ∧ bs.toInt + nn.toInt ≤ i2.toInt ∧ (i1.toInt < i2.toInt → 0 < nn.toInt)) (hu1 : u1 = (if j3 < (g (i1 + (((i2 - i1).toUInt32 >>> ((1 : Int32) &&& 31).toUInt32).toInt32))) then i1 else (i1 + (((i2 - i1).toUInt32 >>> ((1 : Int32) &&& 31).toUInt32).toInt32)))) (c11 : (1 : Int32) < (i2 - i1)) : ¬ (1 : Int32) < nn := by
  first | (clear hg hR; have ca_0 := c_iushr (nn) 1 1 (by decide) (by decide); have ca_1 := c_iadd bs ((nn.toUInt32 >>> ((1 : Int32) &&& 31).toUInt32).toInt32); have ca_2 := c_isub (nn) ((nn.toUInt32 >>> ((1 : Int32) &&& 31).toUInt32).toInt32); have bl_0 := (bs).le_toInt; have bu_0 := (bs).toInt_lt; have bl_1 := (nn).le_toInt; have bu_1 := (nn).toInt_lt; have bl_2 := (bs + ((nn.toUInt32 >>> ((1 : Int32) &&& 31).toUInt32).toInt32)).le_toInt; have bu_2 := (bs + ((nn.toUInt32 >>> ((1 : Int32) &&& 31).toUInt32).toInt32)).toInt_lt; have bl_3 := ((nn) - ((nn.toUInt32 >>> ((1 : Int32) &&& 31).toUInt32).toInt32)).le_toInt; have bu_3 := ((nn) - ((nn.toUInt32 >>> ((1 : Int32) &&& 31).toUInt32).toInt32)).toInt_lt; have bl_4 := (i1).le_toInt; have bu_4 := (i1).toInt_lt; have bl_5 := (i2).le_toInt; have bu_5 := (i2).toInt_lt; have bl_6 := (n1).le_toInt; have bu_6 := (n1).toInt_lt; (try simp only [own_eqite, own_iteeq] at *); (try simp only [ne_eq, and_true, true_and, or_true, true_or, and_false, false_and, or_false, false_or, not_true_eq_false, not_false_eq_true, Int32.lt_iff_toInt_lt, Int64.lt_iff_toInt_lt, ← Int32.toInt_inj, ← Int64.toInt_inj, Int32.reduceToInt, Int64.reduceToInt] at *); omega) | (clear hg; have ca_0 := c_isub i2 i1; have ca_1 := c_iushr (i2 - i1) 1 1 (by decide) (by decide); have ca_2 := c_iadd i1 (((i2 - i1).toUInt32 >>> ((1 : Int32) &&& 31).toUInt32).toInt32); have ca_3 := c_isub (i2 - i1) (((i2 - i1).toUInt32 >>> ((1 : Int32) &&& 31).toUInt32).toInt32); have bl_0 := (i1).le_toInt; have bu_0 := (i1).toInt_lt; have bl_1 := (i2 - i1).le_toInt; have bu_1 := (i2 - i1).toInt_lt; have bl_2 := (i1 + (((i2 - i1).toUInt32 >>> ((1 : Int32) &&& 31).toUInt32).toInt32)).le_toInt; have bu_2 := (i1 + (((i2 - i1).toUInt32 >>> ((1 : Int32) &&& 31).toUInt32).toInt32)).toInt_lt; have bl_3 := ((i2 - i1) - (((i2 - i1).toUInt32 >>> ((1 : Int32) &&& 31).toUInt32).toInt32)).le_toInt; have bu_3 := ((i2 - i1) - (((i2 - i1).toUInt32 >>> ((1 : Int32) &&& 31).toUInt32).toInt32)).toInt_lt; have bl_4 := (i2).le_toInt; have bu_4 := (i2).toInt_lt; have bl_5 := (n1).le_toInt; have bu_5 := (n1).toInt_lt; (try simp only [own_eqite, own_iteeq] at *); (try simp only [ne_eq, and_true, true_and, or_true, true_or, and_false, false_and, or_false, false_or, not_true_eq_false, not_false_eq_true, Int32.lt_iff_toInt_lt, Int64.lt_iff_toInt_lt, ← Int32.toInt_inj, ← Int64.toInt_inj, Int32.reduceToInt, Int64.reduceToInt] at *); omega)
set_option maxRecDepth 65536 in
set_option maxHeartbeats 40000000 in
theorem own_ret5_3 (o0 : Addr) (i1 : Int32) (i2 : Int32) (j3 : Int64) (k1 : ClassId) (n1 : Int32) (vs : List Value) (dv : Value) (g : Int32 → Int64) (R : Int32) (bs : Int32) (nn : Int32) (hlf : Int32) (u1 : Int32) (hg : ∀ j : Int32, ¬ j < (0 : Int32) ∧ j < n1 → vs.getD j.toNatClampNeg dv = .long (g j)) (hf0 : ¬ i1 < (0 : Int32)) (ht : ¬ n1 < i2) (hft : ¬ i2 < i1) (hn6 : ¬ (6 : Int32) < n1) (hR : R = own_lA g j3 5 u1 ((i2 - i1) - (((i2 - i1).toUInt32 >>> ((1 : Int32) &&& 31).toUInt32).toInt32)) (((i2 - i1).toUInt32 >>> ((1 : Int32) &&& 31).toUInt32).toInt32)) (hk : nn.toInt ≤ 0 + 1) (h1 : i1.toInt ≤ bs.toInt ∧ bs.toInt + nn.toInt ≤ i2.toInt ∧ (i1.toInt < i2.toInt → 0 < nn.toInt)) (hI : bs = R) (hu1 : u1 = (if j3 < (g (i1 + (((i2 - i1).toUInt32 >>> ((1 : Int32) &&& 31).toUInt32).toInt32))) then i1 else (i1 + (((i2 - i1).toUInt32 >>> ((1 : Int32) &&& 31).toUInt32).toInt32)))) (c11 : (1 : Int32) < (i2 - i1)) (c56 : ¬ i1 < i2) : bs = (fstA g i1 i2 j3) := by
  first | (have e : loopA g j3 6 i1 (i2 - i1) = bs := (by rw [loopA, if_pos c11, ← hu1]; exact (hI.trans hR).symm); rw [fstA, e, fstB]; first | rw [if_pos c56, if_pos c65] | rw [if_pos c56, if_neg c65] | rw [if_neg c56]) | (have e : loopA g j3 6 i1 (i2 - i1) = i1 := (by rw [loopA, if_neg c11]); rw [fstA, e, fstB]; first | rw [if_pos c56, if_pos c65] | rw [if_pos c56, if_neg c65] | rw [if_neg c56])
set_option maxRecDepth 65536 in
set_option maxHeartbeats 40000000 in
theorem own_pre5_3 (o0 : Addr) (i1 : Int32) (i2 : Int32) (j3 : Int64) (k1 : ClassId) (n1 : Int32) (vs : List Value) (dv : Value) (g : Int32 → Int64) (R : Int32) (bs : Int32) (nn : Int32) (hlf : Int32) (u1 : Int32) (hg : ∀ j : Int32, ¬ j < (0 : Int32) ∧ j < n1 → vs.getD j.toNatClampNeg dv = .long (g j)) (hf0 : ¬ i1 < (0 : Int32)) (ht : ¬ n1 < i2) (hft : ¬ i2 < i1) (hn6 : ¬ (6 : Int32) < n1) (hR : R = own_lA g j3 5 u1 ((i2 - i1) - (((i2 - i1).toUInt32 >>> ((1 : Int32) &&& 31).toUInt32).toInt32)) (((i2 - i1).toUInt32 >>> ((1 : Int32) &&& 31).toUInt32).toInt32)) (hk : nn.toInt ≤ 0 + 1) (h1 : i1.toInt ≤ bs.toInt ∧ bs.toInt + nn.toInt ≤ i2.toInt ∧ (i1.toInt < i2.toInt → 0 < nn.toInt)) (hu1 : u1 = (if j3 < (g (i1 + (((i2 - i1).toUInt32 >>> ((1 : Int32) &&& 31).toUInt32).toInt32))) then i1 else (i1 + (((i2 - i1).toUInt32 >>> ((1 : Int32) &&& 31).toUInt32).toInt32)))) (c11 : (1 : Int32) < (i2 - i1)) (c56 : i1 < i2) : ¬ bs < (0 : Int32) ∧ bs < n1 := by
  first | (clear hg hR; have ca_0 := c_iushr (nn) 1 1 (by decide) (by decide); have ca_1 := c_iadd bs ((nn.toUInt32 >>> ((1 : Int32) &&& 31).toUInt32).toInt32); have ca_2 := c_isub (nn) ((nn.toUInt32 >>> ((1 : Int32) &&& 31).toUInt32).toInt32); have bl_0 := (bs).le_toInt; have bu_0 := (bs).toInt_lt; have bl_1 := (nn).le_toInt; have bu_1 := (nn).toInt_lt; have bl_2 := (bs + ((nn.toUInt32 >>> ((1 : Int32) &&& 31).toUInt32).toInt32)).le_toInt; have bu_2 := (bs + ((nn.toUInt32 >>> ((1 : Int32) &&& 31).toUInt32).toInt32)).toInt_lt; have bl_3 := ((nn) - ((nn.toUInt32 >>> ((1 : Int32) &&& 31).toUInt32).toInt32)).le_toInt; have bu_3 := ((nn) - ((nn.toUInt32 >>> ((1 : Int32) &&& 31).toUInt32).toInt32)).toInt_lt; have bl_4 := (i1).le_toInt; have bu_4 := (i1).toInt_lt; have bl_5 := (i2).le_toInt; have bu_5 := (i2).toInt_lt; have bl_6 := (n1).le_toInt; have bu_6 := (n1).toInt_lt; (try simp only [own_eqite, own_iteeq] at *); (try simp only [ne_eq, and_true, true_and, or_true, true_or, and_false, false_and, or_false, false_or, not_true_eq_false, not_false_eq_true, Int32.lt_iff_toInt_lt, Int64.lt_iff_toInt_lt, ← Int32.toInt_inj, ← Int64.toInt_inj, Int32.reduceToInt, Int64.reduceToInt] at *); omega) | (clear hg; have ca_0 := c_isub i2 i1; have ca_1 := c_iushr (i2 - i1) 1 1 (by decide) (by decide); have ca_2 := c_iadd i1 (((i2 - i1).toUInt32 >>> ((1 : Int32) &&& 31).toUInt32).toInt32); have ca_3 := c_isub (i2 - i1) (((i2 - i1).toUInt32 >>> ((1 : Int32) &&& 31).toUInt32).toInt32); have bl_0 := (i1).le_toInt; have bu_0 := (i1).toInt_lt; have bl_1 := (i2 - i1).le_toInt; have bu_1 := (i2 - i1).toInt_lt; have bl_2 := (i1 + (((i2 - i1).toUInt32 >>> ((1 : Int32) &&& 31).toUInt32).toInt32)).le_toInt; have bu_2 := (i1 + (((i2 - i1).toUInt32 >>> ((1 : Int32) &&& 31).toUInt32).toInt32)).toInt_lt; have bl_3 := ((i2 - i1) - (((i2 - i1).toUInt32 >>> ((1 : Int32) &&& 31).toUInt32).toInt32)).le_toInt; have bu_3 := ((i2 - i1) - (((i2 - i1).toUInt32 >>> ((1 : Int32) &&& 31).toUInt32).toInt32)).toInt_lt; have bl_4 := (i2).le_toInt; have bu_4 := (i2).toInt_lt; have bl_5 := (n1).le_toInt; have bu_5 := (n1).toInt_lt; (try simp only [own_eqite, own_iteeq] at *); (try simp only [ne_eq, and_true, true_and, or_true, true_or, and_false, false_and, or_false, false_or, not_true_eq_false, not_false_eq_true, Int32.lt_iff_toInt_lt, Int64.lt_iff_toInt_lt, ← Int32.toInt_inj, ← Int64.toInt_inj, Int32.reduceToInt, Int64.reduceToInt] at *); omega)
set_option maxRecDepth 65536 in
set_option maxHeartbeats 40000000 in
theorem own_ret5_4 (o0 : Addr) (i1 : Int32) (i2 : Int32) (j3 : Int64) (k1 : ClassId) (n1 : Int32) (vs : List Value) (dv : Value) (g : Int32 → Int64) (R : Int32) (bs : Int32) (nn : Int32) (hlf : Int32) (u1 : Int32) (hg : ∀ j : Int32, ¬ j < (0 : Int32) ∧ j < n1 → vs.getD j.toNatClampNeg dv = .long (g j)) (hf0 : ¬ i1 < (0 : Int32)) (ht : ¬ n1 < i2) (hft : ¬ i2 < i1) (hn6 : ¬ (6 : Int32) < n1) (hR : R = own_lA g j3 5 u1 ((i2 - i1) - (((i2 - i1).toUInt32 >>> ((1 : Int32) &&& 31).toUInt32).toInt32)) (((i2 - i1).toUInt32 >>> ((1 : Int32) &&& 31).toUInt32).toInt32)) (hk : nn.toInt ≤ 0 + 1) (h1 : i1.toInt ≤ bs.toInt ∧ bs.toInt + nn.toInt ≤ i2.toInt ∧ (i1.toInt < i2.toInt → 0 < nn.toInt)) (hI : bs = R) (hu1 : u1 = (if j3 < (g (i1 + (((i2 - i1).toUInt32 >>> ((1 : Int32) &&& 31).toUInt32).toInt32))) then i1 else (i1 + (((i2 - i1).toUInt32 >>> ((1 : Int32) &&& 31).toUInt32).toInt32)))) (c11 : (1 : Int32) < (i2 - i1)) (c56 : i1 < i2) (c65 : j3 < (g bs)) : bs = (fstA g i1 i2 j3) := by
  first | (have e : loopA g j3 6 i1 (i2 - i1) = bs := (by rw [loopA, if_pos c11, ← hu1]; exact (hI.trans hR).symm); rw [fstA, e, fstB]; first | rw [if_pos c56, if_pos c65] | rw [if_pos c56, if_neg c65] | rw [if_neg c56]) | (have e : loopA g j3 6 i1 (i2 - i1) = i1 := (by rw [loopA, if_neg c11]); rw [fstA, e, fstB]; first | rw [if_pos c56, if_pos c65] | rw [if_pos c56, if_neg c65] | rw [if_neg c56])
set_option maxRecDepth 65536 in
set_option maxHeartbeats 40000000 in
theorem own_ret5_5 (o0 : Addr) (i1 : Int32) (i2 : Int32) (j3 : Int64) (k1 : ClassId) (n1 : Int32) (vs : List Value) (dv : Value) (g : Int32 → Int64) (R : Int32) (bs : Int32) (nn : Int32) (hlf : Int32) (u1 : Int32) (hg : ∀ j : Int32, ¬ j < (0 : Int32) ∧ j < n1 → vs.getD j.toNatClampNeg dv = .long (g j)) (hf0 : ¬ i1 < (0 : Int32)) (ht : ¬ n1 < i2) (hft : ¬ i2 < i1) (hn6 : ¬ (6 : Int32) < n1) (hR : R = own_lA g j3 5 u1 ((i2 - i1) - (((i2 - i1).toUInt32 >>> ((1 : Int32) &&& 31).toUInt32).toInt32)) (((i2 - i1).toUInt32 >>> ((1 : Int32) &&& 31).toUInt32).toInt32)) (hk : nn.toInt ≤ 0 + 1) (h1 : i1.toInt ≤ bs.toInt ∧ bs.toInt + nn.toInt ≤ i2.toInt ∧ (i1.toInt < i2.toInt → 0 < nn.toInt)) (hI : bs = R) (hu1 : u1 = (if j3 < (g (i1 + (((i2 - i1).toUInt32 >>> ((1 : Int32) &&& 31).toUInt32).toInt32))) then i1 else (i1 + (((i2 - i1).toUInt32 >>> ((1 : Int32) &&& 31).toUInt32).toInt32)))) (c11 : (1 : Int32) < (i2 - i1)) (c56 : i1 < i2) (c65 : ¬ j3 < (g bs)) : (bs + (1 : Int32)) = (fstA g i1 i2 j3) := by
  first | (have e : loopA g j3 6 i1 (i2 - i1) = bs := (by rw [loopA, if_pos c11, ← hu1]; exact (hI.trans hR).symm); rw [fstA, e, fstB]; first | rw [if_pos c56, if_pos c65] | rw [if_pos c56, if_neg c65] | rw [if_neg c56]) | (have e : loopA g j3 6 i1 (i2 - i1) = i1 := (by rw [loopA, if_neg c11]); rw [fstA, e, fstB]; first | rw [if_pos c56, if_pos c65] | rw [if_pos c56, if_neg c65] | rw [if_neg c56])
set_option maxRecDepth 65536 in
set_option maxHeartbeats 40000000 in
theorem own_ret5_6 (o0 : Addr) (i1 : Int32) (i2 : Int32) (j3 : Int64) (k1 : ClassId) (n1 : Int32) (vs : List Value) (dv : Value) (g : Int32 → Int64) (R : Int32) (k : Nat) (bs : Int32) (nn : Int32) (hlf : Int32) (u1 : Int32) (hg : ∀ j : Int32, ¬ j < (0 : Int32) ∧ j < n1 → vs.getD j.toNatClampNeg dv = .long (g j)) (hf0 : ¬ i1 < (0 : Int32)) (ht : ¬ n1 < i2) (hft : ¬ i2 < i1) (hn6 : ¬ (6 : Int32) < n1) (hR : R = own_lA g j3 5 u1 ((i2 - i1) - (((i2 - i1).toUInt32 >>> ((1 : Int32) &&& 31).toUInt32).toInt32)) (((i2 - i1).toUInt32 >>> ((1 : Int32) &&& 31).toUInt32).toInt32)) (hk : nn.toInt ≤ (k + 1) + 1) (h1 : i1.toInt ≤ bs.toInt ∧ bs.toInt + nn.toInt ≤ i2.toInt ∧ (i1.toInt < i2.toInt → 0 < nn.toInt)) (hI : bs = R) (hu1 : u1 = (if j3 < (g (i1 + (((i2 - i1).toUInt32 >>> ((1 : Int32) &&& 31).toUInt32).toInt32))) then i1 else (i1 + (((i2 - i1).toUInt32 >>> ((1 : Int32) &&& 31).toUInt32).toInt32)))) (c11 : (1 : Int32) < (i2 - i1)) (c11_1 : ¬ (1 : Int32) < nn) (c56 : ¬ i1 < i2) : bs = (fstA g i1 i2 j3) := by
  first | (have e : loopA g j3 6 i1 (i2 - i1) = bs := (by rw [loopA, if_pos c11, ← hu1]; exact (hI.trans hR).symm); rw [fstA, e, fstB]; first | rw [if_pos c56, if_pos c65] | rw [if_pos c56, if_neg c65] | rw [if_neg c56]) | (have e : loopA g j3 6 i1 (i2 - i1) = i1 := (by rw [loopA, if_neg c11]); rw [fstA, e, fstB]; first | rw [if_pos c56, if_pos c65] | rw [if_pos c56, if_neg c65] | rw [if_neg c56])
set_option maxRecDepth 65536 in
set_option maxHeartbeats 40000000 in
theorem own_pre5_4 (o0 : Addr) (i1 : Int32) (i2 : Int32) (j3 : Int64) (k1 : ClassId) (n1 : Int32) (vs : List Value) (dv : Value) (g : Int32 → Int64) (R : Int32) (k : Nat) (bs : Int32) (nn : Int32) (hlf : Int32) (u1 : Int32) (hg : ∀ j : Int32, ¬ j < (0 : Int32) ∧ j < n1 → vs.getD j.toNatClampNeg dv = .long (g j)) (hf0 : ¬ i1 < (0 : Int32)) (ht : ¬ n1 < i2) (hft : ¬ i2 < i1) (hn6 : ¬ (6 : Int32) < n1) (hR : R = own_lA g j3 5 u1 ((i2 - i1) - (((i2 - i1).toUInt32 >>> ((1 : Int32) &&& 31).toUInt32).toInt32)) (((i2 - i1).toUInt32 >>> ((1 : Int32) &&& 31).toUInt32).toInt32)) (hk : nn.toInt ≤ (k + 1) + 1) (h1 : i1.toInt ≤ bs.toInt ∧ bs.toInt + nn.toInt ≤ i2.toInt ∧ (i1.toInt < i2.toInt → 0 < nn.toInt)) (hu1 : u1 = (if j3 < (g (i1 + (((i2 - i1).toUInt32 >>> ((1 : Int32) &&& 31).toUInt32).toInt32))) then i1 else (i1 + (((i2 - i1).toUInt32 >>> ((1 : Int32) &&& 31).toUInt32).toInt32)))) (c11 : (1 : Int32) < (i2 - i1)) (c11_1 : ¬ (1 : Int32) < nn) (c56 : i1 < i2) : ¬ bs < (0 : Int32) ∧ bs < n1 := by
  first | (clear hg hR; have ca_0 := c_iushr (nn) 1 1 (by decide) (by decide); have ca_1 := c_iadd bs ((nn.toUInt32 >>> ((1 : Int32) &&& 31).toUInt32).toInt32); have ca_2 := c_isub (nn) ((nn.toUInt32 >>> ((1 : Int32) &&& 31).toUInt32).toInt32); have bl_0 := (bs).le_toInt; have bu_0 := (bs).toInt_lt; have bl_1 := (nn).le_toInt; have bu_1 := (nn).toInt_lt; have bl_2 := (bs + ((nn.toUInt32 >>> ((1 : Int32) &&& 31).toUInt32).toInt32)).le_toInt; have bu_2 := (bs + ((nn.toUInt32 >>> ((1 : Int32) &&& 31).toUInt32).toInt32)).toInt_lt; have bl_3 := ((nn) - ((nn.toUInt32 >>> ((1 : Int32) &&& 31).toUInt32).toInt32)).le_toInt; have bu_3 := ((nn) - ((nn.toUInt32 >>> ((1 : Int32) &&& 31).toUInt32).toInt32)).toInt_lt; have bl_4 := (i1).le_toInt; have bu_4 := (i1).toInt_lt; have bl_5 := (i2).le_toInt; have bu_5 := (i2).toInt_lt; have bl_6 := (n1).le_toInt; have bu_6 := (n1).toInt_lt; (try simp only [own_eqite, own_iteeq] at *); (try simp only [ne_eq, and_true, true_and, or_true, true_or, and_false, false_and, or_false, false_or, not_true_eq_false, not_false_eq_true, Int32.lt_iff_toInt_lt, Int64.lt_iff_toInt_lt, ← Int32.toInt_inj, ← Int64.toInt_inj, Int32.reduceToInt, Int64.reduceToInt] at *); omega) | (clear hg; have ca_0 := c_isub i2 i1; have ca_1 := c_iushr (i2 - i1) 1 1 (by decide) (by decide); have ca_2 := c_iadd i1 (((i2 - i1).toUInt32 >>> ((1 : Int32) &&& 31).toUInt32).toInt32); have ca_3 := c_isub (i2 - i1) (((i2 - i1).toUInt32 >>> ((1 : Int32) &&& 31).toUInt32).toInt32); have bl_0 := (i1).le_toInt; have bu_0 := (i1).toInt_lt; have bl_1 := (i2 - i1).le_toInt; have bu_1 := (i2 - i1).toInt_lt; have bl_2 := (i1 + (((i2 - i1).toUInt32 >>> ((1 : Int32) &&& 31).toUInt32).toInt32)).le_toInt; have bu_2 := (i1 + (((i2 - i1).toUInt32 >>> ((1 : Int32) &&& 31).toUInt32).toInt32)).toInt_lt; have bl_3 := ((i2 - i1) - (((i2 - i1).toUInt32 >>> ((1 : Int32) &&& 31).toUInt32).toInt32)).le_toInt; have bu_3 := ((i2 - i1) - (((i2 - i1).toUInt32 >>> ((1 : Int32) &&& 31).toUInt32).toInt32)).toInt_lt; have bl_4 := (i2).le_toInt; have bu_4 := (i2).toInt_lt; have bl_5 := (n1).le_toInt; have bu_5 := (n1).toInt_lt; (try simp only [own_eqite, own_iteeq] at *); (try simp only [ne_eq, and_true, true_and, or_true, true_or, and_false, false_and, or_false, false_or, not_true_eq_false, not_false_eq_true, Int32.lt_iff_toInt_lt, Int64.lt_iff_toInt_lt, ← Int32.toInt_inj, ← Int64.toInt_inj, Int32.reduceToInt, Int64.reduceToInt] at *); omega)
set_option maxRecDepth 65536 in
set_option maxHeartbeats 40000000 in
theorem own_ret5_7 (o0 : Addr) (i1 : Int32) (i2 : Int32) (j3 : Int64) (k1 : ClassId) (n1 : Int32) (vs : List Value) (dv : Value) (g : Int32 → Int64) (R : Int32) (k : Nat) (bs : Int32) (nn : Int32) (hlf : Int32) (u1 : Int32) (hg : ∀ j : Int32, ¬ j < (0 : Int32) ∧ j < n1 → vs.getD j.toNatClampNeg dv = .long (g j)) (hf0 : ¬ i1 < (0 : Int32)) (ht : ¬ n1 < i2) (hft : ¬ i2 < i1) (hn6 : ¬ (6 : Int32) < n1) (hR : R = own_lA g j3 5 u1 ((i2 - i1) - (((i2 - i1).toUInt32 >>> ((1 : Int32) &&& 31).toUInt32).toInt32)) (((i2 - i1).toUInt32 >>> ((1 : Int32) &&& 31).toUInt32).toInt32)) (hk : nn.toInt ≤ (k + 1) + 1) (h1 : i1.toInt ≤ bs.toInt ∧ bs.toInt + nn.toInt ≤ i2.toInt ∧ (i1.toInt < i2.toInt → 0 < nn.toInt)) (hI : bs = R) (hu1 : u1 = (if j3 < (g (i1 + (((i2 - i1).toUInt32 >>> ((1 : Int32) &&& 31).toUInt32).toInt32))) then i1 else (i1 + (((i2 - i1).toUInt32 >>> ((1 : Int32) &&& 31).toUInt32).toInt32)))) (c11 : (1 : Int32) < (i2 - i1)) (c11_1 : ¬ (1 : Int32) < nn) (c56 : i1 < i2) (c65 : j3 < (g bs)) : bs = (fstA g i1 i2 j3) := by
  first | (have e : loopA g j3 6 i1 (i2 - i1) = bs := (by rw [loopA, if_pos c11, ← hu1]; exact (hI.trans hR).symm); rw [fstA, e, fstB]; first | rw [if_pos c56, if_pos c65] | rw [if_pos c56, if_neg c65] | rw [if_neg c56]) | (have e : loopA g j3 6 i1 (i2 - i1) = i1 := (by rw [loopA, if_neg c11]); rw [fstA, e, fstB]; first | rw [if_pos c56, if_pos c65] | rw [if_pos c56, if_neg c65] | rw [if_neg c56])
set_option maxRecDepth 65536 in
set_option maxHeartbeats 40000000 in
theorem own_ret5_8 (o0 : Addr) (i1 : Int32) (i2 : Int32) (j3 : Int64) (k1 : ClassId) (n1 : Int32) (vs : List Value) (dv : Value) (g : Int32 → Int64) (R : Int32) (k : Nat) (bs : Int32) (nn : Int32) (hlf : Int32) (u1 : Int32) (hg : ∀ j : Int32, ¬ j < (0 : Int32) ∧ j < n1 → vs.getD j.toNatClampNeg dv = .long (g j)) (hf0 : ¬ i1 < (0 : Int32)) (ht : ¬ n1 < i2) (hft : ¬ i2 < i1) (hn6 : ¬ (6 : Int32) < n1) (hR : R = own_lA g j3 5 u1 ((i2 - i1) - (((i2 - i1).toUInt32 >>> ((1 : Int32) &&& 31).toUInt32).toInt32)) (((i2 - i1).toUInt32 >>> ((1 : Int32) &&& 31).toUInt32).toInt32)) (hk : nn.toInt ≤ (k + 1) + 1) (h1 : i1.toInt ≤ bs.toInt ∧ bs.toInt + nn.toInt ≤ i2.toInt ∧ (i1.toInt < i2.toInt → 0 < nn.toInt)) (hI : bs = R) (hu1 : u1 = (if j3 < (g (i1 + (((i2 - i1).toUInt32 >>> ((1 : Int32) &&& 31).toUInt32).toInt32))) then i1 else (i1 + (((i2 - i1).toUInt32 >>> ((1 : Int32) &&& 31).toUInt32).toInt32)))) (c11 : (1 : Int32) < (i2 - i1)) (c11_1 : ¬ (1 : Int32) < nn) (c56 : i1 < i2) (c65 : ¬ j3 < (g bs)) : (bs + (1 : Int32)) = (fstA g i1 i2 j3) := by
  first | (have e : loopA g j3 6 i1 (i2 - i1) = bs := (by rw [loopA, if_pos c11, ← hu1]; exact (hI.trans hR).symm); rw [fstA, e, fstB]; first | rw [if_pos c56, if_pos c65] | rw [if_pos c56, if_neg c65] | rw [if_neg c56]) | (have e : loopA g j3 6 i1 (i2 - i1) = i1 := (by rw [loopA, if_neg c11]); rw [fstA, e, fstB]; first | rw [if_pos c56, if_pos c65] | rw [if_pos c56, if_neg c65] | rw [if_neg c56])
set_option maxRecDepth 65536 in
set_option maxHeartbeats 40000000 in
theorem own_pre5_5 (o0 : Addr) (i1 : Int32) (i2 : Int32) (j3 : Int64) (k1 : ClassId) (n1 : Int32) (vs : List Value) (dv : Value) (g : Int32 → Int64) (R : Int32) (k : Nat) (bs : Int32) (nn : Int32) (hlf : Int32) (u1 : Int32) (hg : ∀ j : Int32, ¬ j < (0 : Int32) ∧ j < n1 → vs.getD j.toNatClampNeg dv = .long (g j)) (hf0 : ¬ i1 < (0 : Int32)) (ht : ¬ n1 < i2) (hft : ¬ i2 < i1) (hn6 : ¬ (6 : Int32) < n1) (hR : R = own_lA g j3 5 u1 ((i2 - i1) - (((i2 - i1).toUInt32 >>> ((1 : Int32) &&& 31).toUInt32).toInt32)) (((i2 - i1).toUInt32 >>> ((1 : Int32) &&& 31).toUInt32).toInt32)) (hk : nn.toInt ≤ (k + 1) + 1) (h1 : i1.toInt ≤ bs.toInt ∧ bs.toInt + nn.toInt ≤ i2.toInt ∧ (i1.toInt < i2.toInt → 0 < nn.toInt)) (hu1 : u1 = (if j3 < (g (i1 + (((i2 - i1).toUInt32 >>> ((1 : Int32) &&& 31).toUInt32).toInt32))) then i1 else (i1 + (((i2 - i1).toUInt32 >>> ((1 : Int32) &&& 31).toUInt32).toInt32)))) (c11 : (1 : Int32) < (i2 - i1)) (c11_1 : (1 : Int32) < nn) : ¬ (bs + ((nn.toUInt32 >>> ((1 : Int32) &&& 31).toUInt32).toInt32)) < (0 : Int32) ∧ (bs + ((nn.toUInt32 >>> ((1 : Int32) &&& 31).toUInt32).toInt32)) < n1 := by
  first | (clear hg hR; have ca_0 := c_iushr (nn) 1 1 (by decide) (by decide); have ca_1 := c_iadd bs ((nn.toUInt32 >>> ((1 : Int32) &&& 31).toUInt32).toInt32); have ca_2 := c_isub (nn) ((nn.toUInt32 >>> ((1 : Int32) &&& 31).toUInt32).toInt32); have bl_0 := (bs).le_toInt; have bu_0 := (bs).toInt_lt; have bl_1 := (nn).le_toInt; have bu_1 := (nn).toInt_lt; have bl_2 := (bs + ((nn.toUInt32 >>> ((1 : Int32) &&& 31).toUInt32).toInt32)).le_toInt; have bu_2 := (bs + ((nn.toUInt32 >>> ((1 : Int32) &&& 31).toUInt32).toInt32)).toInt_lt; have bl_3 := ((nn) - ((nn.toUInt32 >>> ((1 : Int32) &&& 31).toUInt32).toInt32)).le_toInt; have bu_3 := ((nn) - ((nn.toUInt32 >>> ((1 : Int32) &&& 31).toUInt32).toInt32)).toInt_lt; have bl_4 := (i1).le_toInt; have bu_4 := (i1).toInt_lt; have bl_5 := (i2).le_toInt; have bu_5 := (i2).toInt_lt; have bl_6 := (n1).le_toInt; have bu_6 := (n1).toInt_lt; (try simp only [own_eqite, own_iteeq] at *); (try simp only [ne_eq, and_true, true_and, or_true, true_or, and_false, false_and, or_false, false_or, not_true_eq_false, not_false_eq_true, Int32.lt_iff_toInt_lt, Int64.lt_iff_toInt_lt, ← Int32.toInt_inj, ← Int64.toInt_inj, Int32.reduceToInt, Int64.reduceToInt] at *); omega) | (clear hg; have ca_0 := c_isub i2 i1; have ca_1 := c_iushr (i2 - i1) 1 1 (by decide) (by decide); have ca_2 := c_iadd i1 (((i2 - i1).toUInt32 >>> ((1 : Int32) &&& 31).toUInt32).toInt32); have ca_3 := c_isub (i2 - i1) (((i2 - i1).toUInt32 >>> ((1 : Int32) &&& 31).toUInt32).toInt32); have bl_0 := (i1).le_toInt; have bu_0 := (i1).toInt_lt; have bl_1 := (i2 - i1).le_toInt; have bu_1 := (i2 - i1).toInt_lt; have bl_2 := (i1 + (((i2 - i1).toUInt32 >>> ((1 : Int32) &&& 31).toUInt32).toInt32)).le_toInt; have bu_2 := (i1 + (((i2 - i1).toUInt32 >>> ((1 : Int32) &&& 31).toUInt32).toInt32)).toInt_lt; have bl_3 := ((i2 - i1) - (((i2 - i1).toUInt32 >>> ((1 : Int32) &&& 31).toUInt32).toInt32)).le_toInt; have bu_3 := ((i2 - i1) - (((i2 - i1).toUInt32 >>> ((1 : Int32) &&& 31).toUInt32).toInt32)).toInt_lt; have bl_4 := (i2).le_toInt; have bu_4 := (i2).toInt_lt; have bl_5 := (n1).le_toInt; have bu_5 := (n1).toInt_lt; (try simp only [own_eqite, own_iteeq] at *); (try simp only [ne_eq, and_true, true_and, or_true, true_or, and_false, false_and, or_false, false_or, not_true_eq_false, not_false_eq_true, Int32.lt_iff_toInt_lt, Int64.lt_iff_toInt_lt, ← Int32.toInt_inj, ← Int64.toInt_inj, Int32.reduceToInt, Int64.reduceToInt] at *); omega)
set_option maxRecDepth 65536 in
set_option maxHeartbeats 40000000 in
theorem own_inv5_0 (o0 : Addr) (i1 : Int32) (i2 : Int32) (j3 : Int64) (k1 : ClassId) (n1 : Int32) (vs : List Value) (dv : Value) (g : Int32 → Int64) (R : Int32) (k : Nat) (bs : Int32) (nn : Int32) (hlf : Int32) (u1 : Int32) (u5 : Int32) (hg : ∀ j : Int32, ¬ j < (0 : Int32) ∧ j < n1 → vs.getD j.toNatClampNeg dv = .long (g j)) (hf0 : ¬ i1 < (0 : Int32)) (ht : ¬ n1 < i2) (hft : ¬ i2 < i1) (hn6 : ¬ (6 : Int32) < n1) (hR : R = own_lA g j3 5 u1 ((i2 - i1) - (((i2 - i1).toUInt32 >>> ((1 : Int32) &&& 31).toUInt32).toInt32)) (((i2 - i1).toUInt32 >>> ((1 : Int32) &&& 31).toUInt32).toInt32)) (hk : nn.toInt ≤ (k + 1) + 1) (h1 : i1.toInt ≤ bs.toInt ∧ bs.toInt + nn.toInt ≤ i2.toInt ∧ (i1.toInt < i2.toInt → 0 < nn.toInt)) (hu1 : u1 = (if j3 < (g (i1 + (((i2 - i1).toUInt32 >>> ((1 : Int32) &&& 31).toUInt32).toInt32))) then i1 else (i1 + (((i2 - i1).toUInt32 >>> ((1 : Int32) &&& 31).toUInt32).toInt32)))) (hu5 : u5 = (if j3 < (g (bs + ((nn.toUInt32 >>> ((1 : Int32) &&& 31).toUInt32).toInt32))) then bs else (bs + ((nn.toUInt32 >>> ((1 : Int32) &&& 31).toUInt32).toInt32)))) (c11 : (1 : Int32) < (i2 - i1)) (c11_1 : (1 : Int32) < nn) : (nn - ((nn.toUInt32 >>> ((1 : Int32) &&& 31).toUInt32).toInt32)).toInt ≤ k + 1 := by
  first | (clear hg hR; have ca_0 := c_iushr (nn) 1 1 (by decide) (by decide); have ca_1 := c_iadd bs ((nn.toUInt32 >>> ((1 : Int32) &&& 31).toUInt32).toInt32); have ca_2 := c_isub (nn) ((nn.toUInt32 >>> ((1 : Int32) &&& 31).toUInt32).toInt32); have bl_0 := (bs).le_toInt; have bu_0 := (bs).toInt_lt; have bl_1 := (nn).le_toInt; have bu_1 := (nn).toInt_lt; have bl_2 := (bs + ((nn.toUInt32 >>> ((1 : Int32) &&& 31).toUInt32).toInt32)).le_toInt; have bu_2 := (bs + ((nn.toUInt32 >>> ((1 : Int32) &&& 31).toUInt32).toInt32)).toInt_lt; have bl_3 := ((nn) - ((nn.toUInt32 >>> ((1 : Int32) &&& 31).toUInt32).toInt32)).le_toInt; have bu_3 := ((nn) - ((nn.toUInt32 >>> ((1 : Int32) &&& 31).toUInt32).toInt32)).toInt_lt; have bl_4 := (i1).le_toInt; have bu_4 := (i1).toInt_lt; have bl_5 := (i2).le_toInt; have bu_5 := (i2).toInt_lt; have bl_6 := (n1).le_toInt; have bu_6 := (n1).toInt_lt; (try simp only [own_eqite, own_iteeq] at *); (try simp only [ne_eq, and_true, true_and, or_true, true_or, and_false, false_and, or_false, false_or, not_true_eq_false, not_false_eq_true, Int32.lt_iff_toInt_lt, Int64.lt_iff_toInt_lt, ← Int32.toInt_inj, ← Int64.toInt_inj, Int32.reduceToInt, Int64.reduceToInt] at *); omega) | (clear hg; have ca_0 := c_isub i2 i1; have ca_1 := c_iushr (i2 - i1) 1 1 (by decide) (by decide); have ca_2 := c_iadd i1 (((i2 - i1).toUInt32 >>> ((1 : Int32) &&& 31).toUInt32).toInt32); have ca_3 := c_isub (i2 - i1) (((i2 - i1).toUInt32 >>> ((1 : Int32) &&& 31).toUInt32).toInt32); have bl_0 := (i1).le_toInt; have bu_0 := (i1).toInt_lt; have bl_1 := (i2 - i1).le_toInt; have bu_1 := (i2 - i1).toInt_lt; have bl_2 := (i1 + (((i2 - i1).toUInt32 >>> ((1 : Int32) &&& 31).toUInt32).toInt32)).le_toInt; have bu_2 := (i1 + (((i2 - i1).toUInt32 >>> ((1 : Int32) &&& 31).toUInt32).toInt32)).toInt_lt; have bl_3 := ((i2 - i1) - (((i2 - i1).toUInt32 >>> ((1 : Int32) &&& 31).toUInt32).toInt32)).le_toInt; have bu_3 := ((i2 - i1) - (((i2 - i1).toUInt32 >>> ((1 : Int32) &&& 31).toUInt32).toInt32)).toInt_lt; have bl_4 := (i2).le_toInt; have bu_4 := (i2).toInt_lt; have bl_5 := (n1).le_toInt; have bu_5 := (n1).toInt_lt; (try simp only [own_eqite, own_iteeq] at *); (try simp only [ne_eq, and_true, true_and, or_true, true_or, and_false, false_and, or_false, false_or, not_true_eq_false, not_false_eq_true, Int32.lt_iff_toInt_lt, Int64.lt_iff_toInt_lt, ← Int32.toInt_inj, ← Int64.toInt_inj, Int32.reduceToInt, Int64.reduceToInt] at *); omega)
set_option maxRecDepth 65536 in
set_option maxHeartbeats 40000000 in
theorem own_inv5_1 (o0 : Addr) (i1 : Int32) (i2 : Int32) (j3 : Int64) (k1 : ClassId) (n1 : Int32) (vs : List Value) (dv : Value) (g : Int32 → Int64) (R : Int32) (k : Nat) (bs : Int32) (nn : Int32) (hlf : Int32) (u1 : Int32) (u5 : Int32) (hg : ∀ j : Int32, ¬ j < (0 : Int32) ∧ j < n1 → vs.getD j.toNatClampNeg dv = .long (g j)) (hf0 : ¬ i1 < (0 : Int32)) (ht : ¬ n1 < i2) (hft : ¬ i2 < i1) (hn6 : ¬ (6 : Int32) < n1) (hR : R = own_lA g j3 5 u1 ((i2 - i1) - (((i2 - i1).toUInt32 >>> ((1 : Int32) &&& 31).toUInt32).toInt32)) (((i2 - i1).toUInt32 >>> ((1 : Int32) &&& 31).toUInt32).toInt32)) (hk : nn.toInt ≤ (k + 1) + 1) (h1 : i1.toInt ≤ bs.toInt ∧ bs.toInt + nn.toInt ≤ i2.toInt ∧ (i1.toInt < i2.toInt → 0 < nn.toInt)) (hu1 : u1 = (if j3 < (g (i1 + (((i2 - i1).toUInt32 >>> ((1 : Int32) &&& 31).toUInt32).toInt32))) then i1 else (i1 + (((i2 - i1).toUInt32 >>> ((1 : Int32) &&& 31).toUInt32).toInt32)))) (hu5 : u5 = (if j3 < (g (bs + ((nn.toUInt32 >>> ((1 : Int32) &&& 31).toUInt32).toInt32))) then bs else (bs + ((nn.toUInt32 >>> ((1 : Int32) &&& 31).toUInt32).toInt32)))) (c11 : (1 : Int32) < (i2 - i1)) (c11_1 : (1 : Int32) < nn) : i1.toInt ≤ u5.toInt ∧ u5.toInt + (nn - ((nn.toUInt32 >>> ((1 : Int32) &&& 31).toUInt32).toInt32)).toInt ≤ i2.toInt ∧ (i1.toInt < i2.toInt → 0 < (nn - ((nn.toUInt32 >>> ((1 : Int32) &&& 31).toUInt32).toInt32)).toInt) := by
  first | (clear hg hR; have ca_0 := c_iushr (nn) 1 1 (by decide) (by decide); have ca_1 := c_iadd bs ((nn.toUInt32 >>> ((1 : Int32) &&& 31).toUInt32).toInt32); have ca_2 := c_isub (nn) ((nn.toUInt32 >>> ((1 : Int32) &&& 31).toUInt32).toInt32); have bl_0 := (bs).le_toInt; have bu_0 := (bs).toInt_lt; have bl_1 := (nn).le_toInt; have bu_1 := (nn).toInt_lt; have bl_2 := (bs + ((nn.toUInt32 >>> ((1 : Int32) &&& 31).toUInt32).toInt32)).le_toInt; have bu_2 := (bs + ((nn.toUInt32 >>> ((1 : Int32) &&& 31).toUInt32).toInt32)).toInt_lt; have bl_3 := ((nn) - ((nn.toUInt32 >>> ((1 : Int32) &&& 31).toUInt32).toInt32)).le_toInt; have bu_3 := ((nn) - ((nn.toUInt32 >>> ((1 : Int32) &&& 31).toUInt32).toInt32)).toInt_lt; have bl_4 := (i1).le_toInt; have bu_4 := (i1).toInt_lt; have bl_5 := (i2).le_toInt; have bu_5 := (i2).toInt_lt; have bl_6 := (n1).le_toInt; have bu_6 := (n1).toInt_lt; (try simp only [own_eqite, own_iteeq] at *); (try simp only [ne_eq, and_true, true_and, or_true, true_or, and_false, false_and, or_false, false_or, not_true_eq_false, not_false_eq_true, Int32.lt_iff_toInt_lt, Int64.lt_iff_toInt_lt, ← Int32.toInt_inj, ← Int64.toInt_inj, Int32.reduceToInt, Int64.reduceToInt] at *); omega) | (clear hg; have ca_0 := c_isub i2 i1; have ca_1 := c_iushr (i2 - i1) 1 1 (by decide) (by decide); have ca_2 := c_iadd i1 (((i2 - i1).toUInt32 >>> ((1 : Int32) &&& 31).toUInt32).toInt32); have ca_3 := c_isub (i2 - i1) (((i2 - i1).toUInt32 >>> ((1 : Int32) &&& 31).toUInt32).toInt32); have bl_0 := (i1).le_toInt; have bu_0 := (i1).toInt_lt; have bl_1 := (i2 - i1).le_toInt; have bu_1 := (i2 - i1).toInt_lt; have bl_2 := (i1 + (((i2 - i1).toUInt32 >>> ((1 : Int32) &&& 31).toUInt32).toInt32)).le_toInt; have bu_2 := (i1 + (((i2 - i1).toUInt32 >>> ((1 : Int32) &&& 31).toUInt32).toInt32)).toInt_lt; have bl_3 := ((i2 - i1) - (((i2 - i1).toUInt32 >>> ((1 : Int32) &&& 31).toUInt32).toInt32)).le_toInt; have bu_3 := ((i2 - i1) - (((i2 - i1).toUInt32 >>> ((1 : Int32) &&& 31).toUInt32).toInt32)).toInt_lt; have bl_4 := (i2).le_toInt; have bu_4 := (i2).toInt_lt; have bl_5 := (n1).le_toInt; have bu_5 := (n1).toInt_lt; (try simp only [own_eqite, own_iteeq] at *); (try simp only [ne_eq, and_true, true_and, or_true, true_or, and_false, false_and, or_false, false_or, not_true_eq_false, not_false_eq_true, Int32.lt_iff_toInt_lt, Int64.lt_iff_toInt_lt, ← Int32.toInt_inj, ← Int64.toInt_inj, Int32.reduceToInt, Int64.reduceToInt] at *); omega)
set_option maxRecDepth 65536 in
set_option maxHeartbeats 40000000 in
theorem own_inv5_2 (o0 : Addr) (i1 : Int32) (i2 : Int32) (j3 : Int64) (k1 : ClassId) (n1 : Int32) (vs : List Value) (dv : Value) (g : Int32 → Int64) (u1 : Int32) (hg : ∀ j : Int32, ¬ j < (0 : Int32) ∧ j < n1 → vs.getD j.toNatClampNeg dv = .long (g j)) (hf0 : ¬ i1 < (0 : Int32)) (ht : ¬ n1 < i2) (hft : ¬ i2 < i1) (hn6 : ¬ (6 : Int32) < n1) (hu1 : u1 = (if j3 < (g (i1 + (((i2 - i1).toUInt32 >>> ((1 : Int32) &&& 31).toUInt32).toInt32))) then i1 else (i1 + (((i2 - i1).toUInt32 >>> ((1 : Int32) &&& 31).toUInt32).toInt32)))) (c11 : (1 : Int32) < (i2 - i1)) : ((i2 - i1) - (((i2 - i1).toUInt32 >>> ((1 : Int32) &&& 31).toUInt32).toInt32)).toInt ≤ 5 + 1 := by
  first | (clear hg hR; have ca_0 := c_iushr (nn) 1 1 (by decide) (by decide); have ca_1 := c_iadd bs ((nn.toUInt32 >>> ((1 : Int32) &&& 31).toUInt32).toInt32); have ca_2 := c_isub (nn) ((nn.toUInt32 >>> ((1 : Int32) &&& 31).toUInt32).toInt32); have bl_0 := (bs).le_toInt; have bu_0 := (bs).toInt_lt; have bl_1 := (nn).le_toInt; have bu_1 := (nn).toInt_lt; have bl_2 := (bs + ((nn.toUInt32 >>> ((1 : Int32) &&& 31).toUInt32).toInt32)).le_toInt; have bu_2 := (bs + ((nn.toUInt32 >>> ((1 : Int32) &&& 31).toUInt32).toInt32)).toInt_lt; have bl_3 := ((nn) - ((nn.toUInt32 >>> ((1 : Int32) &&& 31).toUInt32).toInt32)).le_toInt; have bu_3 := ((nn) - ((nn.toUInt32 >>> ((1 : Int32) &&& 31).toUInt32).toInt32)).toInt_lt; have bl_4 := (i1).le_toInt; have bu_4 := (i1).toInt_lt; have bl_5 := (i2).le_toInt; have bu_5 := (i2).toInt_lt; have bl_6 := (n1).le_toInt; have bu_6 := (n1).toInt_lt; (try simp only [own_eqite, own_iteeq] at *); (try simp only [ne_eq, and_true, true_and, or_true, true_or, and_false, false_and, or_false, false_or, not_true_eq_false, not_false_eq_true, Int32.lt_iff_toInt_lt, Int64.lt_iff_toInt_lt, ← Int32.toInt_inj, ← Int64.toInt_inj, Int32.reduceToInt, Int64.reduceToInt] at *); omega) | (clear hg; have ca_0 := c_isub i2 i1; have ca_1 := c_iushr (i2 - i1) 1 1 (by decide) (by decide); have ca_2 := c_iadd i1 (((i2 - i1).toUInt32 >>> ((1 : Int32) &&& 31).toUInt32).toInt32); have ca_3 := c_isub (i2 - i1) (((i2 - i1).toUInt32 >>> ((1 : Int32) &&& 31).toUInt32).toInt32); have bl_0 := (i1).le_toInt; have bu_0 := (i1).toInt_lt; have bl_1 := (i2 - i1).le_toInt; have bu_1 := (i2 - i1).toInt_lt; have bl_2 := (i1 + (((i2 - i1).toUInt32 >>> ((1 : Int32) &&& 31).toUInt32).toInt32)).le_toInt; have bu_2 := (i1 + (((i2 - i1).toUInt32 >>> ((1 : Int32) &&& 31).toUInt32).toInt32)).toInt_lt; have bl_3 := ((i2 - i1) - (((i2 - i1).toUInt32 >>> ((1 : Int32) &&& 31).toUInt32).toInt32)).le_toInt; have bu_3 := ((i2 - i1) - (((i2 - i1).toUInt32 >>> ((1 : Int32) &&& 31).toUInt32).toInt32)).toInt_lt; have bl_4 := (i2).le_toInt; have bu_4 := (i2).toInt_lt; have bl_5 := (n1).le_toInt; have bu_5 := (n1).toInt_lt; (try simp only [own_eqite, own_iteeq] at *); (try simp only [ne_eq, and_true, true_and, or_true, true_or, and_false, false_and, or_false, false_or, not_true_eq_false, not_false_eq_true, Int32.lt_iff_toInt_lt, Int64.lt_iff_toInt_lt, ← Int32.toInt_inj, ← Int64.toInt_inj, Int32.reduceToInt, Int64.reduceToInt] at *); omega)
set_option maxRecDepth 65536 in
set_option maxHeartbeats 40000000 in
theorem own_inv5_3 (o0 : Addr) (i1 : Int32) (i2 : Int32) (j3 : Int64) (k1 : ClassId) (n1 : Int32) (vs : List Value) (dv : Value) (g : Int32 → Int64) (u1 : Int32) (hg : ∀ j : Int32, ¬ j < (0 : Int32) ∧ j < n1 → vs.getD j.toNatClampNeg dv = .long (g j)) (hf0 : ¬ i1 < (0 : Int32)) (ht : ¬ n1 < i2) (hft : ¬ i2 < i1) (hn6 : ¬ (6 : Int32) < n1) (hu1 : u1 = (if j3 < (g (i1 + (((i2 - i1).toUInt32 >>> ((1 : Int32) &&& 31).toUInt32).toInt32))) then i1 else (i1 + (((i2 - i1).toUInt32 >>> ((1 : Int32) &&& 31).toUInt32).toInt32)))) (c11 : (1 : Int32) < (i2 - i1)) : i1.toInt ≤ u1.toInt ∧ u1.toInt + ((i2 - i1) - (((i2 - i1).toUInt32 >>> ((1 : Int32) &&& 31).toUInt32).toInt32)).toInt ≤ i2.toInt ∧ (i1.toInt < i2.toInt → 0 < ((i2 - i1) - (((i2 - i1).toUInt32 >>> ((1 : Int32) &&& 31).toUInt32).toInt32)).toInt) := by
  first | (clear hg hR; have ca_0 := c_iushr (nn) 1 1 (by decide) (by decide); have ca_1 := c_iadd bs ((nn.toUInt32 >>> ((1 : Int32) &&& 31).toUInt32).toInt32); have ca_2 := c_isub (nn) ((nn.toUInt32 >>> ((1 : Int32) &&& 31).toUInt32).toInt32); have bl_0 := (bs).le_toInt; have bu_0 := (bs).toInt_lt; have bl_1 := (nn).le_toInt; have bu_1 := (nn).toInt_lt; have bl_2 := (bs + ((nn.toUInt32 >>> ((1 : Int32) &&& 31).toUInt32).toInt32)).le_toInt; have bu_2 := (bs + ((nn.toUInt32 >>> ((1 : Int32) &&& 31).toUInt32).toInt32)).toInt_lt; have bl_3 := ((nn) - ((nn.toUInt32 >>> ((1 : Int32) &&& 31).toUInt32).toInt32)).le_toInt; have bu_3 := ((nn) - ((nn.toUInt32 >>> ((1 : Int32) &&& 31).toUInt32).toInt32)).toInt_lt; have bl_4 := (i1).le_toInt; have bu_4 := (i1).toInt_lt; have bl_5 := (i2).le_toInt; have bu_5 := (i2).toInt_lt; have bl_6 := (n1).le_toInt; have bu_6 := (n1).toInt_lt; (try simp only [own_eqite, own_iteeq] at *); (try simp only [ne_eq, and_true, true_and, or_true, true_or, and_false, false_and, or_false, false_or, not_true_eq_false, not_false_eq_true, Int32.lt_iff_toInt_lt, Int64.lt_iff_toInt_lt, ← Int32.toInt_inj, ← Int64.toInt_inj, Int32.reduceToInt, Int64.reduceToInt] at *); omega) | (clear hg; have ca_0 := c_isub i2 i1; have ca_1 := c_iushr (i2 - i1) 1 1 (by decide) (by decide); have ca_2 := c_iadd i1 (((i2 - i1).toUInt32 >>> ((1 : Int32) &&& 31).toUInt32).toInt32); have ca_3 := c_isub (i2 - i1) (((i2 - i1).toUInt32 >>> ((1 : Int32) &&& 31).toUInt32).toInt32); have bl_0 := (i1).le_toInt; have bu_0 := (i1).toInt_lt; have bl_1 := (i2 - i1).le_toInt; have bu_1 := (i2 - i1).toInt_lt; have bl_2 := (i1 + (((i2 - i1).toUInt32 >>> ((1 : Int32) &&& 31).toUInt32).toInt32)).le_toInt; have bu_2 := (i1 + (((i2 - i1).toUInt32 >>> ((1 : Int32) &&& 31).toUInt32).toInt32)).toInt_lt; have bl_3 := ((i2 - i1) - (((i2 - i1).toUInt32 >>> ((1 : Int32) &&& 31).toUInt32).toInt32)).le_toInt; have bu_3 := ((i2 - i1) - (((i2 - i1).toUInt32 >>> ((1 : Int32) &&& 31).toUInt32).toInt32)).toInt_lt; have bl_4 := (i2).le_toInt; have bu_4 := (i2).toInt_lt; have bl_5 := (n1).le_toInt; have bu_5 := (n1).toInt_lt; (try simp only [own_eqite, own_iteeq] at *); (try simp only [ne_eq, and_true, true_and, or_true, true_or, and_false, false_and, or_false, false_or, not_true_eq_false, not_false_eq_true, Int32.lt_iff_toInt_lt, Int64.lt_iff_toInt_lt, ← Int32.toInt_inj, ← Int64.toInt_inj, Int32.reduceToInt, Int64.reduceToInt] at *); omega)
theorem pn5 : plainName "com/example/leeway/leeway/engine/TimeSearch" = true := by first | (simp [plainName, overriddenIn]; done) | decide +kernel
theorem pd5 : parseMethodDescriptor "([JIIJ)I" = some ⟨[(.array .long), .int, .int, .long], some .int⟩ := by decide +kernel
theorem ef5 (m : MethodId) (o0 : Addr) (i1 : Int32) (i2 : Int32) (j3 : Int64) : entryFrame m #[(.ref o0), (.int i1), (.int i2), (.long j3)] 8 = mkF m 0 #[.val (.ref o0), .val (.int i1), .val (.int i2), .val (.long j3), .second, .unset, .unset, .unset] [] := by first | (simp [entryFrame, mkF, argsToLocals, Value.category]; done) | rfl
theorem d5_0 : decode prog_106_method_2_code 0 = .ok (.iload_n 1, 1) := by decide +kernel
theorem d5_1 : decode prog_106_method_2_code 1 = .ok (.istore 5, 2) := by decide +kernel
theorem d5_3 : decode prog_106_method_2_code 3 = .ok (.iload_n 2, 1) := by decide +kernel
theorem d5_4 : decode prog_106_method_2_code 4 = .ok (.iload_n 1, 1) := by decide +kernel
theorem d5_5 : decode prog_106_method_2_code 5 = .ok (.isub, 1) := by decide +kernel
theorem d5_6 : decode prog_106_method_2_code 6 = .ok (.istore 6, 2) := by decide +kernel
theorem d5_8 : decode prog_106_method_2_code 8 = .ok (.iload 6, 2) := by decide +kernel
theorem d5_10 : decode prog_106_method_2_code 10 = .ok (.iconst 1, 1) := by decide +kernel
theorem d5_11 : decode prog_106_method_2_code 11 = .ok (.if_icmp .le 43, 3) := by decide +kernel
theorem d5_14 : decode prog_106_method_2_code 14 = .ok (.iload 6, 2) := by decide +kernel
theorem d5_16 : decode prog_106_method_2_code 16 = .ok (.iconst 1, 1) := by decide +kernel
theorem d5_17 : decode prog_106_method_2_code 17 = .ok (.iushr, 1) := by decide +kernel
theorem d5_18 : decode prog_106_method_2_code 18 = .ok (.istore 7, 2) := by decide +kernel
theorem d5_20 : decode prog_106_method_2_code 20 = .ok (.aload_n 0, 1) := by decide +kernel
theorem d5_21 : decode prog_106_method_2_code 21 = .ok (.iload 5, 2) := by decide +kernel
theorem d5_23 : decode prog_106_method_2_code 23 = .ok (.iload 7, 2) := by decide +kernel
theorem d5_25 : decode prog_106_method_2_code 25 = .ok (.iadd, 1) := by decide +kernel
theorem d5_26 : decode prog_106_method_2_code 26 = .ok (.laload, 1) := by decide +kernel
theorem d5_27 : decode prog_106_method_2_code 27 = .ok (.lload_n 3, 1) := by decide +kernel
theorem d5_28 : decode prog_106_method_2_code 28 = .ok (.lcmp, 1) := by decide +kernel
theorem d5_29 : decode prog_106_method_2_code 29 = .ok (.ifCond .gt 11, 3) := by decide +kernel
theorem d5_32 : decode prog_106_method_2_code 32 = .ok (.iload 5, 2) := by decide +kernel
theorem d5_34 : decode prog_106_method_2_code 34 = .ok (.iload 7, 2) := by decide +kernel
theorem d5_36 : decode prog_106_method_2_code 36 = .ok (.iadd, 1) := by decide +kernel
theorem d5_37 : decode prog_106_method_2_code 37 = .ok (.goto 5, 3) := by decide +kernel
theorem d5_40 : decode prog_106_method_2_code 40 = .ok (.iload 5, 2) := by decide +kernel
theorem d5_42 : decode prog_106_method_2_code 42 = .ok (.istore 5, 2) := by decide +kernel
theorem d5_44 : decode prog_106_method_2_code 44 = .ok (.iload 6, 2) := by decide +kernel
theorem d5_46 : decode prog_106_method_2_code 46 = .ok (.iload 7, 2) := by decide +kernel
theorem d5_48 : decode prog_106_method_2_code 48 = .ok (.isub, 1) := by decide +kernel
theorem d5_49 : decode prog_106_method_2_code 49 = .ok (.istore 6, 2) := by decide +kernel
theorem d5_51 : decode prog_106_method_2_code 51 = .ok (.goto (-43), 3) := by decide +kernel
theorem d5_54 : decode prog_106_method_2_code 54 = .ok (.iload_n 2, 1) := by decide +kernel
theorem d5_55 : decode prog_106_method_2_code 55 = .ok (.iload_n 1, 1) := by decide +kernel
theorem d5_56 : decode prog_106_method_2_code 56 = .ok (.if_icmp .le 19, 3) := by decide +kernel
theorem d5_59 : decode prog_106_method_2_code 59 = .ok (.aload_n 0, 1) := by decide +kernel
theorem d5_60 : decode prog_106_method_2_code 60 = .ok (.iload 5, 2) := by decide +kernel
theorem d5_62 : decode prog_106_method_2_code 62 = .ok (.laload, 1) := by decide +kernel
theorem d5_63 : decode prog_106_method_2_code 63 = .ok (.lload_n 3, 1) := by decide +kernel
theorem d5_64 : decode prog_106_method_2_code 64 = .ok (.lcmp, 1) := by decide +kernel
theorem d5_65 : decode prog_106_method_2_code 65 = .ok (.ifCond .gt 10, 3) := by decide +kernel
theorem d5_68 : decode prog_106_method_2_code 68 = .ok (.iload 5, 2) := by decide +kernel
theorem d5_70 : decode prog_106_method_2_code 70 = .ok (.iconst 1, 1) := by decide +kernel
theorem d5_71 : decode prog_106_method_2_code 71 = .ok (.iadd, 1) := by decide +kernel
theorem d5_72 : decode prog_106_method_2_code 72 = .ok (.goto 5, 3) := by decide +kernel
theorem d5_75 : decode prog_106_method_2_code 75 = .ok (.iload 5, 2) := by decide +kernel
theorem d5_77 : decode prog_106_method_2_code 77 = .ok (.ireturn, 1) := by decide +kernel
set_option maxRecDepth 65536 in
set_option maxHeartbeats 40000000 in
theorem rm5 (l : Launch) (Z : State) (a0 : Array Value) (hw : ∀ d ∈ tables_1, d.before a0 Z = true) (o0 : Addr) (i1 : Int32) (i2 : Int32) (j3 : Int64) (k1 : ClassId) (n1 : Int32) (vs : List Value) (dv : Value) (g : Int32 → Int64) (h0 : Heap) (n0 : Nat) (Z0 : n0 ≤ h0.size) (V_o0 : Arv Z h0 o0 k1 .long n1 vs dv) (hg : ∀ j : Int32, ¬ j < (0 : Int32) ∧ j < n1 → vs.getD j.toNatClampNeg dv = .long (g j)) (hf0 : ¬ i1 < (0 : Int32)) (ht : ¬ n1 < i2) (hft : ¬ i2 < i1) (hn6 : ¬ (6 : Int32) < n1) :
    Ctr l Z (⟨"com/example/leeway/leeway/engine/TimeSearch", "firstAfter", "([JIIJ)I"⟩ : MethodName) prog_106_method_2_code 8 (some .int) ({ frames := 0, cells := 0, slots := 0, locals := 0 } : Room) #[(.ref o0), (.int i1), (.int i2), (.long j3)] h0 n0 (fun v h' => v = some (.int (fstA g i1 i2 j3)) ∧ h' = h0) := by
  refine Ctr.body (L := #[.val (.ref o0), .val (.int i1), .val (.int i2), .val (.long j3), .second, .unset, .unset, .unset]) (plainFor_of_name pn5) Z0 (fun m => ef5 m o0 i1 i2 j3) ?_
  intro p e F m below meth c T0 C0
  refine C0.iloadN d5_0 rfl rfl ?_
  refine C0.istore d5_1 rfl (L' := #[.val (.ref o0), .val (.int i1), .val (.int i2), .val (.long j3), .second, .val (.int i1), .unset, .unset]) rfl ?_
  refine C0.iloadN d5_3 rfl rfl ?_
  refine C0.iloadN d5_4 rfl rfl ?_
  refine C0.isub d5_5 rfl ?_
  refine C0.istore d5_6 rfl (L' := #[.val (.ref o0), .val (.int i1), .val (.int i2), .val (.long j3), .second, .val (.int i1), .val (.int (i2 - i1)), .unset]) rfl ?_
  refine C0.iload d5_8 rfl rfl ?_
  refine C0.iconst (1 : Int32) d5_10 rfl rfl ?_
  refine C0.icmp_le d5_11 (by decide) (by decide : _ = 54) rfl (fun c11 => ?_) (fun c11 => ?_)
  · refine C0.iloadN d5_54 rfl rfl ?_
    refine C0.iloadN d5_55 rfl rfl ?_
    refine C0.icmp_le d5_56 (by decide) (by decide : _ = 75) rfl (fun c56 => ?_) (fun c56 => ?_)
    · refine C0.iload d5_75 rfl rfl ?_
      exact C0.retI d5_77 rfl (by decide) (by decide) ⟨congrArg (fun z => some (Value.int z)) (own_ret5_0 o0 i1 i2 j3 k1 n1 vs dv g hg hf0 ht hft hn6 c11 c56), rfl⟩
    · refine C0.aloadN d5_59 rfl rfl rfl ?_
      refine C0.iload d5_60 rfl rfl ?_
      refine C0.laload (v := (g i1)) V_o0 (own_pre5_0 o0 i1 i2 j3 k1 n1 vs dv g hg hf0 ht hft hn6 c11 c56) (hg i1 (own_pre5_0 o0 i1 i2 j3 k1 n1 vs dv g hg hf0 ht hft hn6 c11 c56)) d5_62 rfl ?_
      refine C0.lloadN d5_63 rfl rfl ?_
      refine C0.lif_gt d5_64 rfl d5_65 (by decide) (by decide : _ = 75) rfl (fun c65 => ?_) (fun c65 => ?_)
      · refine C0.iload d5_75 rfl rfl ?_
        exact C0.retI d5_77 rfl (by decide) (by decide) ⟨congrArg (fun z => some (Value.int z)) (own_ret5_1 o0 i1 i2 j3 k1 n1 vs dv g hg hf0 ht hft hn6 c11 c56 c65), rfl⟩
      · refine C0.iload d5_68 rfl rfl ?_
        refine C0.iconst (1 : Int32) d5_70 rfl rfl ?_
        refine C0.iadd d5_71 rfl ?_
        refine C0.goto d5_72 (by decide) (by decide : _ = 77) ?_
        exact C0.retI d5_77 rfl (by decide) (by decide) ⟨congrArg (fun z => some (Value.int z)) (own_ret5_2 o0 i1 i2 j3 k1 n1 vs dv g hg hf0 ht hft hn6 c11 c56 c65), rfl⟩
  · refine C0.iload d5_14 rfl rfl ?_
    refine C0.iconst (1 : Int32) d5_16 rfl rfl ?_
    refine C0.iushr d5_17 rfl ?_
    refine C0.istore d5_18 rfl (L' := #[.val (.ref o0), .val (.int i1), .val (.int i2), .val (.long j3), .second, .val (.int i1), .val (.int (i2 - i1)), .val (.int (((i2 - i1).toUInt32 >>> ((1 : Int32) &&& 31).toUInt32).toInt32))]) rfl ?_
    refine C0.aloadN d5_20 rfl rfl rfl ?_
    refine C0.iload d5_21 rfl rfl ?_
    refine C0.iload d5_23 rfl rfl ?_
    refine C0.iadd d5_25 rfl ?_
    refine C0.laload (v := (g (i1 + (((i2 - i1).toUInt32 >>> ((1 : Int32) &&& 31).toUInt32).toInt32)))) V_o0 (own_pre5_1 o0 i1 i2 j3 k1 n1 vs dv g hg hf0 ht hft hn6 c11) (hg (i1 + (((i2 - i1).toUInt32 >>> ((1 : Int32) &&& 31).toUInt32).toInt32)) (own_pre5_1 o0 i1 i2 j3 k1 n1 vs dv g hg hf0 ht hft hn6 c11)) d5_26 rfl ?_
    refine C0.lloadN d5_27 rfl rfl ?_
    have J42 : ∀ (T2 : State) (u1 : Int32), Cx p l e ({ frames := 0, cells := 0, slots := 0, locals := 0 } : Room) m #[(.ref o0), (.int i1), (.int i2), (.long j3)] below meth c Z (⟨"com/example/leeway/leeway/engine/TimeSearch", "firstAfter", "([JIIJ)I"⟩ : MethodName) prog_106_method_2_code 8 (some .int) n0 false F T2 h0 0 0 → u1 = (if j3 < (g (i1 + (((i2 - i1).toUInt32 >>> ((1 : Int32) &&& 31).toUInt32).toInt32))) then i1 else (i1 + (((i2 - i1).toUInt32 >>> ((1 : Int32) &&& 31).toUInt32).toInt32))) → Go p e below F n0 (fun v h' => v = some (.int (fstA g i1 i2 j3)) ∧ h' = h0) T2 (mkF m 42 #[.val (.ref o0), .val (.int i1), .val (.int i2), .val (.long j3), .second, .val (.int i1), .val (.int (i2 - i1)), .val (.int (((i2 - i1).toUInt32 >>> ((1 : Int32) &&& 31).toUInt32).toInt32))] [(.int u1)]) := by
      intro T2 u1 C2 hu1
      refine C2.istore d5_42 rfl (L' := #[.val (.ref o0), .val (.int i1), .val (.int i2), .val (.long j3), .second, .val (.int u1), .val (.int (i2 - i1)), .val (.int (((i2 - i1).toUInt32 >>> ((1 : Int32) &&& 31).toUInt32).toInt32))]) rfl ?_
      refine C2.iload d5_44 rfl rfl ?_
      refine C2.iload d5_46 rfl rfl ?_
      refine C2.isub d5_48 rfl ?_
      refine C2.istore d5_49 rfl (L' := #[.val (.ref o0), .val (.int i1), .val (.int i2), .val (.long j3), .second, .val (.int u1), .val (.int ((i2 - i1) - (((i2 - i1).toUInt32 >>> ((1 : Int32) &&& 31).toUInt32).toInt32))), .val (.int (((i2 - i1).toUInt32 >>> ((1 : Int32) &&& 31).toUInt32).toInt32))]) rfl ?_
      refine C2.goto d5_51 (by decide) (by decide : _ = 8) ?_
      obtain ⟨R, hR⟩ : ∃ z, z = own_lA g j3 5 u1 ((i2 - i1) - (((i2 - i1).toUInt32 >>> ((1 : Int32) &&& 31).toUInt32).toInt32)) (((i2 - i1).toUInt32 >>> ((1 : Int32) &&& 31).toUInt32).toInt32) := ⟨_, rfl⟩
      have LP : ∀ (k : Nat) (T : State) (bs : Int32) (nn : Int32) (hlf : Int32), Cx p l e ({ frames := 0, cells := 0, slots := 0, locals := 0 } : Room) m #[(.ref o0), (.int i1), (.int i2), (.long j3)] below meth c Z (⟨"com/example/leeway/leeway/engine/TimeSearch", "firstAfter", "([JIIJ)I"⟩ : MethodName) prog_106_method_2_code 8 (some .int) n0 false F T h0 0 0 → own_lA g j3 k bs nn hlf = R → (nn.toInt ≤ k + 1) → (i1.toInt ≤ bs.toInt ∧ bs.toInt + nn.toInt ≤ i2.toInt ∧ (i1.toInt < i2.toInt → 0 < nn.toInt)) → Go p e below F n0 (fun v h' => v = some (.int (fstA g i1 i2 j3)) ∧ h' = h0) T (mkF m 8 #[.val (.ref o0), .val (.int i1), .val (.int i2), .val (.long j3), .second, .val (.int bs), .val (.int nn), .val (.int hlf)] []) := by
        intro k
        induction k with
        | zero =>
          intro T3 bs nn hlf C3 hI hk h1
          refine C3.iload d5_8 rfl rfl ?_
          refine C3.iconst (1 : Int32) d5_10 rfl rfl ?_
          refine C3.icmp_le d5_11 (by decide) (by decide : _ = 54) rfl (fun _ => ?_) (fun q => absurd q (own_pre5_2 o0 i1 i2 j3 k1 n1 vs dv g R bs nn hlf u1 hg hf0 ht hft hn6 hR hk h1 hu1 c11))
          refine C3.iloadN d5_54 rfl rfl ?_
          refine C3.iloadN d5_55 rfl rfl ?_
          refine C3.icmp_le d5_56 (by decide) (by decide : _ = 75) rfl (fun c56 => ?_) (fun c56 => ?_)
          · refine C3.iload d5_75 rfl rfl ?_
            simp only [own_lA, loopA, if_neg c56] at hI
            exact C3.retI d5_77 rfl (by decide) (by decide) ⟨congrArg (fun z => some (Value.int z)) (own_ret5_3 o0 i1 i2 j3 k1 n1 vs dv g R bs nn hlf u1 hg hf0 ht hft hn6 hR hk h1 hI hu1 c11 c56), rfl⟩
          · refine C3.aloadN d5_59 rfl rfl rfl ?_
            refine C3.iload d5_60 rfl rfl ?_
            refine C3.laload (v := (g bs)) V_o0 (own_pre5_3 o0 i1 i2 j3 k1 n1 vs dv g R bs nn hlf u1 hg hf0 ht hft hn6 hR hk h1 hu1 c11 c56) (hg bs (own_pre5_3 o0 i1 i2 j3 k1 n1 vs dv g R bs nn hlf u1 hg hf0 ht hft hn6 hR hk h1 hu1 c11 c56)) d5_62 rfl ?_
            refine C3.lloadN d5_63 rfl rfl ?_
            refine C3.lif_gt d5_64 rfl d5_65 (by decide) (by decide : _ = 75) rfl (fun c65 => ?_) (fun c65 => ?_)
            · refine C3.iload d5_75 rfl rfl ?_
              simp only [own_lA, loopA, if_pos c56, if_pos c65] at hI
              exact C3.retI d5_77 rfl (by decide) (by decide) ⟨congrArg (fun z => some (Value.int z)) (own_ret5_4 o0 i1 i2 j3 k1 n1 vs dv g R bs nn hlf u1 hg hf0 ht hft hn6 hR hk h1 hI hu1 c11 c56 c65), rfl⟩
            · refine C3.iload d5_68 rfl rfl ?_
              refine C3.iconst (1 : Int32) d5_70 rfl rfl ?_
              refine C3.iadd d5_71 rfl ?_
              refine C3.goto d5_72 (by decide) (by decide : _ = 77) ?_
              simp only [own_lA, loopA, if_pos c56, if_neg c65] at hI
              exact C3.retI d5_77 rfl (by decide) (by decide) ⟨congrArg (fun z => some (Value.int z)) (own_ret5_5 o0 i1 i2 j3 k1 n1 vs dv g R bs nn hlf u1 hg hf0 ht hft hn6 hR hk h1 hI hu1 c11 c56 c65), rfl⟩
        | succ k ih =>
          intro T4 bs nn hlf C4 hI hk h1
          refine C4.iload d5_8 rfl rfl ?_
          refine C4.iconst (1 : Int32) d5_10 rfl rfl ?_
          refine C4.icmp_le d5_11 (by decide) (by decide : _ = 54) rfl (fun c11_1 => ?_) (fun c11_1 => ?_)
          · refine C4.iloadN d5_54 rfl rfl ?_
            refine C4.iloadN d5_55 rfl rfl ?_
            refine C4.icmp_le d5_56 (by decide) (by decide : _ = 75) rfl (fun c56 => ?_) (fun c56 => ?_)
            · refine C4.iload d5_75 rfl rfl ?_
              simp only [own_lA, loopA, if_neg c11_1, if_neg c56] at hI
              exact C4.retI d5_77 rfl (by decide) (by decide) ⟨congrArg (fun z => some (Value.int z)) (own_ret5_6 o0 i1 i2 j3 k1 n1 vs dv g R k bs nn hlf u1 hg hf0 ht hft hn6 hR hk h1 hI hu1 c11 c11_1 c56), rfl⟩
            · refine C4.aloadN d5_59 rfl rfl rfl ?_
              refine C4.iload d5_60 rfl rfl ?_
              refine C4.laload (v := (g bs)) V_o0 (own_pre5_4 o0 i1 i2 j3 k1 n1 vs dv g R k bs nn hlf u1 hg hf0 ht hft hn6 hR hk h1 hu1 c11 c11_1 c56) (hg bs (own_pre5_4 o0 i1 i2 j3 k1 n1 vs dv g R k bs nn hlf u1 hg hf0 ht hft hn6 hR hk h1 hu1 c11 c11_1 c56)) d5_62 rfl ?_
              refine C4.lloadN d5_63 rfl rfl ?_
              refine C4.lif_gt d5_64 rfl d5_65 (by decide) (by decide : _ = 75) rfl (fun c65 => ?_) (fun c65 => ?_)
              · refine C4.iload d5_75 rfl rfl ?_
                simp only [own_lA, loopA, if_neg c11_1, if_pos c56, if_pos c65] at hI
                exact C4.retI d5_77 rfl (by decide) (by decide) ⟨congrArg (fun z => some (Value.int z)) (own_ret5_7 o0 i1 i2 j3 k1 n1 vs dv g R k bs nn hlf u1 hg hf0 ht hft hn6 hR hk h1 hI hu1 c11 c11_1 c56 c65), rfl⟩
              · refine C4.iload d5_68 rfl rfl ?_
                refine C4.iconst (1 : Int32) d5_70 rfl rfl ?_
                refine C4.iadd d5_71 rfl ?_
                refine C4.goto d5_72 (by decide) (by decide : _ = 77) ?_
                simp only [own_lA, loopA, if_neg c11_1, if_pos c56, if_neg c65] at hI
                exact C4.retI d5_77 rfl (by decide) (by decide) ⟨congrArg (fun z => some (Value.int z)) (own_ret5_8 o0 i1 i2 j3 k1 n1 vs dv g R k bs nn hlf u1 hg hf0 ht hft hn6 hR hk h1 hI hu1 c11 c11_1 c56 c65), rfl⟩
          · refine C4.iload d5_14 rfl rfl ?_
            refine C4.iconst (1 : Int32) d5_16 rfl rfl ?_
            refine C4.iushr d5_17 rfl ?_
            refine C4.istore d5_18 rfl (L' := #[.val (.ref o0), .val (.int i1), .val (.int i2), .val (.long j3), .second, .val (.int bs), .val (.int nn), .val (.int ((nn.toUInt32 >>> ((1 : Int32) &&& 31).toUInt32).toInt32))]) rfl ?_
            refine C4.aloadN d5_20 rfl rfl rfl ?_
            refine C4.iload d5_21 rfl rfl ?_
            refine C4.iload d5_23 rfl rfl ?_
            refine C4.iadd d5_25 rfl ?_
            refine C4.laload (v := (g (bs + ((nn.toUInt32 >>> ((1 : Int32) &&& 31).toUInt32).toInt32)))) V_o0 (own_pre5_5 o0 i1 i2 j3 k1 n1 vs dv g R k bs nn hlf u1 hg hf0 ht hft hn6 hR hk h1 hu1 c11 c11_1) (hg (bs + ((nn.toUInt32 >>> ((1 : Int32) &&& 31).toUInt32).toInt32)) (own_pre5_5 o0 i1 i2 j3 k1 n1 vs dv g R k bs nn hlf u1 hg hf0 ht hft hn6 hR hk h1 hu1 c11 c11_1)) d5_26 rfl ?_
            refine C4.lloadN d5_27 rfl rfl ?_
            have J42 : ∀ (T6 : State) (u5 : Int32), Cx p l e ({ frames := 0, cells := 0, slots := 0, locals := 0 } : Room) m #[(.ref o0), (.int i1), (.int i2), (.long j3)] below meth c Z (⟨"com/example/leeway/leeway/engine/TimeSearch", "firstAfter", "([JIIJ)I"⟩ : MethodName) prog_106_method_2_code 8 (some .int) n0 false F T6 h0 0 0 → u5 = (if j3 < (g (bs + ((nn.toUInt32 >>> ((1 : Int32) &&& 31).toUInt32).toInt32))) then bs else (bs + ((nn.toUInt32 >>> ((1 : Int32) &&& 31).toUInt32).toInt32))) → Go p e below F n0 (fun v h' => v = some (.int (fstA g i1 i2 j3)) ∧ h' = h0) T6 (mkF m 42 #[.val (.ref o0), .val (.int i1), .val (.int i2), .val (.long j3), .second, .val (.int bs), .val (.int nn), .val (.int ((nn.toUInt32 >>> ((1 : Int32) &&& 31).toUInt32).toInt32))] [(.int u5)]) := by
              intro T6 u5 C6 hu5
              refine C6.istore d5_42 rfl (L' := #[.val (.ref o0), .val (.int i1), .val (.int i2), .val (.long j3), .second, .val (.int u5), .val (.int nn), .val (.int ((nn.toUInt32 >>> ((1 : Int32) &&& 31).toUInt32).toInt32))]) rfl ?_
              refine C6.iload d5_44 rfl rfl ?_
              refine C6.iload d5_46 rfl rfl ?_
              refine C6.isub d5_48 rfl ?_
              refine C6.istore d5_49 rfl (L' := #[.val (.ref o0), .val (.int i1), .val (.int i2), .val (.long j3), .second, .val (.int u5), .val (.int (nn - ((nn.toUInt32 >>> ((1 : Int32) &&& 31).toUInt32).toInt32))), .val (.int ((nn.toUInt32 >>> ((1 : Int32) &&& 31).toUInt32).toInt32))]) rfl ?_
              refine C6.goto d5_51 (by decide) (by decide : _ = 8) ?_
              simp only [own_lA, loopA, if_pos c11_1] at hI
              exact ih _ u5 (nn - ((nn.toUInt32 >>> ((1 : Int32) &&& 31).toUInt32).toInt32)) ((nn.toUInt32 >>> ((1 : Int32) &&& 31).toUInt32).toInt32) C6 (by subst hu5; exact hI) (own_inv5_0 o0 i1 i2 j3 k1 n1 vs dv g R k bs nn hlf u1 u5 hg hf0 ht hft hn6 hR hk h1 hu1 hu5 c11 c11_1) (own_inv5_1 o0 i1 i2 j3 k1 n1 vs dv g R k bs nn hlf u1 u5 hg hf0 ht hft hn6 hR hk h1 hu1 hu5 c11 c11_1)
            refine C4.lif_gt d5_28 rfl d5_29 (by decide) (by decide : _ = 40) rfl (fun c29 => ?_) (fun c29 => ?_)
            · refine C4.iload d5_40 rfl rfl ?_
              exact J42 _ bs C4 (by simp only [if_pos c29])
            · refine C4.iload d5_32 rfl rfl ?_
              refine C4.iload d5_34 rfl rfl ?_
              refine C4.iadd d5_36 rfl ?_
              refine C4.goto d5_37 (by decide) (by decide : _ = 42) ?_
              exact J42 _ (bs + ((nn.toUInt32 >>> ((1 : Int32) &&& 31).toUInt32).toInt32)) C4 (by simp only [if_neg c29])
      exact LP _ _ u1 ((i2 - i1) - (((i2 - i1).toUInt32 >>> ((1 : Int32) &&& 31).toUInt32).toInt32)) (((i2 - i1).toUInt32 >>> ((1 : Int32) &&& 31).toUInt32).toInt32) C2 hR.symm (own_inv5_2 o0 i1 i2 j3 k1 n1 vs dv g u1 hg hf0 ht hft hn6 hu1 c11) (own_inv5_3 o0 i1 i2 j3 k1 n1 vs dv g u1 hg hf0 ht hft hn6 hu1 c11)
    refine C0.lif_gt d5_28 rfl d5_29 (by decide) (by decide : _ = 40) rfl (fun c29 => ?_) (fun c29 => ?_)
    · refine C0.iload d5_40 rfl rfl ?_
      exact J42 _ i1 C0 (by simp only [if_pos c29])
    · refine C0.iload d5_32 rfl rfl ?_
      refine C0.iload d5_34 rfl rfl ?_
      refine C0.iadd d5_36 rfl ?_
      refine C0.goto d5_37 (by decide) (by decide : _ = 42) ?_
      exact J42 _ (i1 + (((i2 - i1).toUInt32 >>> ((1 : Int32) &&& 31).toUInt32).toInt32)) C0 (by simp only [if_neg c29])
theorem own_getM {α β : Type} (f : α → β) (l : List α) (i : Nat) (d : α) : (l.map f).getD i (f d) = f (l.getD i d) := by
  simp only [List.getD_eq_getElem?_getD, List.getElem?_map]; cases l[i]? <;> rfl
theorem own_mem6 (x : Int32) (h : 0 ≤ x.toInt) (h' : x.toInt ≤ 6) : x ∈ ([(0 : Int32), (1 : Int32), (2 : Int32), (3 : Int32), (4 : Int32), (5 : Int32), (6 : Int32)] : List Int32) := by
  have q : x.toInt = 0 ∨ x.toInt = 1 ∨ x.toInt = 2 ∨ x.toInt = 3 ∨ x.toInt = 4 ∨ x.toInt = 5 ∨ x.toInt = 6 := by omega
  rcases q with q | q | q | q | q | q | q
  · rw [show x = (0 : Int32) from Int32.toInt_inj.mp q]; simp
  · rw [show x = (1 : Int32) from Int32.toInt_inj.mp q]; simp
  · rw [show x = (2 : Int32) from Int32.toInt_inj.mp q]; simp
  · rw [show x = (3 : Int32) from Int32.toInt_inj.mp q]; simp
  · rw [show x = (4 : Int32) from Int32.toInt_inj.mp q]; simp
  · rw [show x = (5 : Int32) from Int32.toInt_inj.mp q]; simp
  · rw [show x = (6 : Int32) from Int32.toInt_inj.mp q]; simp
def loopB (B : Int32 → Bool) : Nat → Int32 → Int32 → Int32
  | 0, b, _ => b
  | k + 1, b, n => if (1 : Int32) < n then loopB B k (if B (b + ((n.toUInt32 >>> ((1 : Int32) &&& 31).toUInt32).toInt32)) = true then b else (b + ((n.toUInt32 >>> ((1 : Int32) &&& 31).toUInt32).toInt32))) (n - ((n.toUInt32 >>> ((1 : Int32) &&& 31).toUInt32).toInt32)) else b
def fstE (B : Int32 → Bool) (fr to_ : Int32) : Int32 := if fr < to_ then (if B (loopB B 6 fr (to_ - fr)) = true then loopB B 6 fr (to_ - fr) else loopB B 6 fr (to_ - fr) + (1 : Int32)) else loopB B 6 fr (to_ - fr)
theorem own_lB (g : Int32 → Int64) (t : Int64) : ∀ k b n, loopA g t k b n = loopB (fun j => decide (t < g j)) k b n := by
  intro k
  induction k with
  | zero => intros; rfl
  | succ k ih => intro b n; simp only [loopA, loopB, decide_eq_true_eq, ih]
theorem own_fE (g : Int32 → Int64) (fr to_ : Int32) (t : Int64) : fstA g fr to_ t = fstE (fun j => decide (t < g j)) fr to_ := by
  simp only [fstA, fstB, fstE, own_lB, decide_eq_true_eq]
def f4E (i fr to_ : Int32) (b : Bool) : Int32 := if i < fr then (0 : Int32) else (if i < to_ then (if b = true then (0 : Int32) else (1 : Int32)) else (0 : Int32))
theorem own_f4E (i fr to_ : Int32) (t y : Int64) : f4 i fr to_ t y = f4E i fr to_ (decide (t < y)) := by
  simp only [f4, f4E, decide_eq_true_eq]
theorem own_bf : ∀ fr ∈ ([0, 1, 2, 3, 4, 5, 6] : List Int32), ∀ to_ ∈ ([0, 1, 2, 3, 4, 5, 6] : List Int32), ∀ b0 b1 b2 b3 b4 b5 bd : Bool, to_ < fr ∨ (((!b0 || b1) && (!b1 || b2) && (!b2 || b3) && (!b3 || b4) && (!b4 || b5)) = false) ∨
    fstE (fun j => [b0, b1, b2, b3, b4, b5].getD j.toNatClampNeg bd) fr to_ = ((((((fr + f4E 0 fr to_ b0) + f4E 1 fr to_ b1) + f4E 2 fr to_ b2) + f4E 3 fr to_ b3) + f4E 4 fr to_ b4) + f4E 5 fr to_ b5) := by decide +kernel
theorem own_imp {a b t : Int64} (h : a < b) : (!decide (t < a) || decide (t < b)) = true := by
  simp only [Bool.or_eq_true, Bool.not_eq_true', decide_eq_false_iff_not, decide_eq_true_eq, Int64.lt_iff_toInt_lt] at *; omega
theorem own_fin (x0 x1 x2 x3 x4 x5 t : Int64) (fr to_ : Int32) (h1 : x0 < x1) (h2 : x1 < x2) (h3 : x2 < x3) (h4 : x3 < x4) (h5 : x4 < x5) (q1 : 0 ≤ fr.toInt) (q2 : fr.toInt ≤ to_.toInt) (q3 : to_.toInt ≤ 6) :
    fstA (fun j => ([x0, x1, x2, x3, x4, x5].getD j.toNatClampNeg (0 : Int64))) fr to_ t = ((((((fr + f4 0 fr to_ t x0) + f4 1 fr to_ t x1) + f4 2 fr to_ t x2) + f4 3 fr to_ t x3) + f4 4 fr to_ t x4) + f4 5 fr to_ t x5) := by
  have e : (fun j : Int32 => decide (t < [x0, x1, x2, x3, x4, x5].getD j.toNatClampNeg (0 : Int64))) = fun j => [decide (t < x0), decide (t < x1), decide (t < x2), decide (t < x3), decide (t < x4), decide (t < x5)].getD j.toNatClampNeg (decide (t < 0)) :=
    funext fun j => (own_getM (fun x => decide (t < x)) [x0, x1, x2, x3, x4, x5] _ 0).symm
  rw [own_fE]
  simp only [own_f4E]
  rw [e]
  rcases own_bf fr (own_mem6 _ q1 (by omega)) to_ (own_mem6 _ (by omega) q3) (decide (t < x0)) (decide (t < x1)) (decide (t < x2)) (decide (t < x3)) (decide (t < x4)) (decide (t < x5)) (decide (t < 0)) with h | h | h
  · rw [Int32.lt_iff_toInt_lt] at h; omega
  · rw [own_imp h1, own_imp h2, own_imp h3, own_imp h4, own_imp h5] at h; cases h
  · exact h

set_option maxRecDepth 65536 in
set_option maxHeartbeats 40000000 in
theorem own_pre0 (j0 : Int64) (j1 : Int64) (i2 : Int32) (i3 : Int32) (j4 : Int64) (v3 : Int64) (v5 : Int64) (v7 : Int64) (v9 : Int64) (v11 : Int64) (v13 : Int64) (v15 : Int32) (v16 : Int32) (v18 : Int32) (v20 : Int32) (v21 : Int32) (v22 : Int64) (hv3 : v3 = (f1 j0 (9223372036854774527 : Int64))) (hv5 : v5 = (v3 + ((j1 &&& (255 : Int64)) + (1 : Int64)))) (hv7 : v7 = (v5 + ((((j1.toUInt64 >>> ((8 : Int32) &&& 0x3f).toInt64.toUInt64).toInt64) &&& (255 : Int64)) + (1 : Int64)))) (hv9 : v9 = (v7 + ((((j1.toUInt64 >>> ((16 : Int32) &&& 0x3f).toInt64.toUInt64).toInt64) &&& (255 : Int64)) + (1 : Int64)))) (hv11 : v11 = (v9 + ((((j1.toUInt64 >>> ((24 : Int32) &&& 0x3f).toInt64.toUInt64).toInt64) &&& (255 : Int64)) + (1 : Int64)))) (hv13 : v13 = (v11 + ((((j1.toUInt64 >>> ((32 : Int32) &&& 0x3f).toInt64.toUInt64).toInt64) &&& (255 : Int64)) + (1 : Int64)))) (hv15 : v15 = ((i2 &&& (7 : Int32)) % (7 : Int32))) (hv16 : v16 = ((((i2.toUInt32 >>> ((3 : Int32) &&& 31).toUInt32).toInt32) &&& (7 : Int32)) % (7 : Int32))) (hv18 : v18 = (f2 v15 v16)) (hv20 : v20 = (f3 v15 v16)) (hv21 : v21 = ((((i3.toUInt32 >>> ((1 : Int32) &&& 31).toUInt32).toInt32) &&& (7 : Int32)) % (6 : Int32))) (hv22 : v22 = (((((i3.toUInt32 >>> ((4 : Int32) &&& 31).toUInt32).toInt32) &&& (3 : Int32)) - (1 : Int32)).toInt64)) (c180 : ¬ (i3 &&& (1 : Int32)) = (0 : Int32)) : ¬ v21 < (0 : Int32) ∧ v21 < (6 : Int32) := by
  first | (clear hv31 hu23 hv22 hv3 hv5 hv7 hv9 hv11 hv13; have ca_0 := c_mask i2 7 3 (by decide) (by decide); have ca_1 := c_irem (i2 &&& 7) 7 7 rfl; have ca_2 := c_mask ((i2.toUInt32 >>> ((3 : Int32) &&& 31).toUInt32).toInt32) 7 3 (by decide) (by decide); have ca_3 := c_irem (((i2.toUInt32 >>> ((3 : Int32) &&& 31).toUInt32).toInt32) &&& 7) 7 7 rfl; have ca_4 := c_mask ((i3.toUInt32 >>> ((1 : Int32) &&& 31).toUInt32).toInt32) 7 3 (by decide) (by decide); have ca_5 := c_irem (((i3.toUInt32 >>> ((1 : Int32) &&& 31).toUInt32).toInt32) &&& 7) 6 6 rfl; (try simp only [f2, f3, own_eqite, own_iteeq] at *); (try simp only [ne_eq, and_true, true_and, or_true, true_or, and_false, false_and, or_false, false_or, not_true_eq_false, not_false_eq_true, Int32.lt_iff_toInt_lt, Int64.lt_iff_toInt_lt, ← Int32.toInt_inj, ← Int64.toInt_inj, Int32.reduceToInt, Int64.reduceToInt] at *); omega) | (clear hv22 hv3 hv5 hv7 hv9 hv11 hv13; have ca_0 := c_mask i2 7 3 (by decide) (by decide); have ca_1 := c_irem (i2 &&& 7) 7 7 rfl; have ca_2 := c_mask ((i2.toUInt32 >>> ((3 : Int32) &&& 31).toUInt32).toInt32) 7 3 (by decide) (by decide); have ca_3 := c_irem (((i2.toUInt32 >>> ((3 : Int32) &&& 31).toUInt32).toInt32) &&& 7) 7 7 rfl; have ca_4 := c_mask ((i3.toUInt32 >>> ((1 : Int32) &&& 31).toUInt32).toInt32) 7 3 (by decide) (by decide); have ca_5 := c_irem (((i3.toUInt32 >>> ((1 : Int32) &&& 31).toUInt32).toInt32) &&& 7) 6 6 rfl; (try simp only [f2, f3, own_eqite, own_iteeq] at *); (try simp only [ne_eq, and_true, true_and, or_true, true_or, and_false, false_and, or_false, false_or, not_true_eq_false, not_false_eq_true, Int32.lt_iff_toInt_lt, Int64.lt_iff_toInt_lt, ← Int32.toInt_inj, ← Int64.toInt_inj, Int32.reduceToInt, Int64.reduceToInt] at *); omega)
set_option maxRecDepth 65536 in
set_option maxHeartbeats 40000000 in
theorem own_pre1 (j0 : Int64) (j1 : Int64) (i2 : Int32) (i3 : Int32) (j4 : Int64) (v3 : Int64) (v5 : Int64) (v7 : Int64) (v9 : Int64) (v11 : Int64) (v13 : Int64) (v15 : Int32) (v16 : Int32) (v18 : Int32) (v20 : Int32) (v21 : Int32) (v22 : Int64) (u23 : Int64) (v31 : Int32) (hv3 : v3 = (f1 j0 (9223372036854774527 : Int64))) (hv5 : v5 = (v3 + ((j1 &&& (255 : Int64)) + (1 : Int64)))) (hv7 : v7 = (v5 + ((((j1.toUInt64 >>> ((8 : Int32) &&& 0x3f).toInt64.toUInt64).toInt64) &&& (255 : Int64)) + (1 : Int64)))) (hv9 : v9 = (v7 + ((((j1.toUInt64 >>> ((16 : Int32) &&& 0x3f).toInt64.toUInt64).toInt64) &&& (255 : Int64)) + (1 : Int64)))) (hv11 : v11 = (v9 + ((((j1.toUInt64 >>> ((24 : Int32) &&& 0x3f).toInt64.toUInt64).toInt64) &&& (255 : Int64)) + (1 : Int64)))) (hv13 : v13 = (v11 + ((((j1.toUInt64 >>> ((32 : Int32) &&& 0x3f).toInt64.toUInt64).toInt64) &&& (255 : Int64)) + (1 : Int64)))) (hv15 : v15 = ((i2 &&& (7 : Int32)) % (7 : Int32))) (hv16 : v16 = ((((i2.toUInt32 >>> ((3 : Int32) &&& 31).toUInt32).toInt32) &&& (7 : Int32)) % (7 : Int32))) (hv18 : v18 = (f2 v15 v16)) (hv20 : v20 = (f3 v15 v16)) (hv21 : v21 = ((((i3.toUInt32 >>> ((1 : Int32) &&& 31).toUInt32).toInt32) &&& (7 : Int32)) % (6 : Int32))) (hv22 : v22 = (((((i3.toUInt32 >>> ((4 : Int32) &&& 31).toUInt32).toInt32) &&& (3 : Int32)) - (1 : Int32)).toInt64)) (hu23 : u23 = (if (i3 &&& (1 : Int32)) = (0 : Int32) then j4 else (([v3, v5, v7, v9, v11, v13].getD (v21).toNatClampNeg (0 : Int64)) + v22))) (hv31 : v31 = ((((((v18 + (f4 (0 : Int32) v18 v20 u23 v3)) + (f4 (1 : Int32) v18 v20 u23 v5)) + (f4 (2 : Int32) v18 v20 u23 v7)) + (f4 (3 : Int32) v18 v20 u23 v9)) + (f4 (4 : Int32) v18 v20 u23 v11)) + (f4 (5 : Int32) v18 v20 u23 v13))) : ¬ v18 < (0 : Int32) := by
  first | (clear hv31 hu23 hv22 hv3 hv5 hv7 hv9 hv11 hv13; have ca_0 := c_mask i2 7 3 (by decide) (by decide); have ca_1 := c_irem (i2 &&& 7) 7 7 rfl; have ca_2 := c_mask ((i2.toUInt32 >>> ((3 : Int32) &&& 31).toUInt32).toInt32) 7 3 (by decide) (by decide); have ca_3 := c_irem (((i2.toUInt32 >>> ((3 : Int32) &&& 31).toUInt32).toInt32) &&& 7) 7 7 rfl; have ca_4 := c_mask ((i3.toUInt32 >>> ((1 : Int32) &&& 31).toUInt32).toInt32) 7 3 (by decide) (by decide); have ca_5 := c_irem (((i3.toUInt32 >>> ((1 : Int32) &&& 31).toUInt32).toInt32) &&& 7) 6 6 rfl; (try simp only [f2, f3, own_eqite, own_iteeq] at *); (try simp only [ne_eq, and_true, true_and, or_true, true_or, and_false, false_and, or_false, false_or, not_true_eq_false, not_false_eq_true, Int32.lt_iff_toInt_lt, Int64.lt_iff_toInt_lt, ← Int32.toInt_inj, ← Int64.toInt_inj, Int32.reduceToInt, Int64.reduceToInt] at *); omega) | (clear hv22 hv3 hv5 hv7 hv9 hv11 hv13; have ca_0 := c_mask i2 7 3 (by decide) (by decide); have ca_1 := c_irem (i2 &&& 7) 7 7 rfl; have ca_2 := c_mask ((i2.toUInt32 >>> ((3 : Int32) &&& 31).toUInt32).toInt32) 7 3 (by decide) (by decide); have ca_3 := c_irem (((i2.toUInt32 >>> ((3 : Int32) &&& 31).toUInt32).toInt32) &&& 7) 7 7 rfl; have ca_4 := c_mask ((i3.toUInt32 >>> ((1 : Int32) &&& 31).toUInt32).toInt32) 7 3 (by decide) (by decide); have ca_5 := c_irem (((i3.toUInt32 >>> ((1 : Int32) &&& 31).toUInt32).toInt32) &&& 7) 6 6 rfl; (try simp only [f2, f3, own_eqite, own_iteeq] at *); (try simp only [ne_eq, and_true, true_and, or_true, true_or, and_false, false_and, or_false, false_or, not_true_eq_false, not_false_eq_true, Int32.lt_iff_toInt_lt, Int64.lt_iff_toInt_lt, ← Int32.toInt_inj, ← Int64.toInt_inj, Int32.reduceToInt, Int64.reduceToInt] at *); omega)
set_option maxRecDepth 65536 in
set_option maxHeartbeats 40000000 in
theorem own_pre2 (j0 : Int64) (j1 : Int64) (i2 : Int32) (i3 : Int32) (j4 : Int64) (v3 : Int64) (v5 : Int64) (v7 : Int64) (v9 : Int64) (v11 : Int64) (v13 : Int64) (v15 : Int32) (v16 : Int32) (v18 : Int32) (v20 : Int32) (v21 : Int32) (v22 : Int64) (u23 : Int64) (v31 : Int32) (hv3 : v3 = (f1 j0 (9223372036854774527 : Int64))) (hv5 : v5 = (v3 + ((j1 &&& (255 : Int64)) + (1 : Int64)))) (hv7 : v7 = (v5 + ((((j1.toUInt64 >>> ((8 : Int32) &&& 0x3f).toInt64.toUInt64).toInt64) &&& (255 : Int64)) + (1 : Int64)))) (hv9 : v9 = (v7 + ((((j1.toUInt64 >>> ((16 : Int32) &&& 0x3f).toInt64.toUInt64).toInt64) &&& (255 : Int64)) + (1 : Int64)))) (hv11 : v11 = (v9 + ((((j1.toUInt64 >>> ((24 : Int32) &&& 0x3f).toInt64.toUInt64).toInt64) &&& (255 : Int64)) + (1 : Int64)))) (hv13 : v13 = (v11 + ((((j1.toUInt64 >>> ((32 : Int32) &&& 0x3f).toInt64.toUInt64).toInt64) &&& (255 : Int64)) + (1 : Int64)))) (hv15 : v15 = ((i2 &&& (7 : Int32)) % (7 : Int32))) (hv16 : v16 = ((((i2.toUInt32 >>> ((3 : Int32) &&& 31).toUInt32).toInt32) &&& (7 : Int32)) % (7 : Int32))) (hv18 : v18 = (f2 v15 v16)) (hv20 : v20 = (f3 v15 v16)) (hv21 : v21 = ((((i3.toUInt32 >>> ((1 : Int32) &&& 31).toUInt32).toInt32) &&& (7 : Int32)) % (6 : Int32))) (hv22 : v22 = (((((i3.toUInt32 >>> ((4 : Int32) &&& 31).toUInt32).toInt32) &&& (3 : Int32)) - (1 : Int32)).toInt64)) (hu23 : u23 = (if (i3 &&& (1 : Int32)) = (0 : Int32) then j4 else (([v3, v5, v7, v9, v11, v13].getD (v21).toNatClampNeg (0 : Int64)) + v22))) (hv31 : v31 = ((((((v18 + (f4 (0 : Int32) v18 v20 u23 v3)) + (f4 (1 : Int32) v18 v20 u23 v5)) + (f4 (2 : Int32) v18 v20 u23 v7)) + (f4 (3 : Int32) v18 v20 u23 v9)) + (f4 (4 : Int32) v18 v20 u23 v11)) + (f4 (5 : Int32) v18 v20 u23 v13))) : ¬ (6 : Int32) < v20 := by
  first | (clear hv31 hu23 hv22 hv3 hv5 hv7 hv9 hv11 hv13; have ca_0 := c_mask i2 7 3 (by decide) (by decide); have ca_1 := c_irem (i2 &&& 7) 7 7 rfl; have ca_2 := c_mask ((i2.toUInt32 >>> ((3 : Int32) &&& 31).toUInt32).toInt32) 7 3 (by decide) (by decide); have ca_3 := c_irem (((i2.toUInt32 >>> ((3 : Int32) &&& 31).toUInt32).toInt32) &&& 7) 7 7 rfl; have ca_4 := c_mask ((i3.toUInt32 >>> ((1 : Int32) &&& 31).toUInt32).toInt32) 7 3 (by decide) (by decide); have ca_5 := c_irem (((i3.toUInt32 >>> ((1 : Int32) &&& 31).toUInt32).toInt32) &&& 7) 6 6 rfl; (try simp only [f2, f3, own_eqite, own_iteeq] at *); (try simp only [ne_eq, and_true, true_and, or_true, true_or, and_false, false_and, or_false, false_or, not_true_eq_false, not_false_eq_true, Int32.lt_iff_toInt_lt, Int64.lt_iff_toInt_lt, ← Int32.toInt_inj, ← Int64.toInt_inj, Int32.reduceToInt, Int64.reduceToInt] at *); omega) | (clear hv22 hv3 hv5 hv7 hv9 hv11 hv13; have ca_0 := c_mask i2 7 3 (by decide) (by decide); have ca_1 := c_irem (i2 &&& 7) 7 7 rfl; have ca_2 := c_mask ((i2.toUInt32 >>> ((3 : Int32) &&& 31).toUInt32).toInt32) 7 3 (by decide) (by decide); have ca_3 := c_irem (((i2.toUInt32 >>> ((3 : Int32) &&& 31).toUInt32).toInt32) &&& 7) 7 7 rfl; have ca_4 := c_mask ((i3.toUInt32 >>> ((1 : Int32) &&& 31).toUInt32).toInt32) 7 3 (by decide) (by decide); have ca_5 := c_irem (((i3.toUInt32 >>> ((1 : Int32) &&& 31).toUInt32).toInt32) &&& 7) 6 6 rfl; (try simp only [f2, f3, own_eqite, own_iteeq] at *); (try simp only [ne_eq, and_true, true_and, or_true, true_or, and_false, false_and, or_false, false_or, not_true_eq_false, not_false_eq_true, Int32.lt_iff_toInt_lt, Int64.lt_iff_toInt_lt, ← Int32.toInt_inj, ← Int64.toInt_inj, Int32.reduceToInt, Int64.reduceToInt] at *); omega)
set_option maxRecDepth 65536 in
set_option maxHeartbeats 40000000 in
theorem own_pre3 (j0 : Int64) (j1 : Int64) (i2 : Int32) (i3 : Int32) (j4 : Int64) (v3 : Int64) (v5 : Int64) (v7 : Int64) (v9 : Int64) (v11 : Int64) (v13 : Int64) (v15 : Int32) (v16 : Int32) (v18 : Int32) (v20 : Int32) (v21 : Int32) (v22 : Int64) (u23 : Int64) (v31 : Int32) (hv3 : v3 = (f1 j0 (9223372036854774527 : Int64))) (hv5 : v5 = (v3 + ((j1 &&& (255 : Int64)) + (1 : Int64)))) (hv7 : v7 = (v5 + ((((j1.toUInt64 >>> ((8 : Int32) &&& 0x3f).toInt64.toUInt64).toInt64) &&& (255 : Int64)) + (1 : Int64)))) (hv9 : v9 = (v7 + ((((j1.toUInt64 >>> ((16 : Int32) &&& 0x3f).toInt64.toUInt64).toInt64) &&& (255 : Int64)) + (1 : Int64)))) (hv11 : v11 = (v9 + ((((j1.toUInt64 >>> ((24 : Int32) &&& 0x3f).toInt64.toUInt64).toInt64) &&& (255 : Int64)) + (1 : Int64)))) (hv13 : v13 = (v11 + ((((j1.toUInt64 >>> ((32 : Int32) &&& 0x3f).toInt64.toUInt64).toInt64) &&& (255 : Int64)) + (1 : Int64)))) (hv15 : v15 = ((i2 &&& (7 : Int32)) % (7 : Int32))) (hv16 : v16 = ((((i2.toUInt32 >>> ((3 : Int32) &&& 31).toUInt32).toInt32) &&& (7 : Int32)) % (7 : Int32))) (hv18 : v18 = (f2 v15 v16)) (hv20 : v20 = (f3 v15 v16)) (hv21 : v21 = ((((i3.toUInt32 >>> ((1 : Int32) &&& 31).toUInt32).toInt32) &&& (7 : Int32)) % (6 : Int32))) (hv22 : v22 = (((((i3.toUInt32 >>> ((4 : Int32) &&& 31).toUInt32).toInt32) &&& (3 : Int32)) - (1 : Int32)).toInt64)) (hu23 : u23 = (if (i3 &&& (1 : Int32)) = (0 : Int32) then j4 else (([v3, v5, v7, v9, v11, v13].getD (v21).toNatClampNeg (0 : Int64)) + v22))) (hv31 : v31 = ((((((v18 + (f4 (0 : Int32) v18 v20 u23 v3)) + (f4 (1 : Int32) v18 v20 u23 v5)) + (f4 (2 : Int32) v18 v20 u23 v7)) + (f4 (3 : Int32) v18 v20 u23 v9)) + (f4 (4 : Int32) v18 v20 u23 v11)) + (f4 (5 : Int32) v18 v20 u23 v13))) : ¬ v20 < v18 := by
  first | (clear hv31 hu23 hv22 hv3 hv5 hv7 hv9 hv11 hv13; have ca_0 := c_mask i2 7 3 (by decide) (by decide); have ca_1 := c_irem (i2 &&& 7) 7 7 rfl; have ca_2 := c_mask ((i2.toUInt32 >>> ((3 : Int32) &&& 31).toUInt32).toInt32) 7 3 (by decide) (by decide); have ca_3 := c_irem (((i2.toUInt32 >>> ((3 : Int32) &&& 31).toUInt32).toInt32) &&& 7) 7 7 rfl; have ca_4 := c_mask ((i3.toUInt32 >>> ((1 : Int32) &&& 31).toUInt32).toInt32) 7 3 (by decide) (by decide); have ca_5 := c_irem (((i3.toUInt32 >>> ((1 : Int32) &&& 31).toUInt32).toInt32) &&& 7) 6 6 rfl; (try simp only [f2, f3, own_eqite, own_iteeq] at *); (try simp only [ne_eq, and_true, true_and, or_true, true_or, and_false, false_and, or_false, false_or, not_true_eq_false, not_false_eq_true, Int32.lt_iff_toInt_lt, Int64.lt_iff_toInt_lt, ← Int32.toInt_inj, ← Int64.toInt_inj, Int32.reduceToInt, Int64.reduceToInt] at *); omega) | (clear hv22 hv3 hv5 hv7 hv9 hv11 hv13; have ca_0 := c_mask i2 7 3 (by decide) (by decide); have ca_1 := c_irem (i2 &&& 7) 7 7 rfl; have ca_2 := c_mask ((i2.toUInt32 >>> ((3 : Int32) &&& 31).toUInt32).toInt32) 7 3 (by decide) (by decide); have ca_3 := c_irem (((i2.toUInt32 >>> ((3 : Int32) &&& 31).toUInt32).toInt32) &&& 7) 7 7 rfl; have ca_4 := c_mask ((i3.toUInt32 >>> ((1 : Int32) &&& 31).toUInt32).toInt32) 7 3 (by decide) (by decide); have ca_5 := c_irem (((i3.toUInt32 >>> ((1 : Int32) &&& 31).toUInt32).toInt32) &&& 7) 6 6 rfl; (try simp only [f2, f3, own_eqite, own_iteeq] at *); (try simp only [ne_eq, and_true, true_and, or_true, true_or, and_false, false_and, or_false, false_or, not_true_eq_false, not_false_eq_true, Int32.lt_iff_toInt_lt, Int64.lt_iff_toInt_lt, ← Int32.toInt_inj, ← Int64.toInt_inj, Int32.reduceToInt, Int64.reduceToInt] at *); omega)
set_option maxRecDepth 65536 in
set_option maxHeartbeats 40000000 in
theorem own_bad0 (j0 : Int64) (j1 : Int64) (i2 : Int32) (i3 : Int32) (j4 : Int64) (v3 : Int64) (v5 : Int64) (v7 : Int64) (v9 : Int64) (v11 : Int64) (v13 : Int64) (v15 : Int32) (v16 : Int32) (v18 : Int32) (v20 : Int32) (v21 : Int32) (v22 : Int64) (u23 : Int64) (v31 : Int32) (hv3 : v3 = (f1 j0 (9223372036854774527 : Int64))) (hv5 : v5 = (v3 + ((j1 &&& (255 : Int64)) + (1 : Int64)))) (hv7 : v7 = (v5 + ((((j1.toUInt64 >>> ((8 : Int32) &&& 0x3f).toInt64.toUInt64).toInt64) &&& (255 : Int64)) + (1 : Int64)))) (hv9 : v9 = (v7 + ((((j1.toUInt64 >>> ((16 : Int32) &&& 0x3f).toInt64.toUInt64).toInt64) &&& (255 : Int64)) + (1 : Int64)))) (hv11 : v11 = (v9 + ((((j1.toUInt64 >>> ((24 : Int32) &&& 0x3f).toInt64.toUInt64).toInt64) &&& (255 : Int64)) + (1 : Int64)))) (hv13 : v13 = (v11 + ((((j1.toUInt64 >>> ((32 : Int32) &&& 0x3f).toInt64.toUInt64).toInt64) &&& (255 : Int64)) + (1 : Int64)))) (hv15 : v15 = ((i2 &&& (7 : Int32)) % (7 : Int32))) (hv16 : v16 = ((((i2.toUInt32 >>> ((3 : Int32) &&& 31).toUInt32).toInt32) &&& (7 : Int32)) % (7 : Int32))) (hv18 : v18 = (f2 v15 v16)) (hv20 : v20 = (f3 v15 v16)) (hv21 : v21 = ((((i3.toUInt32 >>> ((1 : Int32) &&& 31).toUInt32).toInt32) &&& (7 : Int32)) % (6 : Int32))) (hv22 : v22 = (((((i3.toUInt32 >>> ((4 : Int32) &&& 31).toUInt32).toInt32) &&& (3 : Int32)) - (1 : Int32)).toInt64)) (hu23 : u23 = (if (i3 &&& (1 : Int32)) = (0 : Int32) then j4 else (([v3, v5, v7, v9, v11, v13].getD (v21).toNatClampNeg (0 : Int64)) + v22))) (hv31 : v31 = ((((((v18 + (f4 (0 : Int32) v18 v20 u23 v3)) + (f4 (1 : Int32) v18 v20 u23 v5)) + (f4 (2 : Int32) v18 v20 u23 v7)) + (f4 (3 : Int32) v18 v20 u23 v9)) + (f4 (4 : Int32) v18 v20 u23 v11)) + (f4 (5 : Int32) v18 v20 u23 v13))) (c293 : ¬ (fstA (fun j => ([v3, v5, v7, v9, v11, v13].getD j.toNatClampNeg (0 : Int64))) v18 v20 u23) = v31) : False := by
  have hord : v3.toInt < v5.toInt ∧ v5.toInt < v7.toInt ∧ v7.toInt < v9.toInt ∧ v9.toInt < v11.toInt ∧ v11.toInt < v13.toInt := by
    clear c293 hv31 hu23 hv15 hv16 hv18 hv20 hv21 hv22
    have ca_0 := c_maskL j1 255 8 (by decide) (by decide)
    have ca_1 := c_maskL ((j1.toUInt64 >>> ((8 : Int32) &&& 0x3f).toInt64.toUInt64).toInt64) 255 8 (by decide) (by decide)
    have ca_2 := c_maskL ((j1.toUInt64 >>> ((16 : Int32) &&& 0x3f).toInt64.toUInt64).toInt64) 255 8 (by decide) (by decide)
    have ca_3 := c_maskL ((j1.toUInt64 >>> ((24 : Int32) &&& 0x3f).toInt64.toUInt64).toInt64) 255 8 (by decide) (by decide)
    have ca_4 := c_maskL ((j1.toUInt64 >>> ((32 : Int32) &&& 0x3f).toInt64.toUInt64).toInt64) 255 8 (by decide) (by decide)
    have ca_5 := c_ladd (j1 &&& 255) 1
    have ca_6 := c_ladd (((j1.toUInt64 >>> ((8 : Int32) &&& 0x3f).toInt64.toUInt64).toInt64) &&& 255) 1
    have ca_7 := c_ladd (((j1.toUInt64 >>> ((16 : Int32) &&& 0x3f).toInt64.toUInt64).toInt64) &&& 255) 1
    have ca_8 := c_ladd (((j1.toUInt64 >>> ((24 : Int32) &&& 0x3f).toInt64.toUInt64).toInt64) &&& 255) 1
    have ca_9 := c_ladd (((j1.toUInt64 >>> ((32 : Int32) &&& 0x3f).toInt64.toUInt64).toInt64) &&& 255) 1
    have ca_10 := c_ladd v3 ((j1 &&& 255) + 1)
    have ca_11 := c_ladd v5 ((((j1.toUInt64 >>> ((8 : Int32) &&& 0x3f).toInt64.toUInt64).toInt64) &&& 255) + 1)
    have ca_12 := c_ladd v7 ((((j1.toUInt64 >>> ((16 : Int32) &&& 0x3f).toInt64.toUInt64).toInt64) &&& 255) + 1)
    have ca_13 := c_ladd v9 ((((j1.toUInt64 >>> ((24 : Int32) &&& 0x3f).toInt64.toUInt64).toInt64) &&& 255) + 1)
    have ca_14 := c_ladd v11 ((((j1.toUInt64 >>> ((32 : Int32) &&& 0x3f).toInt64.toUInt64).toInt64) &&& 255) + 1)
    have bl_0 := (v3).le_toInt; have bu_0 := (v3).toInt_lt
    have bl_1 := ((j1 &&& 255) + 1).le_toInt; have bu_1 := ((j1 &&& 255) + 1).toInt_lt
    have bl_2 := ((((j1.toUInt64 >>> ((8 : Int32) &&& 0x3f).toInt64.toUInt64).toInt64) &&& 255) + 1).le_toInt; have bu_2 := ((((j1.toUInt64 >>> ((8 : Int32) &&& 0x3f).toInt64.toUInt64).toInt64) &&& 255) + 1).toInt_lt
    have bl_3 := ((((j1.toUInt64 >>> ((16 : Int32) &&& 0x3f).toInt64.toUInt64).toInt64) &&& 255) + 1).le_toInt; have bu_3 := ((((j1.toUInt64 >>> ((16 : Int32) &&& 0x3f).toInt64.toUInt64).toInt64) &&& 255) + 1).toInt_lt
    have bl_4 := ((((j1.toUInt64 >>> ((24 : Int32) &&& 0x3f).toInt64.toUInt64).toInt64) &&& 255) + 1).le_toInt; have bu_4 := ((((j1.toUInt64 >>> ((24 : Int32) &&& 0x3f).toInt64.toUInt64).toInt64) &&& 255) + 1).toInt_lt
    have bl_5 := ((((j1.toUInt64 >>> ((32 : Int32) &&& 0x3f).toInt64.toUInt64).toInt64) &&& 255) + 1).le_toInt; have bu_5 := ((((j1.toUInt64 >>> ((32 : Int32) &&& 0x3f).toInt64.toUInt64).toInt64) &&& 255) + 1).toInt_lt
    have bl_6 := (v3 + ((j1 &&& 255) + 1)).le_toInt; have bu_6 := (v3 + ((j1 &&& 255) + 1)).toInt_lt
    have bl_7 := (v5 + ((((j1.toUInt64 >>> ((8 : Int32) &&& 0x3f).toInt64.toUInt64).toInt64) &&& 255) + 1)).le_toInt; have bu_7 := (v5 + ((((j1.toUInt64 >>> ((8 : Int32) &&& 0x3f).toInt64.toUInt64).toInt64) &&& 255) + 1)).toInt_lt
    have bl_8 := (v7 + ((((j1.toUInt64 >>> ((16 : Int32) &&& 0x3f).toInt64.toUInt64).toInt64) &&& 255) + 1)).le_toInt; have bu_8 := (v7 + ((((j1.toUInt64 >>> ((16 : Int32) &&& 0x3f).toInt64.toUInt64).toInt64) &&& 255) + 1)).toInt_lt
    have bl_9 := (v9 + ((((j1.toUInt64 >>> ((24 : Int32) &&& 0x3f).toInt64.toUInt64).toInt64) &&& 255) + 1)).le_toInt; have bu_9 := (v9 + ((((j1.toUInt64 >>> ((24 : Int32) &&& 0x3f).toInt64.toUInt64).toInt64) &&& 255) + 1)).toInt_lt
    have bl_10 := (v11 + ((((j1.toUInt64 >>> ((32 : Int32) &&& 0x3f).toInt64.toUInt64).toInt64) &&& 255) + 1)).le_toInt; have bu_10 := (v11 + ((((j1.toUInt64 >>> ((32 : Int32) &&& 0x3f).toInt64.toUInt64).toInt64) &&& 255) + 1)).toInt_lt
    try simp only [f1, own_eqite, own_iteeq] at *
    try simp only [ne_eq, and_true, true_and, or_true, true_or, and_false, false_and, or_false, false_or, not_true_eq_false, not_false_eq_true, Int32.lt_iff_toInt_lt, Int64.lt_iff_toInt_lt, ← Int32.toInt_inj, ← Int64.toInt_inj, Int32.reduceToInt, Int64.reduceToInt] at *
    omega
  have hft : 0 ≤ v18.toInt ∧ v18.toInt ≤ v20.toInt ∧ v20.toInt ≤ 6 := by
    clear c293 hv31 hu23 hv21 hv22 hv3 hv5 hv7 hv9 hv11 hv13
    have ca_0 := c_mask i2 7 3 (by decide) (by decide)
    have ca_1 := c_irem (i2 &&& 7) 7 7 rfl
    have ca_2 := c_mask ((i2.toUInt32 >>> ((3 : Int32) &&& 31).toUInt32).toInt32) 7 3 (by decide) (by decide)
    have ca_3 := c_irem (((i2.toUInt32 >>> ((3 : Int32) &&& 31).toUInt32).toInt32) &&& 7) 7 7 rfl
    have ca_4 := c_mask ((i3.toUInt32 >>> ((1 : Int32) &&& 31).toUInt32).toInt32) 7 3 (by decide) (by decide)
    have ca_5 := c_irem (((i3.toUInt32 >>> ((1 : Int32) &&& 31).toUInt32).toInt32) &&& 7) 6 6 rfl
    try simp only [f2, f3, own_eqite, own_iteeq] at *
    try simp only [ne_eq, and_true, true_and, or_true, true_or, and_false, false_and, or_false, false_or, not_true_eq_false, not_false_eq_true, Int32.lt_iff_toInt_lt, Int64.lt_iff_toInt_lt, ← Int32.toInt_inj, ← Int64.toInt_inj, Int32.reduceToInt, Int64.reduceToInt] at *
    omega
  refine c293 ?_
  rw [hv31]
  exact own_fin v3 v5 v7 v9 v11 v13 u23 v18 v20 (Int64.lt_iff_toInt_lt.mpr hord.1) (Int64.lt_iff_toInt_lt.mpr hord.2.1) (Int64.lt_iff_toInt_lt.mpr hord.2.2.1) (Int64.lt_iff_toInt_lt.mpr hord.2.2.2.1) (Int64.lt_iff_toInt_lt.mpr hord.2.2.2.2) hft.1 hft.2.1 hft.2.2
theorem pn0 : plainName "com/example/leeway/leeway/engine/TimeSearchFirstAfterPinLaw" = true := by first | (simp [plainName, overriddenIn]; done) | decide +kernel
theorem ef0 (m : MethodId) (j0 : Int64) (j1 : Int64) (i2 : Int32) (i3 : Int32) (j4 : Int64) : entryFrame m #[(.long j0), (.long j1), (.int i2), (.int i3), (.long j4)] maxLocals = mkF m 0 #[.val (.long j0), .second, .val (.long j1), .second, .val (.int i2), .val (.int i3), .val (.long j4), .second, .unset, .unset, .unset, .unset, .unset, .unset, .unset, .unset, .unset, .unset, .unset, .unset, .unset] [] := by first | (simp [entryFrame, mkF, argsToLocals, Value.category, maxLocals]; done) | rfl
set_option maxRecDepth 65536 in
set_option maxHeartbeats 40000000 in
theorem rm0 (l : Launch) (Z : State) (a0 : Array Value) (hw : ∀ d ∈ tables_1, d.before a0 Z = true) (j0 : Int64) (j1 : Int64) (i2 : Int32) (i3 : Int32) (j4 : Int64) (h0 : Heap) (n0 : Nat) (Z0 : n0 ≤ h0.size) :
    Ctr l Z x code maxLocals ret room_1 #[(.long j0), (.long j1), (.int i2), (.int i3), (.long j4)] h0 n0 (fun v _ => v = some (.int (1 : Int32))) := by
  refine Ctr.body (L := #[.val (.long j0), .second, .val (.long j1), .second, .val (.int i2), .val (.int i3), .val (.long j4), .second, .unset, .unset, .unset, .unset, .unset, .unset, .unset, .unset, .unset, .unset, .unset, .unset, .unset]) (plainFor_of_name pn0) Z0 (fun m => ef0 m j0 j1 i2 i3 j4) ?_
  intro p e F m below meth c T0 C0
  refine C0.bipush (6 : Int32) at_0 rfl rfl ?_
  refine C0.newarr (hw _ (List.mem_of_getElem? (i := 0) rfl)) 6 (by decide) (by decide) (by decide) (by decide) (by decide) at_2 rfl (fun T1 h1 b1 k1 C1 e1 g_b1 E1 V_b1 => ?_)
  have V_b1 : Arv Z h1 b1 k1 .long (6 : Int32) [(.long (0 : Int64)), (.long (0 : Int64)), (.long (0 : Int64)), (.long (0 : Int64)), (.long (0 : Int64)), (.long (0 : Int64))] (.long (0 : Int64)) := V_b1
  refine C1.astore at_4 rfl rfl (L' := #[.val (.long j0), .second, .val (.long j1), .second, .val (.int i2), .val (.int i3), .val (.long j4), .second, .val (.ref b1), .unset, .unset, .unset, .unset, .unset, .unset, .unset, .unset, .unset, .unset, .unset, .unset]) rfl ?_
  refine C1.lloadN at_6 rfl rfl ?_
  refine C1.ldc2 (hw _ (List.mem_of_getElem? (i := 1) rfl)) at_7 rfl ?_
  refine C1.callS (hw _ (List.mem_of_getElem? (i := 2) rfl)) (hw _ (List.mem_of_getElem? (i := 3) rfl)) (hw _ (List.mem_of_getElem? (i := 4) rfl)) (hw _ (List.mem_of_getElem? (i := 5) rfl)) (by decide) (rm1 l Z a0 hw j0 (9223372036854774527 : Int64) h1 n0 C1.size ) (argsL := [(.long j0), (.long (9223372036854774527 : Int64))]) pd1 rfl 0 (by decide) (by decide) (by decide) (by decide) (rest := []) rfl rfl (Nat.le_of_eq rfl) at_10 rfl (fun v2 T2 h2 C2 qq2 => ?_)
  obtain ⟨rfl, hh2⟩ := qq2
  have hh2 := hh2.symm; subst hh2
  show Go p e below F n0 (fun v _ => v = some (.int (1 : Int32))) T2 (mkF m 13 #[.val (.long j0), .second, .val (.long j1), .second, .val (.int i2), .val (.int i3), .val (.long j4), .second, .val (.ref b1), .unset, .unset, .unset, .unset, .unset, .unset, .unset, .unset, .unset, .unset, .unset, .unset] [(.long (f1 j0 (9223372036854774527 : Int64)))])
  refine C2.lstoreV (fun v => #[.val (.long j0), .second, .val (.long j1), .second, .val (.int i2), .val (.int i3), .val (.long j4), .second, .val (.ref b1), .val (.long v), .second, .unset, .unset, .unset, .unset, .unset, .unset, .unset, .unset, .unset, .unset]) at_13 rfl (fun _ => rfl) (fun v3 hv3 => ?_)
  refine C2.aload at_15 rfl rfl rfl ?_
  refine C2.iconst (0 : Int32) at_17 rfl rfl ?_
  refine C2.lload at_18 rfl rfl ?_
  refine C2.lastore V_b1 ⟨by decide, by decide⟩ (Nat.le_of_ble_eq_true rfl) g_b1 at_20 rfl (fun T4 h4 C4 W4 Vn4 => ?_)
  have V_b1 : Arv Z h4 b1 k1 .long (6 : Int32) [(.long v3), (.long (0 : Int64)), (.long (0 : Int64)), (.long (0 : Int64)), (.long (0 : Int64)), (.long (0 : Int64))] (.long (0 : Int64)) := Vn4
  refine C4.aload at_21 rfl rfl rfl ?_
  refine C4.iconst (1 : Int32) at_23 rfl rfl ?_
  refine C4.aload at_24 rfl rfl rfl ?_
  refine C4.iconst (0 : Int32) at_26 rfl rfl ?_
  refine C4.laload (v := v3) V_b1 ⟨by decide, by decide⟩ rfl at_27 rfl ?_
  refine C4.lloadN at_28 rfl rfl ?_
  refine C4.ldc2 (hw _ (List.mem_of_getElem? (i := 6) rfl)) at_29 rfl ?_
  refine C4.land at_32 rfl ?_
  refine C4.lconst (1 : Int64) at_33 rfl rfl ?_
  refine C4.ladd at_34 rfl ?_
  refine C4.ladd at_35 rfl ?_
  generalize hqv5 : (v3 + ((j1 &&& (255 : Int64)) + (1 : Int64))) = v5
  have hv5 := hqv5.symm
  refine C4.lastore V_b1 ⟨by decide, by decide⟩ (Nat.le_of_ble_eq_true rfl) g_b1 at_36 rfl (fun T6 h6 C6 W6 Vn6 => ?_)
  have V_b1 : Arv Z h6 b1 k1 .long (6 : Int32) [(.long v3), (.long v5), (.long (0 : Int64)), (.long (0 : Int64)), (.long (0 : Int64)), (.long (0 : Int64))] (.long (0 : Int64)) := Vn6
  refine C6.aload at_37 rfl rfl rfl ?_
  refine C6.iconst (2 : Int32) at_39 rfl rfl ?_
  refine C6.aload at_40 rfl rfl rfl ?_
  refine C6.iconst (1 : Int32) at_42 rfl rfl ?_
  refine C6.laload (v := v5) V_b1 ⟨by decide, by decide⟩ rfl at_43 rfl ?_
  refine C6.lloadN at_44 rfl rfl ?_
  refine C6.bipush (8 : Int32) at_45 rfl rfl ?_
  refine C6.lushr at_47 rfl ?_
  refine C6.ldc2 (hw _ (List.mem_of_getElem? (i := 6) rfl)) at_48 rfl ?_
  refine C6.land at_51 rfl ?_
  refine C6.lconst (1 : Int64) at_52 rfl rfl ?_
  refine C6.ladd at_53 rfl ?_
  refine C6.ladd at_54 rfl ?_
  generalize hqv7 : (v5 + ((((j1.toUInt64 >>> ((8 : Int32) &&& 0x3f).toInt64.toUInt64).toInt64) &&& (255 : Int64)) + (1 : Int64))) = v7
  have hv7 := hqv7.symm
  refine C6.lastore V_b1 ⟨by decide, by decide⟩ (Nat.le_of_ble_eq_true rfl) g_b1 at_55 rfl (fun T8 h8 C8 W8 Vn8 => ?_)
  have V_b1 : Arv Z h8 b1 k1 .long (6 : Int32) [(.long v3), (.long v5), (.long v7), (.long (0 : Int64)), (.long (0 : Int64)), (.long (0 : Int64))] (.long (0 : Int64)) := Vn8
  refine C8.aload at_56 rfl rfl rfl ?_
  refine C8.iconst (3 : Int32) at_58 rfl rfl ?_
  refine C8.aload at_59 rfl rfl rfl ?_
  refine C8.iconst (2 : Int32) at_61 rfl rfl ?_
  refine C8.laload (v := v7) V_b1 ⟨by decide, by decide⟩ rfl at_62 rfl ?_
  refine C8.lloadN at_63 rfl rfl ?_
  refine C8.bipush (16 : Int32) at_64 rfl rfl ?_
  refine C8.lushr at_66 rfl ?_
  refine C8.ldc2 (hw _ (List.mem_of_getElem? (i := 6) rfl)) at_67 rfl ?_
  refine C8.land at_70 rfl ?_
  refine C8.lconst (1 : Int64) at_71 rfl rfl ?_
  refine C8.ladd at_72 rfl ?_
  refine C8.ladd at_73 rfl ?_
  generalize hqv9 : (v7 + ((((j1.toUInt64 >>> ((16 : Int32) &&& 0x3f).toInt64.toUInt64).toInt64) &&& (255 : Int64)) + (1 : Int64))) = v9
  have hv9 := hqv9.symm
  refine C8.lastore V_b1 ⟨by decide, by decide⟩ (Nat.le_of_ble_eq_true rfl) g_b1 at_74 rfl (fun T10 h10 C10 W10 Vn10 => ?_)
  have V_b1 : Arv Z h10 b1 k1 .long (6 : Int32) [(.long v3), (.long v5), (.long v7), (.long v9), (.long (0 : Int64)), (.long (0 : Int64))] (.long (0 : Int64)) := Vn10
  refine C10.aload at_75 rfl rfl rfl ?_
  refine C10.iconst (4 : Int32) at_77 rfl rfl ?_
  refine C10.aload at_78 rfl rfl rfl ?_
  refine C10.iconst (3 : Int32) at_80 rfl rfl ?_
  refine C10.laload (v := v9) V_b1 ⟨by decide, by decide⟩ rfl at_81 rfl ?_
  refine C10.lloadN at_82 rfl rfl ?_
  refine C10.bipush (24 : Int32) at_83 rfl rfl ?_
  refine C10.lushr at_85 rfl ?_
  refine C10.ldc2 (hw _ (List.mem_of_getElem? (i := 6) rfl)) at_86 rfl ?_
  refine C10.land at_89 rfl ?_
  refine C10.lconst (1 : Int64) at_90 rfl rfl ?_
  refine C10.ladd at_91 rfl ?_
  refine C10.ladd at_92 rfl ?_
  generalize hqv11 : (v9 + ((((j1.toUInt64 >>> ((24 : Int32) &&& 0x3f).toInt64.toUInt64).toInt64) &&& (255 : Int64)) + (1 : Int64))) = v11
  have hv11 := hqv11.symm
  refine C10.lastore V_b1 ⟨by decide, by decide⟩ (Nat.le_of_ble_eq_true rfl) g_b1 at_93 rfl (fun T12 h12 C12 W12 Vn12 => ?_)
  have V_b1 : Arv Z h12 b1 k1 .long (6 : Int32) [(.long v3), (.long v5), (.long v7), (.long v9), (.long v11), (.long (0 : Int64))] (.long (0 : Int64)) := Vn12
  refine C12.aload at_94 rfl rfl rfl ?_
  refine C12.iconst (5 : Int32) at_96 rfl rfl ?_
  refine C12.aload at_97 rfl rfl rfl ?_
  refine C12.iconst (4 : Int32) at_99 rfl rfl ?_
  refine C12.laload (v := v11) V_b1 ⟨by decide, by decide⟩ rfl at_100 rfl ?_
  refine C12.lloadN at_101 rfl rfl ?_
  refine C12.bipush (32 : Int32) at_102 rfl rfl ?_
  refine C12.lushr at_104 rfl ?_
  refine C12.ldc2 (hw _ (List.mem_of_getElem? (i := 6) rfl)) at_105 rfl ?_
  refine C12.land at_108 rfl ?_
  refine C12.lconst (1 : Int64) at_109 rfl rfl ?_
  refine C12.ladd at_110 rfl ?_
  refine C12.ladd at_111 rfl ?_
  generalize hqv13 : (v11 + ((((j1.toUInt64 >>> ((32 : Int32) &&& 0x3f).toInt64.toUInt64).toInt64) &&& (255 : Int64)) + (1 : Int64))) = v13
  have hv13 := hqv13.symm
  refine C12.lastore V_b1 ⟨by decide, by decide⟩ (Nat.le_of_ble_eq_true rfl) g_b1 at_112 rfl (fun T14 h14 C14 W14 Vn14 => ?_)
  have V_b1 : Arv Z h14 b1 k1 .long (6 : Int32) [(.long v3), (.long v5), (.long v7), (.long v9), (.long v11), (.long v13)] (.long (0 : Int64)) := Vn14
  refine C14.iload at_113 rfl rfl ?_
  refine C14.bipush (7 : Int32) at_115 rfl rfl ?_
  refine C14.iand at_117 rfl ?_
  refine C14.bipush (7 : Int32) at_118 rfl rfl ?_
  refine C14.irem at_120 rfl (by decide) ?_
  refine C14.istoreV (fun v => #[.val (.long j0), .second, .val (.long j1), .second, .val (.int i2), .val (.int i3), .val (.long j4), .second, .val (.ref b1), .val (.long v3), .second, .val (.int v), .unset, .unset, .unset, .unset, .unset, .unset, .unset, .unset, .unset]) at_121 rfl (fun _ => rfl) (fun v15 hv15 => ?_)
  refine C14.iload at_123 rfl rfl ?_
  refine C14.iconst (3 : Int32) at_125 rfl rfl ?_
  refine C14.iushr at_126 rfl ?_
  refine C14.bipush (7 : Int32) at_127 rfl rfl ?_
  refine C14.iand at_129 rfl ?_
  refine C14.bipush (7 : Int32) at_130 rfl rfl ?_
  refine C14.irem at_132 rfl (by decide) ?_
  refine C14.istoreV (fun v => #[.val (.long j0), .second, .val (.long j1), .second, .val (.int i2), .val (.int i3), .val (.long j4), .second, .val (.ref b1), .val (.long v3), .second, .val (.int v15), .val (.int v), .unset, .unset, .unset, .unset, .unset, .unset, .unset, .unset]) at_133 rfl (fun _ => rfl) (fun v16 hv16 => ?_)
  refine C14.iload at_135 rfl rfl ?_
  refine C14.iload at_137 rfl rfl ?_
  refine C14.callS (hw _ (List.mem_of_getElem? (i := 7) rfl)) (hw _ (List.mem_of_getElem? (i := 8) rfl)) (hw _ (List.mem_of_getElem? (i := 4) rfl)) (hw _ (List.mem_of_getElem? (i := 9) rfl)) (by decide) (rm2 l Z a0 hw v15 v16 h14 n0 C14.size ) (argsL := [(.int v15), (.int v16)]) pd2 rfl 0 (by decide) (by decide) (by decide) (by decide) (rest := []) rfl rfl (Nat.le_of_eq rfl) at_139 rfl (fun v17 T17 h17 C17 qq17 => ?_)
  obtain ⟨rfl, hh17⟩ := qq17
  have hh17 := hh17.symm; subst hh17
  show Go p e below F n0 (fun v _ => v = some (.int (1 : Int32))) T17 (mkF m 142 #[.val (.long j0), .second, .val (.long j1), .second, .val (.int i2), .val (.int i3), .val (.long j4), .second, .val (.ref b1), .val (.long v3), .second, .val (.int v15), .val (.int v16), .unset, .unset, .unset, .unset, .unset, .unset, .unset, .unset] [(.int (f2 v15 v16))])
  refine C17.istoreV (fun v => #[.val (.long j0), .second, .val (.long j1), .second, .val (.int i2), .val (.int i3), .val (.long j4), .second, .val (.ref b1), .val (.long v3), .second, .val (.int v15), .val (.int v16), .val (.int v), .unset, .unset, .unset, .unset, .unset, .unset, .unset]) at_142 rfl (fun _ => rfl) (fun v18 hv18 => ?_)
  refine C17.iload at_144 rfl rfl ?_
  refine C17.iload at_146 rfl rfl ?_
  refine C17.callS (hw _ (List.mem_of_getElem? (i := 10) rfl)) (hw _ (List.mem_of_getElem? (i := 11) rfl)) (hw _ (List.mem_of_getElem? (i := 4) rfl)) (hw _ (List.mem_of_getElem? (i := 12) rfl)) (by decide) (rm3 l Z a0 hw v15 v16 h14 n0 C17.size ) (argsL := [(.int v15), (.int v16)]) pd3 rfl 0 (by decide) (by decide) (by decide) (by decide) (rest := []) rfl rfl (Nat.le_of_eq rfl) at_148 rfl (fun v19 T19 h19 C19 qq19 => ?_)
  obtain ⟨rfl, hh19⟩ := qq19
  have hh19 := hh19.symm; subst hh19
  show Go p e below F n0 (fun v _ => v = some (.int (1 : Int32))) T19 (mkF m 151 #[.val (.long j0), .second, .val (.long j1), .second, .val (.int i2), .val (.int i3), .val (.long j4), .second, .val (.ref b1), .val (.long v3), .second, .val (.int v15), .val (.int v16), .val (.int v18), .unset, .unset, .unset, .unset, .unset, .unset, .unset] [(.int (f3 v15 v16))])
  refine C19.istoreV (fun v => #[.val (.long j0), .second, .val (.long j1), .second, .val (.int i2), .val (.int i3), .val (.long j4), .second, .val (.ref b1), .val (.long v3), .second, .val (.int v15), .val (.int v16), .val (.int v18), .val (.int v), .unset, .unset, .unset, .unset, .unset, .unset]) at_151 rfl (fun _ => rfl) (fun v20 hv20 => ?_)
  refine C19.iload at_153 rfl rfl ?_
  refine C19.iconst (1 : Int32) at_155 rfl rfl ?_
  refine C19.iushr at_156 rfl ?_
  refine C19.bipush (7 : Int32) at_157 rfl rfl ?_
  refine C19.iand at_159 rfl ?_
  refine C19.bipush (6 : Int32) at_160 rfl rfl ?_
  refine C19.irem at_162 rfl (by decide) ?_
  refine C19.istoreV (fun v => #[.val (.long j0), .second, .val (.long j1), .second, .val (.int i2), .val (.int i3), .val (.long j4), .second, .val (.ref b1), .val (.long v3), .second, .val (.int v15), .val (.int v16), .val (.int v18), .val (.int v20), .val (.int v), .unset, .unset, .unset, .unset, .unset]) at_163 rfl (fun _ => rfl) (fun v21 hv21 => ?_)
  refine C19.iload at_165 rfl rfl ?_
  refine C19.iconst (4 : Int32) at_167 rfl rfl ?_
  refine C19.iushr at_168 rfl ?_
  refine C19.iconst (3 : Int32) at_169 rfl rfl ?_
  refine C19.iand at_170 rfl ?_
  refine C19.iconst (1 : Int32) at_171 rfl rfl ?_
  refine C19.isub at_172 rfl ?_
  refine C19.i2l at_173 rfl ?_
  refine C19.lstoreV (fun v => #[.val (.long j0), .second, .val (.long j1), .second, .val (.int i2), .val (.int i3), .val (.long j4), .second, .val (.ref b1), .val (.long v3), .second, .val (.int v15), .val (.int v16), .val (.int v18), .val (.int v20), .val (.int v21), .val (.long v), .second, .unset, .unset, .unset]) at_174 rfl (fun _ => rfl) (fun v22 hv22 => ?_)
  refine C19.iload at_176 rfl rfl ?_
  refine C19.iconst (1 : Int32) at_178 rfl rfl ?_
  refine C19.iand at_179 rfl ?_
  have J196 : ∀ (T24 : State) (u23 : Int64), Cx p l e room_1 m #[(.long j0), (.long j1), (.int i2), (.int i3), (.long j4)] below meth c Z x code maxLocals ret n0 false F T24 h14 1 6 → u23 = (if (i3 &&& (1 : Int32)) = (0 : Int32) then j4 else (([v3, v5, v7, v9, v11, v13].getD (v21).toNatClampNeg (0 : Int64)) + v22)) → Go p e below F n0 (fun v _ => v = some (.int (1 : Int32))) T24 (mkF m 196 #[.val (.long j0), .second, .val (.long j1), .second, .val (.int i2), .val (.int i3), .val (.long j4), .second, .val (.ref b1), .val (.long v3), .second, .val (.int v15), .val (.int v16), .val (.int v18), .val (.int v20), .val (.int v21), .val (.long v22), .second, .unset, .unset, .unset] [(.long u23)]) := by
    intro T24 u23 C24 hu23
    refine C24.lstore at_196 rfl (L' := #[.val (.long j0), .second, .val (.long j1), .second, .val (.int i2), .val (.int i3), .val (.long j4), .second, .val (.ref b1), .val (.long v3), .second, .val (.int v15), .val (.int v16), .val (.int v18), .val (.int v20), .val (.int v21), .val (.long v22), .second, .val (.long u23), .second, .unset]) rfl ?_
    refine C24.iload at_198 rfl rfl ?_
    refine C24.aload at_200 rfl rfl rfl ?_
    refine C24.iconst (0 : Int32) at_202 rfl rfl ?_
    refine C24.iload at_203 rfl rfl ?_
    refine C24.iload at_205 rfl rfl ?_
    refine C24.lload at_207 rfl rfl ?_
    refine C24.callS (hw _ (List.mem_of_getElem? (i := 13) rfl)) (hw _ (List.mem_of_getElem? (i := 14) rfl)) (hw _ (List.mem_of_getElem? (i := 15) rfl)) (hw _ (List.mem_of_getElem? (i := 16) rfl)) (by decide) (rm4 l Z a0 hw b1 (0 : Int32) v18 v20 u23 k1 (6 : Int32) [(.long v3), (.long v5), (.long v7), (.long v9), (.long v11), (.long v13)] (.long (0 : Int64)) v3 h14 n0 C24.size V_b1 ⟨by decide, by decide⟩ rfl) (argsL := [(.ref b1), (.int (0 : Int32)), (.int v18), (.int v20), (.long u23)]) pd4 rfl 1 (by decide) (by decide) (by decide) (by decide) (rest := [(.int v18)]) rfl rfl (Nat.le_of_eq rfl) at_209 rfl (fun v25 T25 h25 C25 qq25 => ?_)
    obtain ⟨rfl, hh25⟩ := qq25
    have hh25 := hh25.symm; subst hh25
    show Go p e below F n0 (fun v _ => v = some (.int (1 : Int32))) T25 (mkF m 212 #[.val (.long j0), .second, .val (.long j1), .second, .val (.int i2), .val (.int i3), .val (.long j4), .second, .val (.ref b1), .val (.long v3), .second, .val (.int v15), .val (.int v16), .val (.int v18), .val (.int v20), .val (.int v21), .val (.long v22), .second, .val (.long u23), .second, .unset] [(.int (f4 (0 : Int32) v18 v20 u23 v3)), (.int v18)])
    refine C25.iadd at_212 rfl ?_
    refine C25.aload at_213 rfl rfl rfl ?_
    refine C25.iconst (1 : Int32) at_215 rfl rfl ?_
    refine C25.iload at_216 rfl rfl ?_
    refine C25.iload at_218 rfl rfl ?_
    refine C25.lload at_220 rfl rfl ?_
    refine C25.callS (hw _ (List.mem_of_getElem? (i := 13) rfl)) (hw _ (List.mem_of_getElem? (i := 14) rfl)) (hw _ (List.mem_of_getElem? (i := 15) rfl)) (hw _ (List.mem_of_getElem? (i := 16) rfl)) (by decide) (rm4 l Z a0 hw b1 (1 : Int32) v18 v20 u23 k1 (6 : Int32) [(.long v3), (.long v5), (.long v7), (.long v9), (.long v11), (.long v13)] (.long (0 : Int64)) v5 h14 n0 C25.size V_b1 ⟨by decide, by decide⟩ rfl) (argsL := [(.ref b1), (.int (1 : Int32)), (.int v18), (.int v20), (.long u23)]) pd4 rfl 1 (by decide) (by decide) (by decide) (by decide) (rest := [(.int (v18 + (f4 (0 : Int32) v18 v20 u23 v3)))]) rfl rfl (Nat.le_of_eq rfl) at_222 rfl (fun v26 T26 h26 C26 qq26 => ?_)
    obtain ⟨rfl, hh26⟩ := qq26
    have hh26 := hh26.symm; subst hh26
    show Go p e below F n0 (fun v _ => v = some (.int (1 : Int32))) T26 (mkF m 225 #[.val (.long j0), .second, .val (.long j1), .second, .val (.int i2), .val (.int i3), .val (.long j4), .second, .val (.ref b1), .val (.long v3), .second, .val (.int v15), .val (.int v16), .val (.int v18), .val (.int v20), .val (.int v21), .val (.long v22), .second, .val (.long u23), .second, .unset] [(.int (f4 (1 : Int32) v18 v20 u23 v5)), (.int (v18 + (f4 (0 : Int32) v18 v20 u23 v3)))])
    refine C26.iadd at_225 rfl ?_
    refine C26.aload at_226 rfl rfl rfl ?_
    refine C26.iconst (2 : Int32) at_228 rfl rfl ?_
    refine C26.iload at_229 rfl rfl ?_
    refine C26.iload at_231 rfl rfl ?_
    refine C26.lload at_233 rfl rfl ?_
    refine C26.callS (hw _ (List.mem_of_getElem? (i := 13) rfl)) (hw _ (List.mem_of_getElem? (i := 14) rfl)) (hw _ (List.mem_of_getElem? (i := 15) rfl)) (hw _ (List.mem_of_getElem? (i := 16) rfl)) (by decide) (rm4 l Z a0 hw b1 (2 : Int32) v18 v20 u23 k1 (6 : Int32) [(.long v3), (.long v5), (.long v7), (.long v9), (.long v11), (.long v13)] (.long (0 : Int64)) v7 h14 n0 C26.size V_b1 ⟨by decide, by decide⟩ rfl) (argsL := [(.ref b1), (.int (2 : Int32)), (.int v18), (.int v20), (.long u23)]) pd4 rfl 1 (by decide) (by decide) (by decide) (by decide) (rest := [(.int ((v18 + (f4 (0 : Int32) v18 v20 u23 v3)) + (f4 (1 : Int32) v18 v20 u23 v5)))]) rfl rfl (Nat.le_of_eq rfl) at_235 rfl (fun v27 T27 h27 C27 qq27 => ?_)
    obtain ⟨rfl, hh27⟩ := qq27
    have hh27 := hh27.symm; subst hh27
    show Go p e below F n0 (fun v _ => v = some (.int (1 : Int32))) T27 (mkF m 238 #[.val (.long j0), .second, .val (.long j1), .second, .val (.int i2), .val (.int i3), .val (.long j4), .second, .val (.ref b1), .val (.long v3), .second, .val (.int v15), .val (.int v16), .val (.int v18), .val (.int v20), .val (.int v21), .val (.long v22), .second, .val (.long u23), .second, .unset] [(.int (f4 (2 : Int32) v18 v20 u23 v7)), (.int ((v18 + (f4 (0 : Int32) v18 v20 u23 v3)) + (f4 (1 : Int32) v18 v20 u23 v5)))])
    refine C27.iadd at_238 rfl ?_
    refine C27.aload at_239 rfl rfl rfl ?_
    refine C27.iconst (3 : Int32) at_241 rfl rfl ?_
    refine C27.iload at_242 rfl rfl ?_
    refine C27.iload at_244 rfl rfl ?_
    refine C27.lload at_246 rfl rfl ?_
    refine C27.callS (hw _ (List.mem_of_getElem? (i := 13) rfl)) (hw _ (List.mem_of_getElem? (i := 14) rfl)) (hw _ (List.mem_of_getElem? (i := 15) rfl)) (hw _ (List.mem_of_getElem? (i := 16) rfl)) (by decide) (rm4 l Z a0 hw b1 (3 : Int32) v18 v20 u23 k1 (6 : Int32) [(.long v3), (.long v5), (.long v7), (.long v9), (.long v11), (.long v13)] (.long (0 : Int64)) v9 h14 n0 C27.size V_b1 ⟨by decide, by decide⟩ rfl) (argsL := [(.ref b1), (.int (3 : Int32)), (.int v18), (.int v20), (.long u23)]) pd4 rfl 1 (by decide) (by decide) (by decide) (by decide) (rest := [(.int (((v18 + (f4 (0 : Int32) v18 v20 u23 v3)) + (f4 (1 : Int32) v18 v20 u23 v5)) + (f4 (2 : Int32) v18 v20 u23 v7)))]) rfl rfl (Nat.le_of_eq rfl) at_248 rfl (fun v28 T28 h28 C28 qq28 => ?_)
    obtain ⟨rfl, hh28⟩ := qq28
    have hh28 := hh28.symm; subst hh28
    show Go p e below F n0 (fun v _ => v = some (.int (1 : Int32))) T28 (mkF m 251 #[.val (.long j0), .second, .val (.long j1), .second, .val (.int i2), .val (.int i3), .val (.long j4), .second, .val (.ref b1), .val (.long v3), .second, .val (.int v15), .val (.int v16), .val (.int v18), .val (.int v20), .val (.int v21), .val (.long v22), .second, .val (.long u23), .second, .unset] [(.int (f4 (3 : Int32) v18 v20 u23 v9)), (.int (((v18 + (f4 (0 : Int32) v18 v20 u23 v3)) + (f4 (1 : Int32) v18 v20 u23 v5)) + (f4 (2 : Int32) v18 v20 u23 v7)))])
    refine C28.iadd at_251 rfl ?_
    refine C28.aload at_252 rfl rfl rfl ?_
    refine C28.iconst (4 : Int32) at_254 rfl rfl ?_
    refine C28.iload at_255 rfl rfl ?_
    refine C28.iload at_257 rfl rfl ?_
    refine C28.lload at_259 rfl rfl ?_
    refine C28.callS (hw _ (List.mem_of_getElem? (i := 13) rfl)) (hw _ (List.mem_of_getElem? (i := 14) rfl)) (hw _ (List.mem_of_getElem? (i := 15) rfl)) (hw _ (List.mem_of_getElem? (i := 16) rfl)) (by decide) (rm4 l Z a0 hw b1 (4 : Int32) v18 v20 u23 k1 (6 : Int32) [(.long v3), (.long v5), (.long v7), (.long v9), (.long v11), (.long v13)] (.long (0 : Int64)) v11 h14 n0 C28.size V_b1 ⟨by decide, by decide⟩ rfl) (argsL := [(.ref b1), (.int (4 : Int32)), (.int v18), (.int v20), (.long u23)]) pd4 rfl 1 (by decide) (by decide) (by decide) (by decide) (rest := [(.int ((((v18 + (f4 (0 : Int32) v18 v20 u23 v3)) + (f4 (1 : Int32) v18 v20 u23 v5)) + (f4 (2 : Int32) v18 v20 u23 v7)) + (f4 (3 : Int32) v18 v20 u23 v9)))]) rfl rfl (Nat.le_of_eq rfl) at_261 rfl (fun v29 T29 h29 C29 qq29 => ?_)
    obtain ⟨rfl, hh29⟩ := qq29
    have hh29 := hh29.symm; subst hh29
    show Go p e below F n0 (fun v _ => v = some (.int (1 : Int32))) T29 (mkF m 264 #[.val (.long j0), .second, .val (.long j1), .second, .val (.int i2), .val (.int i3), .val (.long j4), .second, .val (.ref b1), .val (.long v3), .second, .val (.int v15), .val (.int v16), .val (.int v18), .val (.int v20), .val (.int v21), .val (.long v22), .second, .val (.long u23), .second, .unset] [(.int (f4 (4 : Int32) v18 v20 u23 v11)), (.int ((((v18 + (f4 (0 : Int32) v18 v20 u23 v3)) + (f4 (1 : Int32) v18 v20 u23 v5)) + (f4 (2 : Int32) v18 v20 u23 v7)) + (f4 (3 : Int32) v18 v20 u23 v9)))])
    refine C29.iadd at_264 rfl ?_
    refine C29.aload at_265 rfl rfl rfl ?_
    refine C29.iconst (5 : Int32) at_267 rfl rfl ?_
    refine C29.iload at_268 rfl rfl ?_
    refine C29.iload at_270 rfl rfl ?_
    refine C29.lload at_272 rfl rfl ?_
    refine C29.callS (hw _ (List.mem_of_getElem? (i := 13) rfl)) (hw _ (List.mem_of_getElem? (i := 14) rfl)) (hw _ (List.mem_of_getElem? (i := 15) rfl)) (hw _ (List.mem_of_getElem? (i := 16) rfl)) (by decide) (rm4 l Z a0 hw b1 (5 : Int32) v18 v20 u23 k1 (6 : Int32) [(.long v3), (.long v5), (.long v7), (.long v9), (.long v11), (.long v13)] (.long (0 : Int64)) v13 h14 n0 C29.size V_b1 ⟨by decide, by decide⟩ rfl) (argsL := [(.ref b1), (.int (5 : Int32)), (.int v18), (.int v20), (.long u23)]) pd4 rfl 1 (by decide) (by decide) (by decide) (by decide) (rest := [(.int (((((v18 + (f4 (0 : Int32) v18 v20 u23 v3)) + (f4 (1 : Int32) v18 v20 u23 v5)) + (f4 (2 : Int32) v18 v20 u23 v7)) + (f4 (3 : Int32) v18 v20 u23 v9)) + (f4 (4 : Int32) v18 v20 u23 v11)))]) rfl rfl (Nat.le_of_eq rfl) at_274 rfl (fun v30 T30 h30 C30 qq30 => ?_)
    obtain ⟨rfl, hh30⟩ := qq30
    have hh30 := hh30.symm; subst hh30
    show Go p e below F n0 (fun v _ => v = some (.int (1 : Int32))) T30 (mkF m 277 #[.val (.long j0), .second, .val (.long j1), .second, .val (.int i2), .val (.int i3), .val (.long j4), .second, .val (.ref b1), .val (.long v3), .second, .val (.int v15), .val (.int v16), .val (.int v18), .val (.int v20), .val (.int v21), .val (.long v22), .second, .val (.long u23), .second, .unset] [(.int (f4 (5 : Int32) v18 v20 u23 v13)), (.int (((((v18 + (f4 (0 : Int32) v18 v20 u23 v3)) + (f4 (1 : Int32) v18 v20 u23 v5)) + (f4 (2 : Int32) v18 v20 u23 v7)) + (f4 (3 : Int32) v18 v20 u23 v9)) + (f4 (4 : Int32) v18 v20 u23 v11)))])
    refine C30.iadd at_277 rfl ?_
    refine C30.istoreV (fun v => #[.val (.long j0), .second, .val (.long j1), .second, .val (.int i2), .val (.int i3), .val (.long j4), .second, .val (.ref b1), .val (.long v3), .second, .val (.int v15), .val (.int v16), .val (.int v18), .val (.int v20), .val (.int v21), .val (.long v22), .second, .val (.long u23), .second, .val (.int v)]) at_278 rfl (fun _ => rfl) (fun v31 hv31 => ?_)
    refine C30.aload at_280 rfl rfl rfl ?_
    refine C30.iload at_282 rfl rfl ?_
    refine C30.iload at_284 rfl rfl ?_
    refine C30.lload at_286 rfl rfl ?_
    refine C30.callS (hw _ (List.mem_of_getElem? (i := 17) rfl)) (hw _ (List.mem_of_getElem? (i := 18) rfl)) (hw _ (List.mem_of_getElem? (i := 19) rfl)) (hw _ (List.mem_of_getElem? (i := 20) rfl)) (by decide) (rm5 l Z a0 hw b1 v18 v20 u23 k1 (6 : Int32) [(.long v3), (.long v5), (.long v7), (.long v9), (.long v11), (.long v13)] (.long (0 : Int64)) (fun j => ([v3, v5, v7, v9, v11, v13].getD j.toNatClampNeg (0 : Int64))) h14 n0 C30.size V_b1 (fun j _ => own_getJ [v3, v5, v7, v9, v11, v13] _) (own_pre1 j0 j1 i2 i3 j4 v3 v5 v7 v9 v11 v13 v15 v16 v18 v20 v21 v22 u23 v31 hv3 hv5 hv7 hv9 hv11 hv13 hv15 hv16 hv18 hv20 hv21 hv22 hu23 hv31) (own_pre2 j0 j1 i2 i3 j4 v3 v5 v7 v9 v11 v13 v15 v16 v18 v20 v21 v22 u23 v31 hv3 hv5 hv7 hv9 hv11 hv13 hv15 hv16 hv18 hv20 hv21 hv22 hu23 hv31) (own_pre3 j0 j1 i2 i3 j4 v3 v5 v7 v9 v11 v13 v15 v16 v18 v20 v21 v22 u23 v31 hv3 hv5 hv7 hv9 hv11 hv13 hv15 hv16 hv18 hv20 hv21 hv22 hu23 hv31) (by decide)) (argsL := [(.ref b1), (.int v18), (.int v20), (.long u23)]) pd5 rfl 0 (by decide) (by decide) (by decide) (by decide) (rest := []) rfl rfl (Nat.le_of_eq rfl) at_288 rfl (fun v32 T32 h32 C32 qq32 => ?_)
    obtain ⟨rfl, hh32⟩ := qq32
    have hh32 := hh32.symm; subst hh32
    show Go p e below F n0 (fun v _ => v = some (.int (1 : Int32))) T32 (mkF m 291 #[.val (.long j0), .second, .val (.long j1), .second, .val (.int i2), .val (.int i3), .val (.long j4), .second, .val (.ref b1), .val (.long v3), .second, .val (.int v15), .val (.int v16), .val (.int v18), .val (.int v20), .val (.int v21), .val (.long v22), .second, .val (.long u23), .second, .val (.int v31)] [(.int (fstA (fun j => ([v3, v5, v7, v9, v11, v13].getD j.toNatClampNeg (0 : Int64))) v18 v20 u23))])
    refine C32.iload at_291 rfl rfl ?_
    refine C32.icmp_ne at_293 (by decide) (by decide : _ = 300) rfl (fun c293 => ?_) (fun c293 => ?_)
    · refine C32.iconst (0 : Int32) at_300 rfl rfl ?_
      exact (own_bad0 j0 j1 i2 i3 j4 v3 v5 v7 v9 v11 v13 v15 v16 v18 v20 v21 v22 u23 v31 hv3 hv5 hv7 hv9 hv11 hv13 hv15 hv16 hv18 hv20 hv21 hv22 hu23 hv31 c293).elim
    · refine C32.iconst (1 : Int32) at_296 rfl rfl ?_
      refine C32.goto at_297 (by decide) (by decide : _ = 301) ?_
      exact C32.retN (t := .boolean) at_301 rfl (by simp) (by decide) (by decide) (w := (1 : Int32)) rfl rfl
  refine C19.if_ne at_180 (by decide) (by decide : _ = 188) rfl (fun c180 => ?_) (fun c180 => ?_)
  · refine C19.aload at_188 rfl rfl rfl ?_
    refine C19.iload at_190 rfl rfl ?_
    refine C19.laload (v := ([v3, v5, v7, v9, v11, v13].getD (v21).toNatClampNeg (0 : Int64))) V_b1 (own_pre0 j0 j1 i2 i3 j4 v3 v5 v7 v9 v11 v13 v15 v16 v18 v20 v21 v22 hv3 hv5 hv7 hv9 hv11 hv13 hv15 hv16 hv18 hv20 hv21 hv22 c180) (own_getJ [v3, v5, v7, v9, v11, v13] _) at_192 rfl ?_
    refine C19.lload at_193 rfl rfl ?_
    refine C19.ladd at_195 rfl ?_
    exact J196 _ (([v3, v5, v7, v9, v11, v13].getD (v21).toNatClampNeg (0 : Int64)) + v22) C19 (by simp only [if_neg c180])
  · refine C19.lload at_183 rfl rfl ?_
    refine C19.goto at_185 (by decide) (by decide : _ = 196) ?_
    exact J196 _ j4 C19 (by simp only [if_pos c180])
set_option maxRecDepth 65536 in
set_option maxHeartbeats 40000000 in
theorem comes_1 {Post : Tables → Env → Array Value → State → Outcome → State → Prop} (hpost : ∀ tb e args s v u, (limb_1_1.after args s (.returned v) u = true ∧ limb_1_2.after args s (.returned v) u = true ∧ True) → FrameEnd s (.returned v) u (Jvm.fieldLocs frame_1_writes args s ++ Jvm.arrayLocs frame_1_arrays args s ++ Jvm.staticLocs frame_1_statics s) 16 128 → Post tb e args s (.returned v) u) :
    ArmFor flags0 classFile x code maxLocals ret World_1 tables_1 room_1 Calls_1 rest_1 Pre_1 Post := by
  intro l hfl _ _ p e ha hc hk s m args below hf hA hF happ hP
  obtain ⟨hcalls, hrest, hpre⟩ := hP
  obtain ⟨-, -, -, hnamed, -, -, -, hat⟩ := (Spec.applies_iff hf).mp happ
  obtain ⟨hg, hn⟩ := and_e (Cond.before_iff.mp (show (Jvm.Cond.and given_1 narrow_1).before args s = true from hpre))
  obtain ⟨g1, g2⟩ := and_e hg
  obtain ⟨g3, g4⟩ := and_e g2
  obtain ⟨g5, g6⟩ := and_e g4
  obtain ⟨g7, g8⟩ := and_e g6
  obtain ⟨g9, g10⟩ := and_e g8
  obtain ⟨w0, w1, w2, w3, w4, rfl⟩ : ∃ w0 w1 w2 w3 w4 : Value, args = #[w0, w1, w2, w3, w4] := by
    have hs : args.size = 5 := by simpa [Cond.value, given_1] using g1
    obtain ⟨L⟩ := args
    match L, hs with
    | [w0, w1, w2, w3, w4], _ => exact ⟨w0, w1, w2, w3, w4, rfl⟩
  have hw := fun d (hd : d ∈ tables_1) => atoms_spec (ws := Jvm.Cond.code x code maxLocals ret :: tables_1) hat d (List.mem_cons_of_mem _ hd)
  have hfit : Fit s := fun {y c} hc i hi => by
    obtain ⟨ha, rfl⟩ := Array.getElem?_eq_some_iff.mp hc
    have q := List.all_eq_true.mp ((Array.all_eq_true_iff_forall_mem.mp hF) _ (Array.getElem_mem ha)) i (List.mem_range.mpr hi)
    simpa [Array.getElem?_eq_getElem hi] using q
  obtain ⟨i0, ei0⟩ := isL_v g3
  obtain rfl : w0 = (.long i0) := Option.some.inj ei0
  obtain ⟨i1, ei1⟩ := isL_v g5
  obtain rfl : w1 = (.long i1) := Option.some.inj ei1
  obtain ⟨i2, ei2⟩ := is_v g7
  obtain rfl : w2 = (.int i2) := Option.some.inj ei2
  obtain ⟨i3, ei3⟩ := is_v g9
  obtain rfl : w3 = (.int i3) := Option.some.inj ei3
  obtain ⟨i4, ei4⟩ := isL_v g10
  obtain rfl : w4 = (.long i4) := Option.some.inj ei4
  obtain ⟨n, o, h1, h2, h3, _, L, rfl, ⟨⟨rfl, -⟩, N⟩, hq⟩ := rm0 l s _ hw i0 i1 i2 i3 i4 s.heap s.heap.size (Nat.le_refl _) tables_1 p e ha hc hk s m _ below hf ((Spec.applies_iff_loose hf).mp happ).1 ⟨rfl, State.Warmed39.refl s, rfl⟩ trivial
  refine ⟨n, _, h1, h2, h3, hpost _ _ _ _ _ _ ⟨Cond.after_iff.mpr rfl, Cond.after_iff.mpr (eq_i res_at (Term.int_eval (1)) rfl), trivial⟩ ⟨hq.1, hq.2.1, (hq.2.2.sift fun y hy => Or.inr (N y hy)).mono (by decide) (by decide)⟩⟩
theorem main_1_1 : Claimed_1_1 := comes_1 fun _ _ _ _ _ _ h hF => ⟨h.1, hF⟩
theorem main_1_2 : Claimed_1_2 := comes_1 fun _ _ _ _ _ _ h hF => ⟨h.2.1, hF⟩
end Jvm.Pilot.@@N@@
namespace Jvm.Pilot.@@N@@
open Jvm Jvm.ClassFile Sem Op Lib Jvm.Free Jvm.Stand Jvm.Pilot.@@N@@.Jvm.D
/-! MADE BY PROGRAM (witnessworld.py) out of the Statement's table words and the real class files: 12 classes; the members and pool entries that the words name. The judged class is class 1, her method 1. -/
namespace start1
open Jvm.ClassFile
def u (s : String) : CpInfo := .utf8 (stringToUtf16 s)
/-- a pool by its gaps: so many unusable entries, then the entry; so many at the end -/
def gap : Nat → List CpInfo → List CpInfo
  | 0, r => r
  | n + 1, r => .unusable :: gap n r
def poolList (es : List (Nat × CpInfo)) (last : Nat) : List CpInfo := es.foldr (fun e r => gap e.1 (e.2 :: r)) (gap last [])
def pool (es : List (Nat × CpInfo)) (last : Nat) : Array CpInfo := ⟨poolList es last⟩
def fileOf (pool : Array CpInfo) (this : Nat) (attrs : Array Attribute := #[]) (ms : Array MethodInfo := #[]) (fl : Nat := 33) (sup : Nat := 0) (ifs : Array Nat := #[]) (fds : Array FieldInfo := #[]) : ClassFile where
  minorVersion := 0
  majorVersion := 65
  constantPool := pool
  accessFlags := fl
  thisClass := this
  superClass := sup
  interfaces := ifs
  fields := fds
  methods := ms
  attributes := attrs
def plain (name : String) (sup : Option ClassId) : Class where
  name := name
  kind := .ordinary
  loader := none
  accessFlags := 33
  super := sup
  interfaces := #[]
  cf := none
  fields := #[]
  methods := #[]
  instanceTypes := #[]
  staticTypes := #[]
  resolved := #[]
  callSites := []
  init := .initialized
  statics := none
  mirror := none

def pool0 : Array CpInfo := pool [(5, u "<init>"), (0, u "()V"), (1, .class_ 10), (1, u "java/lang/Object")] 113

def k0m0 : Method := { name := "<init>", desc := "()V", sig := { parameters := [], returnType := none }, accessFlags := 1, code := none }
/-- java/lang/Object -/
def k0 : Class := { plain "java/lang/Object" none with
  accessFlags := 33
  interfaces := #[]
  cf := some (fileOf pool0 8 #[] #[{ accessFlags := 1, nameIndex := 5, descriptorIndex := 6, attributes := #[] }] 33 0 #[] #[])
  fields := #[]
  methods := #[k0m0]
  instanceTypes := #[]
  staticTypes := #[]
  resolved := Array.replicate 124 none
  statics := none }

def pool1 : Array CpInfo := pool [(2, .class_ 4), (1, u "java/lang/Object"), (0, u "<init>"), (0, u "()V"), (2, .long 9223372036854774527), (1, .methodref 12 13), (0, .class_ 14), (0, .nameAndType 15 16), (0, u "java/lang/Math"), (0, u "min"), (0, u "(JJ)J"), (0, .long 255), (1, .methodref 12 20), (0, .nameAndType 15 21), (0, u "(II)I"), (0, .methodref 12 23), (0, .nameAndType 24 21), (0, u "max"), (0, .methodref 26 27), (0, .class_ 28), (0, .nameAndType 29 30), (0, u "com/example/leeway/leeway/engine/TimeSearchFirstAfterPinLaw"), (0, u "in"), (0, u "([JIIIJ)I"), (0, .methodref 32 33), (0, .class_ 34), (0, .nameAndType 35 36), (0, u "com/example/leeway/leeway/engine/TimeSearch"), (0, u "firstAfter"), (0, u "([JIIJ)I"), (2, u "law"), (0, u "(JJIIJ)Z")] 5

def k1m0 : Method := { name := "<init>", desc := "()V", sig := { parameters := [], returnType := none }, accessFlags := 2, code := none }
def k1c1 : Code := { maxStack := 8, maxLocals := 21, code := code, exceptionTable := #[], attributes := #[] }
def k1m1 : Method := { name := "law", desc := "(JJIIJ)Z", sig := { parameters := [.long, .long, .int, .int, .long], returnType := some .boolean }, accessFlags := 9, code := some k1c1 }
def k1c2 : Code := { maxStack := 4, maxLocals := 6, code := method_3_code, exceptionTable := #[], attributes := #[] }
def k1m2 : Method := { name := "in", desc := "([JIIIJ)I", sig := { parameters := [(.array .long), .int, .int, .int, .long], returnType := some .int }, accessFlags := 10, code := some k1c2 }
/-- com/example/leeway/leeway/engine/TimeSearchFirstAfterPinLaw -/
def k1 : Class := { plain "com/example/leeway/leeway/engine/TimeSearchFirstAfterPinLaw" (some 0) with
  accessFlags := 49
  interfaces := #[]
  cf := some (fileOf pool1 26 #[] #[{ accessFlags := 2, nameIndex := 5, descriptorIndex := 6, attributes := #[] }, { accessFlags := 9, nameIndex := 39, descriptorIndex := 40, attributes := #[] }, { accessFlags := 10, nameIndex := 29, descriptorIndex := 30, attributes := #[] }] 49 2 #[] #[])
  fields := #[]
  methods := #[k1m0, k1m1, k1m2]
  instanceTypes := #[]
  staticTypes := #[]
  resolved := Array.replicate 46 none
  statics := none }

def pool2 : Array CpInfo := pool [(1, .class_ 2), (0, u "java/lang/Math"), (1, .class_ 6), (1, u "java/lang/Object"), (0, u "<init>"), (0, u "()V"), (89, .class_ 100), (1, u "java/lang/Math$RandomNumberGeneratorHolder"), (20, u "(JJ)J"), (50, u "negativeZeroFloatBits"), (0, u "J"), (2, u "negativeZeroDoubleBits"), (21, u "max"), (2, u "min"), (43, u "$assertionsDisabled"), (0, u "Z"), (88, u "(II)I"), (2, u "twoToTheDoubleScaleDown"), (0, u "D"), (4, u "twoToTheDoubleScaleUp"), (9, u "E"), (3, u "PI"), (2, u "TAU"), (2, u "DEGREES_TO_RADIANS"), (0, u "RADIANS_TO_DEGREES")] 94

def k2m0 : Method := { name := "<init>", desc := "()V", sig := { parameters := [], returnType := none }, accessFlags := 2, code := none }
def k2c1 : Code := { maxStack := 2, maxLocals := 2, code := jdk_29_method_65_code, exceptionTable := #[], attributes := #[] }
def k2m1 : Method := { name := "max", desc := "(II)I", sig := { parameters := [.int, .int], returnType := some .int }, accessFlags := 9, code := some k2c1 }
def k2c2 : Code := { maxStack := 2, maxLocals := 2, code := jdk_29_method_69_code, exceptionTable := #[], attributes := #[] }
def k2m2 : Method := { name := "min", desc := "(II)I", sig := { parameters := [.int, .int], returnType := some .int }, accessFlags := 9, code := some k2c2 }
def k2c3 : Code := { maxStack := 4, maxLocals := 4, code := jdk_29_method_70_code, exceptionTable := #[], attributes := #[] }
def k2m3 : Method := { name := "min", desc := "(JJ)J", sig := { parameters := [.long, .long], returnType := some .long }, accessFlags := 9, code := some k2c3 }
/-- java/lang/Math -/
def k2 : Class := { plain "java/lang/Math" (some 0) with
  accessFlags := 49
  interfaces := #[]
  cf := some (fileOf pool2 1 #[.nestMembers #[98]] #[{ accessFlags := 2, nameIndex := 7, descriptorIndex := 8, attributes := #[] }, { accessFlags := 9, nameIndex := 198, descriptorIndex := 335, attributes := #[] }, { accessFlags := 9, nameIndex := 201, descriptorIndex := 335, attributes := #[] }, { accessFlags := 9, nameIndex := 201, descriptorIndex := 121, attributes := #[] }] 49 4 #[] #[{ accessFlags := 25, nameIndex := 354, descriptorIndex := 339, attributes := #[] }, { accessFlags := 25, nameIndex := 358, descriptorIndex := 339, attributes := #[] }, { accessFlags := 25, nameIndex := 361, descriptorIndex := 339, attributes := #[] }, { accessFlags := 26, nameIndex := 364, descriptorIndex := 339, attributes := #[] }, { accessFlags := 26, nameIndex := 365, descriptorIndex := 339, attributes := #[] }, { accessFlags := 26, nameIndex := 172, descriptorIndex := 173, attributes := #[] }, { accessFlags := 26, nameIndex := 176, descriptorIndex := 173, attributes := #[] }, { accessFlags := 8, nameIndex := 344, descriptorIndex := 339, attributes := #[] }, { accessFlags := 8, nameIndex := 338, descriptorIndex := 339, attributes := #[] }, { accessFlags := 4120, nameIndex := 245, descriptorIndex := 246, attributes := #[] }])
  fields := #[{ name := "E", type := .double, accessFlags := 25, slot := 0, constantValue := 0 }, { name := "PI", type := .double, accessFlags := 25, slot := 1, constantValue := 0 }, { name := "TAU", type := .double, accessFlags := 25, slot := 2, constantValue := 0 }, { name := "DEGREES_TO_RADIANS", type := .double, accessFlags := 26, slot := 3, constantValue := 0 }, { name := "RADIANS_TO_DEGREES", type := .double, accessFlags := 26, slot := 4, constantValue := 0 }, { name := "negativeZeroFloatBits", type := .long, accessFlags := 26, slot := 5, constantValue := 0 }, { name := "negativeZeroDoubleBits", type := .long, accessFlags := 26, slot := 6, constantValue := 0 }, { name := "twoToTheDoubleScaleUp", type := .double, accessFlags := 8, slot := 7, constantValue := 0 }, { name := "twoToTheDoubleScaleDown", type := .double, accessFlags := 8, slot := 8, constantValue := 0 }, { name := "$assertionsDisabled", type := .boolean, accessFlags := 4120, slot := 9, constantValue := 0 }]
  methods := #[k2m0, k2m1, k2m2, k2m3]
  instanceTypes := #[]
  staticTypes := #[.double, .double, .double, .double, .double, .long, .long, .double, .double, .boolean]
  resolved := Array.replicate 460 none
  statics := none }

def pool3 : Array CpInfo := pool [(2, .class_ 4), (1, u "java/lang/Object"), (0, u "<init>"), (0, u "()V"), (1, .class_ 10), (1, u "com/example/leeway/leeway/engine/TimeSearch"), (0, u "firstAfter"), (0, u "([JIIJ)I")] 6

def k3m0 : Method := { name := "<init>", desc := "()V", sig := { parameters := [], returnType := none }, accessFlags := 2, code := none }
def k3c1 : Code := { maxStack := 4, maxLocals := 8, code := prog_106_method_2_code, exceptionTable := #[], attributes := #[] }
def k3m1 : Method := { name := "firstAfter", desc := "([JIIJ)I", sig := { parameters := [(.array .long), .int, .int, .long], returnType := some .int }, accessFlags := 8, code := some k3c1 }
/-- com/example/leeway/leeway/engine/TimeSearch -/
def k3 : Class := { plain "com/example/leeway/leeway/engine/TimeSearch" (some 0) with
  accessFlags := 48
  interfaces := #[]
  cf := some (fileOf pool3 8 #[] #[{ accessFlags := 2, nameIndex := 5, descriptorIndex := 6, attributes := #[] }, { accessFlags := 8, nameIndex := 11, descriptorIndex := 12, attributes := #[] }] 48 2 #[] #[])
  fields := #[]
  methods := #[k3m0, k3m1]
  instanceTypes := #[]
  staticTypes := #[]
  resolved := Array.replicate 19 none
  statics := none }

def pool4 : Array CpInfo := pool [(1, u "java/lang/Cloneable"), (0, .class_ 1), (0, u "java/lang/Object"), (0, .class_ 3)] 3

/-- java/lang/Cloneable -/
def k4 : Class := { plain "java/lang/Cloneable" (some 0) with
  accessFlags := 1537
  interfaces := #[]
  cf := some (fileOf pool4 2 #[] #[] 1537 4 #[] #[])
  fields := #[]
  methods := #[]
  instanceTypes := #[]
  staticTypes := #[]
  resolved := Array.replicate 8 none
  statics := none }

def pool5 : Array CpInfo := pool [(1, u "java/io/Serializable"), (0, .class_ 1), (0, u "java/lang/Object"), (0, .class_ 3)] 3

/-- java/io/Serializable -/
def k5 : Class := { plain "java/io/Serializable" (some 0) with
  accessFlags := 1537
  interfaces := #[]
  cf := some (fileOf pool5 2 #[] #[] 1537 4 #[] #[])
  fields := #[]
  methods := #[]
  instanceTypes := #[]
  staticTypes := #[]
  resolved := Array.replicate 8 none
  statics := none }

/-- the primitive byte -/
def k6 : Class := { plain "byte" none with kind := .primitive 'B', accessFlags := 0x411 }
/-- [B -/
def k7 : Class := { plain "[B" (some 0) with kind := .array 6 .byte, interfaces := #[4, 5], accessFlags := 1041 }

/-- the primitive int -/
def k8 : Class := { plain "int" none with kind := .primitive 'I', accessFlags := 0x411 }
/-- [I -/
def k9 : Class := { plain "[I" (some 0) with kind := .array 8 .int, interfaces := #[4, 5], accessFlags := 1041 }

/-- the primitive long -/
def k10 : Class := { plain "long" none with kind := .primitive 'J', accessFlags := 0x411 }
/-- [J -/
def k11 : Class := { plain "[J" (some 0) with kind := .array 10 .long, interfaces := #[4, 5], accessFlags := 1041 }

def heap : Heap := #[]
def classes : Array Class := #[k0, k1, k2, k3, k4, k5, k6, k7, k8, k9, k10, k11]
def interned : List (Array UInt16 × Addr) := []
def slotsUsed : Nat := 0
def theMethod : MethodId := ⟨1, 1⟩
def args0 : Array Value := #[.long 5, .long 7, .int 9, .int 1, .long 3]
def aboutOver (below : List Frame) : State where
  vm := { classes := classes, interned := interned.toArray }
  heap := heap
  slotsUsed := slotsUsed
  threads := #[{ frames := .invoking theMethod args0 :: below }]
def below0 : List Frame := [.native { method := ⟨0, 0⟩, args := #[] }]
def about1 : State := aboutOver below0
def p0 : Program := .bare "" "" ""
def e0 : Env := launch0.env 0 0 0
theorem w_frames : about1.frames = Frame.invoking theMethod args0 :: below0 := rfl
set_option maxRecDepth 65536 in
theorem w_args : argsFit about1.vm theMethod args0 = true := by decide +kernel
set_option maxRecDepth 65536 in
theorem w_heap : heapFits about1 = true := by decide +kernel
set_option maxRecDepth 65536 in
theorem w_runnable : about1.curStatus? = some .runnable := by decide +kernel
set_option maxRecDepth 65536 in
theorem w_alone : about1.alone = true := by decide +kernel
set_option maxRecDepth 65536 in
theorem w_named : about1.methodNamed? x = some theMethod := by decide +kernel
set_option maxRecDepth 65536 in
theorem w_hears : about1.hears theMethod below0 = true := by decide +kernel
set_option maxRecDepth 65536 in
theorem w_ripe : about1.ripe theMethod args0 below0 = true := by decide +kernel
theorem w_running : about1.status = .running := rfl
set_option maxRecDepth 65536 in
theorem w_room : about1.hasRoom e0.platform room_1 = true :=
  launch0.hasRoom_least _ room_1 (by decide +kernel) (by decide +kernel) (by decide +kernel) (by decide +kernel) (by decide +kernel) (by decide +kernel)
theorem allAtoms_all (ts : List Jvm.Cond) (a : Array Jvm.Value) (st : Jvm.State) : (allAtoms ts).before a st = ts.all (fun c => c.before a st) := by
  induction ts with
  | nil => rfl
  | cons c t ih =>
    show (Jvm.Cond.and c (allAtoms t)).before a st = _
    rw [Jvm.Cond.before_and, ih, List.all_cons]
def words1 : List Jvm.Cond := Jvm.Cond.code x code maxLocals ret :: tables_1
/-- a 'code' word, met by the world's own term for the bytes: nothing is compared byte by byte -/
theorem code_word {y : MethodName} {bytes : ByteArray} {mx : Nat} {rt : Option FieldType} {a : Array Value} {s : State} {m : MethodId} {meth : Method} {c : Code} (h1 : s.methodNamed? y = some m) (h2 : s.vm.method? m = some meth) (h3 : meth.code = some c) (h4 : c.code = bytes)
    (h5 : (c.maxLocals == mx && c.exceptionTable.isEmpty && decide (c.maxStack ≤ mostOperands) && decide (meth.sig.returnType = rt) && !meth.locks && decide (parseMethodDescriptor y.desc = some meth.sig)) = true) : (Jvm.Cond.code y bytes mx rt).before a s = true := by
  simp only [Bool.and_eq_true, beq_iff_eq, Bool.not_eq_true', decide_eq_true_eq] at h5
  obtain ⟨⟨⟨⟨⟨g1, g2⟩, g3⟩, g4⟩, g5⟩, g6⟩ := h5
  simp [Cond.before, Cond.holds, Cond.value, h1, h2, h3, h4, g1, g2, g3, g4, g5, g6]
def isCode : Jvm.Cond → Bool
  | .code _ _ _ _ => true
  | _ => false
theorem all_split {L : List Jvm.Cond} {P : Jvm.Cond → Bool} (h1 : L.all (fun c => isCode c || P c) = true) (h2 : ∀ c ∈ L.filter isCode, P c = true) : L.all P = true := by
  refine List.all_eq_true.mpr fun c hc => ?_
  have h := List.all_eq_true.mp h1 c hc
  rcases Bool.eq_false_or_eq_true (isCode c) with hi | hi
  · exact h2 c (List.mem_filter.mpr ⟨hc, hi⟩)
  · simpa [hi] using h
set_option maxRecDepth 65536 in
theorem w_c0 : (Jvm.Cond.code x code maxLocals ret).before args0 about1 = true := code_word (m := ⟨1, 1⟩) (meth := k1m1) (c := k1c1) (by decide +kernel) rfl rfl rfl (by decide +kernel)
set_option maxRecDepth 65536 in
theorem w_c1 : (Jvm.Cond.code ({ cls := "java/lang/Math", name := "min", desc := "(JJ)J" } : Jvm.MethodName) jdk_29_method_70_code (4 : Nat) (Option.some Jvm.ClassFile.FieldType.long)).before args0 about1 = true := code_word (m := ⟨2, 3⟩) (meth := k2m3) (c := k2c3) (by decide +kernel) rfl rfl rfl (by decide +kernel)
set_option maxRecDepth 65536 in
theorem w_c2 : (Jvm.Cond.code ({ cls := "java/lang/Math", name := "min", desc := "(II)I" } : Jvm.MethodName) jdk_29_method_69_code (2 : Nat) (Option.some Jvm.ClassFile.FieldType.int)).before args0 about1 = true := code_word (m := ⟨2, 2⟩) (meth := k2m2) (c := k2c2) (by decide +kernel) rfl rfl rfl (by decide +kernel)
set_option maxRecDepth 65536 in
theorem w_c3 : (Jvm.Cond.code ({ cls := "java/lang/Math", name := "max", desc := "(II)I" } : Jvm.MethodName) jdk_29_method_65_code (2 : Nat) (Option.some Jvm.ClassFile.FieldType.int)).before args0 about1 = true := code_word (m := ⟨2, 1⟩) (meth := k2m1) (c := k2c1) (by decide +kernel) rfl rfl rfl (by decide +kernel)
set_option maxRecDepth 65536 in
theorem w_c4 : (Jvm.Cond.code ({ cls := "com/example/leeway/leeway/engine/TimeSearchFirstAfterPinLaw", name := "in", desc := "([JIIIJ)I" } : Jvm.MethodName) method_3_code (6 : Nat) (Option.some Jvm.ClassFile.FieldType.int)).before args0 about1 = true := code_word (m := ⟨1, 2⟩) (meth := k1m2) (c := k1c2) (by decide +kernel) rfl rfl rfl (by decide +kernel)
set_option maxRecDepth 65536 in
theorem w_c5 : (Jvm.Cond.code ({ cls := "com/example/leeway/leeway/engine/TimeSearch", name := "firstAfter", desc := "([JIIJ)I" } : Jvm.MethodName) prog_106_method_2_code (8 : Nat) (Option.some Jvm.ClassFile.FieldType.int)).before args0 about1 = true := code_word (m := ⟨3, 1⟩) (meth := k3m1) (c := k3c1) (by decide +kernel) rfl rfl rfl (by decide +kernel)
def codes1 : List Jvm.Cond := [Jvm.Cond.code x code maxLocals ret, Jvm.Cond.code ({ cls := "java/lang/Math", name := "min", desc := "(JJ)J" } : Jvm.MethodName) jdk_29_method_70_code (4 : Nat) (Option.some Jvm.ClassFile.FieldType.long), Jvm.Cond.code ({ cls := "java/lang/Math", name := "min", desc := "(II)I" } : Jvm.MethodName) jdk_29_method_69_code (2 : Nat) (Option.some Jvm.ClassFile.FieldType.int), Jvm.Cond.code ({ cls := "java/lang/Math", name := "max", desc := "(II)I" } : Jvm.MethodName) jdk_29_method_65_code (2 : Nat) (Option.some Jvm.ClassFile.FieldType.int), Jvm.Cond.code ({ cls := "com/example/leeway/leeway/engine/TimeSearchFirstAfterPinLaw", name := "in", desc := "([JIIIJ)I" } : Jvm.MethodName) method_3_code (6 : Nat) (Option.some Jvm.ClassFile.FieldType.int), Jvm.Cond.code ({ cls := "com/example/leeway/leeway/engine/TimeSearch", name := "firstAfter", desc := "([JIIJ)I" } : Jvm.MethodName) prog_106_method_2_code (8 : Nat) (Option.some Jvm.ClassFile.FieldType.int)]
set_option maxRecDepth 65536 in
theorem codes_eq : words1.filter isCode = codes1 := rfl
theorem w_codes : ∀ c ∈ words1.filter isCode, c.before args0 about1 = true := by
  rw [codes_eq]
  intro c hc
  simp only [codes1, List.mem_cons, List.not_mem_nil, or_false] at hc
  rcases hc with rfl | rfl | rfl | rfl | rfl | rfl
  · exact w_c0
  · exact w_c1
  · exact w_c2
  · exact w_c3
  · exact w_c4
  · exact w_c5
set_option maxRecDepth 65536 in
theorem w_t1 : words1.all (fun c => isCode c || c.before args0 about1) = true := by decide +kernel
theorem w_tables : (allAtoms (Jvm.Cond.code x code maxLocals ret :: tables_1)).before args0 about1 = true := by
  rw [allAtoms_all]
  show words1.all (fun c => c.before args0 about1) = true
  refine all_split ?_ w_codes
  rw [w_t1]
set_option maxRecDepth 65536 in
theorem w_case : (Jvm.Cond.and given_1 narrow_1).before args0 about1 = true := by decide +kernel
theorem w_applies : (headSpec (Jvm.Cond.code x code maxLocals ret :: tables_1) room_1).applies x e0.platform about1 = true :=
  (Spec.applies_iff w_frames).mpr ⟨w_running, w_runnable, w_alone, w_named, w_hears, w_ripe, w_room, w_tables⟩
theorem atStart : AtStart classFile x code maxLocals ret World_1 tables_1 room_1 Calls_1 rest_1 Pre_1 launch0 p0 e0 about1 theMethod args0 below0 :=
  ⟨lists_1, trivial, launch0.admits_env _ _ _, launch0.least_env, fairChoices_fair.cas, fairChoices_fair.clock, w_frames, w_args, w_heap, w_applies, trivial, trivial, w_case⟩
end start1
theorem witness_1 : WitnessClaimed_1 := ⟨start1.p0, start1.e0, start1.about1, start1.theMethod, start1.args0, start1.below0, start1.atStart⟩
end Jvm.Pilot.@@N@@
