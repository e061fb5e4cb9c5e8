import JvmDerived
import JvmDerived.Pilot.@@N@@Statement
import JvmDerived.Pilot.@@N@@Code
set_option linter.unusedVariables false
set_option linter.unusedSimpArgs false
namespace Jvm.Ow
open Sem ClassFile Op Lib Jvm.Stand Jvm.Free Jvm.LawKit Jvm.RoadKit
def WideEnd (s : State) (o : Outcome) (t : State) (L : List Loc) (k n : Nat) : Prop :=
  (∃ v : Option Value, o = Outcome.returned v) ∧ s.Warmed39 t.vm ∧ (∀ (j : Nat) (p : Array UInt16 × Addr), s.vm.interned.size ≤ j → t.vm.interned[j]? = some p → s.heap.size ≤ p.2 ∧ p.2 < t.heap.size) ∧ s.sameButNew { t with vm := s.vm } L k n
def EndF (wd : Bool) (s : State) (o : Outcome) (t : State) (L : List Loc) (k n : Nat) : Prop := match wd with
  | true => WideEnd s o t L k n
  | false => FrameEnd s o t L k n
theorem EndF.of {wd : Bool} {s : State} {o : Outcome} {t : State} {L : List Loc} {k n : Nat} (h : FrameEnd s o t L k n) : EndF wd s o t L k n := by
  cases wd
  · exact h
  · exact wide h
def Cx (p : Program) (l : Launch) (e : Env) (R : Room) (m : MethodId) (args : Array Value) (below : List Frame) (meth : Method) (c : Code) (Z : State) (y : MethodName) (bytes : ByteArray) (ml : Nat) (ret : Option FieldType) (n0 : Nat) (wd : Bool) (F : Outcome → State → List Loc → Prop) (T : State) (h : Heap) (cells slots : Nat) : Prop :=
  ∃ s locs, Stand p l e R s m args below meth c T locs cells slots ∧ p.tables.exec = Jvm.exec ∧ c.code = bytes ∧ c.maxLocals = ml ∧ Z.Warmed39 s.vm ∧ s.vm.findClass y.cls = some m.cls ∧ meth.name = y.name ∧ meth.sig.returnType = ret ∧ meth.locks = false ∧ T.heap = h ∧ Fr n0 locs ∧ n0 ≤ s.heap.size ∧ ∀ o t L, h.size ≤ t.heap.size → EndF wd s o t L R.cells R.slots → F o t L
def Go (p : Program) (e : Env) (below : List Frame) (F : Outcome → State → List Loc → Prop) (n0 : Nat) (Q : Option Value → Heap → Prop) (T : State) (f : JFrame) : Prop :=
  ∃ s₂ o, Steps p.tables e below (T.setTop f) s₂ ∧ s₂.status = .running ∧ Ended s₂ below o ∧ ∃ v L, o = .returned v ∧ (Q v s₂.heap ∧ Fr n0 L ∧ n0 ≤ s₂.heap.size) ∧ F o s₂ L
def Ctr (l : Launch) (Z : State) (y : MethodName) (bytes : ByteArray) (ml : Nat) (ret : Option FieldType) (R : Room) (as' : Array Value) (h : Heap) (n0 : Nat) (Q : Option Value → Heap → Prop) : Prop :=
  ∀ ws : List Jvm.Cond, MetFree l y (head1 (Jvm.Cond.code y bytes ml ret :: ws) R) (fun a U => a = as' ∧ Z.Warmed39 U.vm ∧ U.heap = h) (fun _ _ _ _ _ => True) (fun _ U o U' => ∃ v L, o = .returned v ∧ ((Q v U'.heap ∧ h.size ≤ U'.heap.size) ∧ Fr n0 L) ∧ FrameEnd U o U' L R.cells R.slots)
section Layer
variable {p : Program} {l : Launch} {e : Env} {R : Room} {m : MethodId} {args : Array Value} {below : List Frame} {meth : Method} {c : Code} {T T' : State} {cells slots : Nat} {Z : State} {a0 : Array Value} {h : Heap} {y : MethodName} {bytes : ByteArray} {ml n0 : Nat} {ret : Option FieldType} {wd : Bool} {F : Outcome → State → List Loc → Prop} {Q : Option Value → Heap → Prop} {pc pc' : Nat} {L L' : Array Slot} {S : List Value}
theorem Ctr.body {as' : Array Value} (hpl : plainFor y = true) (hn : n0 ≤ h.size) (ef : ∀ m, entryFrame m as' ml = mkF m 0 L [])
    (k : ∀ (p : Program) (e : Env) (F : Outcome → State → List Loc → Prop) (m : MethodId) (below : List Frame) (meth : Method) (c : Code) (T : State), Cx p l e R m as' below meth c Z y bytes ml ret n0 false F T h 0 0 → Go p e below F n0 Q T (mkF m 0 L [])) : Ctr l Z y bytes ml ret R as' h n0 Q := by
  intro ws
  refine MetFree.of_bodySF hpl hisR ?_
  intro p e s m args below meth c s₁ Bd hml0 hP hK
  obtain ⟨rfl, hZ, hh⟩ := hP
  obtain ⟨s₂, o, g1, g2, g3, v, L9, g4, ⟨g5, g6, -⟩, g7⟩ := k p e (fun o t L => FrameEnd s o t L R.cells R.slots) m below meth c s₁ ⟨s, [], Stand.of_body Bd, Bd.exec, Bd.bytes, hml0, hZ, findClass_of_methodNamed Bd.named, (name_of_methodNamed Bd.named Bd.method).1, Bd.returns, Bd.notSynchronized, by rw [← hh, Bd.state]; rfl, Fr.nil n0, by rw [hh]; exact hn, fun _ _ _ _ q => q⟩
  rw [ef m]
  exact ⟨s₂, o, g1, g2, g3, v, L9, g4, ⟨⟨g5, by rw [← hh]; exact g7.2.2.2.1⟩, g6⟩, g7⟩
theorem Go.via {f f' : JFrame} (k : Go p e below F n0 Q T' f') (hs : ∀ t, Steps p.tables e below (T'.setTop f') t → Steps p.tables e below (T.setTop f) t) : Go p e below F n0 Q T f := by
  obtain ⟨s₂, o, h1, h2⟩ := k; exact ⟨s₂, o, hs _ h1, h2⟩
theorem Cx.size (C : Cx p l e R m args below meth c Z y bytes ml ret n0 wd F T h cells slots) : n0 ≤ h.size := by
  obtain ⟨s, locs, X, -, -, -, -, -, -, -, -, rfl, -, hn, -⟩ := C
  exact Nat.le_trans hn X.same.2.1
theorem Cx.iloadN (C : Cx p l e R m args below meth c Z y bytes ml ret n0 wd F T h cells slots) {k : Fin 4} {v : Int32} (hd : decode bytes pc = .ok (.iload_n k, 1)) (hp : pc + 1 = pc') (hl : L[k.val]? = some (.val (.int v))) (K : Go p e below F n0 Q T (mkF m pc' L (.int v :: S))) : Go p e below F n0 Q T (mkF m pc L S) := by
  obtain ⟨s, locs, X, hx, rfl, -⟩ := C; subst hp
  exact K.via fun t k => XS.iloadN X.here hx rfl hd hl k
theorem Cx.iload (C : Cx p l e R m args below meth c Z y bytes ml ret n0 wd F T h cells slots) {k : Nat} {v : Int32} (hd : decode bytes pc = .ok (.iload k, 2)) (hp : pc + 2 = pc') (hl : L[k]? = some (.val (.int v))) (K : Go p e below F n0 Q T (mkF m pc' L (.int v :: S))) : Go p e below F n0 Q T (mkF m pc L S) := by
  obtain ⟨s, locs, X, hx, rfl, -⟩ := C; subst hp
  exact K.via fun t k => XS.iload X.here hx rfl hd hl k
theorem Cx.istore (C : Cx p l e R m args below meth c Z y bytes ml ret n0 wd F T h cells slots) {k : Nat} {x : Int32} (hd : decode bytes pc = .ok (.istore k, 2)) (hp : pc + 2 = pc') (hl : storeLocals L k (.int x) = some L') (K : Go p e below F n0 Q T (mkF m pc' L' S)) : Go p e below F n0 Q T (mkF m pc L (.int x :: S)) := by
  obtain ⟨s, locs, X, hx, rfl, -⟩ := C; subst hp
  exact K.via fun t k => XS.istore X.here hx rfl hd rfl hl k
theorem Cx.istoreV (C : Cx p l e R m args below meth c Z y bytes ml ret n0 wd F T h cells slots) {k : Nat} {x : Int32} (Lf : Int32 → Array Slot) (hd : decode bytes pc = .ok (.istore k, 2)) (hp : pc + 2 = pc') (hl : ∀ v, storeLocals L k (.int v) = some (Lf v)) (K : ∀ v, v = x → Go p e below F n0 Q T (mkF m pc' (Lf v) S)) : Go p e below F n0 Q T (mkF m pc L (.int x :: S)) :=
  C.istore hd hp (hl x) (K x rfl)
theorem Cx.lloadN (C : Cx p l e R m args below meth c Z y bytes ml ret n0 wd F T h cells slots) {k : Fin 4} {v : Int64} (hd : decode bytes pc = .ok (.lload_n k, 1)) (hp : pc + 1 = pc') (hl : L[k.val]? = some (.val (.long v))) (K : Go p e below F n0 Q T (mkF m pc' L (.long v :: S))) : Go p e below F n0 Q T (mkF m pc L S) := by
  obtain ⟨s, locs, X, hx, rfl, -⟩ := C; subst hp
  exact K.via fun t k => XT.lloadN X.here hx rfl hd hl k
theorem Cx.lstoreN (C : Cx p l e R m args below meth c Z y bytes ml ret n0 wd F T h cells slots) {k : Fin 4} {x : Int64} (hd : decode bytes pc = .ok (.lstore_n k, 1)) (hp : pc + 1 = pc') (hl : storeLocals L k.val (.long x) = some L') (K : Go p e below F n0 Q T (mkF m pc' L' S)) : Go p e below F n0 Q T (mkF m pc L (.long x :: S)) := by
  obtain ⟨s, locs, X, hx, rfl, -⟩ := C; subst hp
  exact K.via fun t k => XT.lstoreN X.here hx rfl hd rfl hl k
theorem Cx.iconst (C : Cx p l e R m args below meth c Z y bytes ml ret n0 wd F T h cells slots) {i : Int} (v : Int32) (hd : decode bytes pc = .ok (.iconst i, 1)) (hp : pc + 1 = pc') (hv : Int32.ofInt i = v) (K : Go p e below F n0 Q T (mkF m pc' L (.int v :: S))) : Go p e below F n0 Q T (mkF m pc L S) := by
  obtain ⟨s, locs, X, hx, rfl, -⟩ := C; subst hp
  exact K.via fun t k => XT.iconstV X.here hx rfl v hd hv k
theorem Cx.bipush (C : Cx p l e R m args below meth c Z y bytes ml ret n0 wd F T h cells slots) {i : Int} (v : Int32) (hd : decode bytes pc = .ok (.bipush i, 2)) (hp : pc + 2 = pc') (hv : (Int8.ofInt i).toInt32 = v) (K : Go p e below F n0 Q T (mkF m pc' L (.int v :: S))) : Go p e below F n0 Q T (mkF m pc L S) := by
  obtain ⟨s, locs, X, hx, rfl, -⟩ := C; subst hp
  exact K.via fun t k => XT.bipushV X.here hx rfl v hd hv k
theorem Cx.lconst (C : Cx p l e R m args below meth c Z y bytes ml ret n0 wd F T h cells slots) {i : Fin 2} (v : Int64) (hd : decode bytes pc = .ok (.lconst i, 1)) (hp : pc + 1 = pc') (hv : Int64.ofNat i = v) (K : Go p e below F n0 Q T (mkF m pc' L (.long v :: S))) : Go p e below F n0 Q T (mkF m pc L S) := by
  obtain ⟨s, locs, X, hx, rfl, -⟩ := C; subst hp
  exact K.via fun t k => XT.lconstV X.here hx rfl v hd hv k
theorem Cx.iand (C : Cx p l e R m args below meth c Z y bytes ml ret n0 wd F T h cells slots) {x z : Int32} (hd : decode bytes pc = .ok (.iand, 1)) (hp : pc + 1 = pc')  (K : Go p e below F n0 Q T (mkF m pc' L (.int (x &&& z) :: S))) : Go p e below F n0 Q T (mkF m pc L (.int z :: .int x :: S)) := by
  obtain ⟨s, locs, X, hx, rfl, -⟩ := C; subst hp
  exact K.via fun t k => XS.iand X.here hx rfl hd rfl k
theorem Cx.lsub (C : Cx p l e R m args below meth c Z y bytes ml ret n0 wd F T h cells slots) {x z : Int64} (hd : decode bytes pc = .ok (.lsub, 1)) (hp : pc + 1 = pc')  (K : Go p e below F n0 Q T (mkF m pc' L (.long (x - z) :: S))) : Go p e below F n0 Q T (mkF m pc L (.long z :: .long x :: S)) := by
  obtain ⟨s, locs, X, hx, rfl, -⟩ := C; subst hp
  exact K.via fun t k => XT.lsub X.here hx rfl hd rfl k
theorem Cx.land (C : Cx p l e R m args below meth c Z y bytes ml ret n0 wd F T h cells slots) {x z : Int64} (hd : decode bytes pc = .ok (.land, 1)) (hp : pc + 1 = pc')  (K : Go p e below F n0 Q T (mkF m pc' L (.long (x &&& z) :: S))) : Go p e below F n0 Q T (mkF m pc L (.long z :: .long x :: S)) := by
  obtain ⟨s, locs, X, hx, rfl, -⟩ := C; subst hp
  exact K.via fun t k => XT.land X.here hx rfl hd rfl k
theorem Cx.lor (C : Cx p l e R m args below meth c Z y bytes ml ret n0 wd F T h cells slots) {x z : Int64} (hd : decode bytes pc = .ok (.lor, 1)) (hp : pc + 1 = pc')  (K : Go p e below F n0 Q T (mkF m pc' L (.long (x ||| z) :: S))) : Go p e below F n0 Q T (mkF m pc L (.long z :: .long x :: S)) := by
  obtain ⟨s, locs, X, hx, rfl, -⟩ := C; subst hp
  exact K.via fun t k => XT.lor X.here hx rfl hd rfl k
theorem Cx.lushr (C : Cx p l e R m args below meth c Z y bytes ml ret n0 wd F T h cells slots) {x : Int64} {z : Int32} (hd : decode bytes pc = .ok (.lushr, 1)) (hp : pc + 1 = pc')  (K : Go p e below F n0 Q T (mkF m pc' L (.long ((x.toUInt64 >>> (z &&& 0x3f).toInt64.toUInt64).toInt64) :: S))) : Go p e below F n0 Q T (mkF m pc L (.int z :: .long x :: S)) := by
  obtain ⟨s, locs, X, hx, rfl, -⟩ := C; subst hp
  exact K.via fun t k => XS.lushr X.here hx rfl hd rfl k
theorem Cx.goto (C : Cx p l e R m args below meth c Z y bytes ml ret n0 wd F T h cells slots) {o : Int} (hd : decode bytes pc = .ok (.goto o, 3)) (ho : 0 ≤ (pc : Int) + o) (hp : ((pc : Int) + o).toNat = pc') (K : Go p e below F n0 Q T (mkF m pc' L S)) : Go p e below F n0 Q T (mkF m pc L S) := by
  obtain ⟨s, locs, X, hx, rfl, -⟩ := C
  exact K.via fun t k => XS.goto X.here hx rfl rfl hd ho hp k
theorem Cx.icmp_ne (C : Cx p l e R m args below meth c Z y bytes ml ret n0 wd F T h cells slots) {x z : Int32} {o : Int} {py pn : Nat} (hd : decode bytes pc = .ok (.if_icmp .ne o, 3)) (ho : 0 ≤ (pc : Int) + o) (hy : ((pc : Int) + o).toNat = py) (hn : pc + 3 = pn) (K1 : ¬ x = z → Go p e below F n0 Q T (mkF m py L S)) (K2 : x = z → Go p e below F n0 Q T (mkF m pn L S)) : Go p e below F n0 Q T (mkF m pc L (.int z :: .int x :: S)) := by
  obtain ⟨s, locs, X, hx, rfl, -⟩ := C; subst hn
  by_cases q : x = z
  · exact (K2 q).via fun t k => XS.icmpNo X.here hx rfl hd rfl (XT.ii_ne_f q) k
  · exact (K1 q).via fun t k => XS.icmpYes X.here hx rfl rfl hd rfl (XT.ii_ne_t q) ho hy k
theorem Cx.if_ne (C : Cx p l e R m args below meth c Z y bytes ml ret n0 wd F T h cells slots) {x : Int32} {o : Int} {py pn : Nat} (hd : decode bytes pc = .ok (.ifCond .ne o, 3)) (ho : 0 ≤ (pc : Int) + o) (hy : ((pc : Int) + o).toNat = py) (hn : pc + 3 = pn) (K1 : ¬ x = (0 : Int32) → Go p e below F n0 Q T (mkF m py L S)) (K2 : x = (0 : Int32) → Go p e below F n0 Q T (mkF m pn L S)) : Go p e below F n0 Q T (mkF m pc L (.int x :: S)) := by
  obtain ⟨s, locs, X, hx, rfl, -⟩ := C; subst hn
  by_cases q : x = (0 : Int32)
  · exact (K2 q).via fun t k => XS.ifNo X.here hx rfl hd rfl (XT.i0_ne_f q) k
  · exact (K1 q).via fun t k => XS.ifYes X.here hx rfl rfl hd rfl (XT.i0_ne_t q) ho hy k
theorem Cx.lif_ne (C : Cx p l e R m args below meth c Z y bytes ml ret n0 wd F T h cells slots) {x z : Int64} {o : Int} {p1 py pn : Nat} (hd1 : decode bytes pc = .ok (.lcmp, 1)) (hp1 : pc + 1 = p1) (hd : decode bytes p1 = .ok (.ifCond .ne o, 3)) (ho : 0 ≤ (p1 : Int) + o) (hy : ((p1 : Int) + o).toNat = py) (hn : p1 + 3 = pn) (K1 : ¬ x = z → Go p e below F n0 Q T (mkF m py L S)) (K2 : x = z → Go p e below F n0 Q T (mkF m pn L S)) : Go p e below F n0 Q T (mkF m pc L (.long z :: .long x :: S)) := by
  obtain ⟨s, locs, X, hx, rfl, -⟩ := C; subst hn; subst hp1
  by_cases q : x = z
  · exact (K2 q).via fun t k => XT.lcmp X.here hx rfl hd1 rfl (XS.ifNo X.here hx rfl hd rfl (XT.ll_ne_f q) k)
  · exact (K1 q).via fun t k => XT.lcmp X.here hx rfl hd1 rfl (XS.ifYes X.here hx rfl rfl hd rfl (XT.ll_ne_t q) ho hy k)
theorem Cx.lif_lt (C : Cx p l e R m args below meth c Z y bytes ml ret n0 wd F T h cells slots) {x z : Int64} {o : Int} {p1 py pn : Nat} (hd1 : decode bytes pc = .ok (.lcmp, 1)) (hp1 : pc + 1 = p1) (hd : decode bytes p1 = .ok (.ifCond .lt o, 3)) (ho : 0 ≤ (p1 : Int) + o) (hy : ((p1 : Int) + o).toNat = py) (hn : p1 + 3 = pn) (K1 : x < z → Go p e below F n0 Q T (mkF m py L S)) (K2 : ¬ x < z → Go p e below F n0 Q T (mkF m pn L S)) : Go p e below F n0 Q T (mkF m pc L (.long z :: .long x :: S)) := by
  obtain ⟨s, locs, X, hx, rfl, -⟩ := C; subst hn; subst hp1
  by_cases q : x < z
  · exact (K1 q).via fun t k => XT.lcmp X.here hx rfl hd1 rfl (XS.ifYes X.here hx rfl rfl hd rfl (XT.ll_lt_t q) ho hy k)
  · exact (K2 q).via fun t k => XT.lcmp X.here hx rfl hd1 rfl (XS.ifNo X.here hx rfl hd rfl (XT.ll_lt_f q) k)
theorem Cx.lif_gt (C : Cx p l e R m args below meth c Z y bytes ml ret n0 wd F T h cells slots) {x z : Int64} {o : Int} {p1 py pn : Nat} (hd1 : decode bytes pc = .ok (.lcmp, 1)) (hp1 : pc + 1 = p1) (hd : decode bytes p1 = .ok (.ifCond .gt o, 3)) (ho : 0 ≤ (p1 : Int) + o) (hy : ((p1 : Int) + o).toNat = py) (hn : p1 + 3 = pn) (K1 : z < x → Go p e below F n0 Q T (mkF m py L S)) (K2 : ¬ z < x → Go p e below F n0 Q T (mkF m pn L S)) : Go p e below F n0 Q T (mkF m pc L (.long z :: .long x :: S)) := by
  obtain ⟨s, locs, X, hx, rfl, -⟩ := C; subst hn; subst hp1
  by_cases q : z < x
  · exact (K1 q).via fun t k => XT.lcmp X.here hx rfl hd1 rfl (XS.ifYes X.here hx rfl rfl hd rfl (XT.ll_gt_t q) ho hy k)
  · exact (K2 q).via fun t k => XT.lcmp X.here hx rfl hd1 rfl (XS.ifNo X.here hx rfl hd rfl (XT.ll_gt_f q) k)
theorem Cx.done (C : Cx p l e R m args below meth c Z y bytes ml ret n0 wd F T h cells slots) {v : Option Value} (hv : ret = none → v = none) (hc : cells ≤ R.cells) (hs : slots ≤ R.slots) (hq : Q v h) {f : JFrame}
    (k : ∀ s locs fs, Stand p l e R s m args below meth c T locs cells slots → (∀ (f : JFrame) (acts : List Action), f.method = m → f.locked = none → f.entered = [] → (doReturn e (T.setTop f) acts v).1 = T.setFrames fs) → Steps p.tables e below (T.setTop f) (T.setFrames fs)) : Go p e below F n0 Q T f := by
  have hz := C.size
  obtain ⟨s, locs, X, hx, rfl, rfl, hZ, hown, hnm, rfl, hlk, rfl, N, hn, hF⟩ := C
  obtain ⟨fs, hr, hrun, hended, hW, hsame⟩ := X.leave (v := v) hv
  exact ⟨_, _, k s locs fs X hr, hrun, hended, v, locs, rfl, ⟨hq, N, hz⟩, hF _ _ _ (Nat.le_refl _) (EndF.of ⟨⟨v, rfl⟩, hW, hsame.mono hc hs⟩)⟩
theorem Cx.retN (C : Cx p l e R m args below meth c Z y bytes ml ret n0 wd F T h cells slots) {z w : Int32} {t : FieldType} (hd : decode bytes pc = .ok (.ireturn, 1)) (hret : ret = some t) (ht : t = .boolean ∨ t = .byte ∨ t = .char ∨ t = .short) (hc : cells ≤ R.cells) (hs : slots ≤ R.slots) (hw : nar t z = w) (hq : Q (some (.int w)) h) : Go p e below F n0 Q T (mkF m pc L (.int z :: S)) := by
  subst hw
  refine C.done (fun q => by rw [hret] at q; cases q) hc hs hq fun s locs fs X hr => ?_
  obtain ⟨_, _, -, hx, rfl, -, -, -, -, rfl, -⟩ := C
  exact Jvm.RoadKit.retN X hx hret ht hd hr
theorem Cx.ldc2 (C : Cx p l e R m args below meth c Z y bytes ml ret n0 wd F T h cells slots) {idx : Nat} {v : Int64} (w : (Jvm.Cond.constantLong y.cls idx v).before a0 Z = true) (hd : decode bytes pc = .ok (.ldc2_w idx, 3)) (hp : pc + 3 = pc') (K : Go p e below F n0 Q T (mkF m pc' L (.long v :: S))) : Go p e below F n0 Q T (mkF m pc L S) := by
  obtain ⟨s, locs, X, hx, rfl, rfl, hZ, hown, -⟩ := C; subst hp
  exact K.via fun t k => X.ldc2Long hx hown (mvT hZ w) (g := mkF m pc L S) rfl hd t k
theorem Cx.callS (C : Cx p l e R m args below meth c Z y bytes ml ret n0 wd F T h cells slots) {idx : Nat} {y' : MethodName} {bytes' : ByteArray} {ml' : Nat} {ret' : Option FieldType} {R' : Room} {Q' : Option Value → Heap → Prop} {argsL : List Value} (w1 : (Jvm.Cond.methodLink y.cls idx y').before a0 Z = true) (w2 : (Jvm.Cond.static y').before a0 Z = true) (w3 : (Jvm.Cond.initialized y'.cls).before a0 Z = true) (w4 : (Jvm.Cond.code y' bytes' ml' ret').before a0 Z = true)
    (hy : y'.cls ≠ "java/lang/invoke/MethodHandle" ∧ y'.cls ≠ "java/lang/invoke/VarHandle") (M : Ctr l Z y' bytes' ml' ret' R' argsL.toArray h n0 Q') {ps : List FieldType} {rt : Option FieldType} (hpd : parseMethodDescriptor y'.desc = some ⟨ps, rt⟩) (hlen : argsL.length = ps.length)
    (W : Nat) (hf : R'.frames + 1 ≤ R.frames) (hl : W + (ml' + 11) + R'.locals ≤ R.locals) (hc : cells + R'.cells ≤ R.cells) (hs : slots + R'.slots ≤ R.slots) {rest : List Value} (hst : S = argsL.reverse ++ rest) (hsz : L.size = ml) (hW : (rest.map fun v => v.category).sum ≤ W)
    (hd : decode bytes pc = .ok (.invokestatic idx, 3)) (hp : pc + 3 = pc') (K : ∀ v T' h', Cx p l e R m args below meth c Z y bytes ml ret n0 wd F T' h' (cells + R'.cells) (slots + R'.slots) → Q' v h' → Go p e below F n0 Q T' (mkF m pc' L (v.toList ++ rest))) : Go p e below F n0 Q T (mkF m pc L S) := by
  obtain ⟨s, locs, X, hx, rfl, rfl, hZ, hown, hnm, hr, hlk, eT, N, hn, hF⟩ := C; subst hp
  obtain ⟨v, _, ⟨T', L', k', n'⟩, -, X', ⟨Lc, hQ, e1, e2, e3⟩, st⟩ := Jvm.LawKit.callS X hx (y := y') hown (mvT hZ w1) (mvT hZ w2) (mvT hZ w3) (mvT hZ w4) hy (backOf (W := W) (Q := fun v h9 L => (Q' v h9 ∧ h.size ≤ h9.size) ∧ Fr n0 L) (M []) hZ w4 w3 hf hl) (g := mkF m pc L S) rfl hsz (argsL := argsL) (rest := rest) (lenOf hpd hlen) hst (by show 2 * 0 + _ ≤ _; omega) hd (fun _ _ => ⟨rfl, eT, hc, hs⟩)
  dsimp only [Pt.U, Pt.locs, Pt.cells, Pt.slots] at X' e1 e2 e3 st hQ
  subst e1 e2 e3
  exact (K v T' T'.heap ⟨s, _, X', hx, rfl, rfl, hZ, hown, hnm, hr, hlk, rfl, N.app hQ.2, hn, fun o t L q => hF o t L (Nat.le_trans hQ.1.2 q)⟩ hQ.1.1).via st
theorem Cx.callSP (C : Cx p l e R m args below meth c Z y bytes ml ret n0 wd F T h cells slots) {idx : Nat} {y' : MethodName} {bytes' : ByteArray} {ml' : Nat} {ret' : Option FieldType} {R' : Room} {argsL : List Value} {w : Value} (w1 : (Jvm.Cond.methodLink y.cls idx y').before a0 Z = true) (w2 : (Jvm.Cond.static y').before a0 Z = true) (w3 : (Jvm.Cond.initialized y'.cls).before a0 Z = true) (w4 : (Jvm.Cond.code y' bytes' ml' ret').before a0 Z = true)
    (hy : y'.cls ≠ "java/lang/invoke/MethodHandle" ∧ y'.cls ≠ "java/lang/invoke/VarHandle") (M : Ctr l Z y' bytes' ml' ret' R' argsL.toArray h n0 (fun v h' => v = some w ∧ h' = h)) {ps : List FieldType} {rt : Option FieldType} (hpd : parseMethodDescriptor y'.desc = some ⟨ps, rt⟩) (hlen : argsL.length = ps.length)
    (W : Nat) (hf : R'.frames + 1 ≤ R.frames) (hl : W + (ml' + 11) + R'.locals ≤ R.locals) (hc : R'.cells = 0) (hs : R'.slots = 0) (hcc : cells ≤ R.cells) (hss : slots ≤ R.slots) {rest : List Value} (hst : S = argsL.reverse ++ rest) (hsz : L.size = ml) (hW : (rest.map fun v => v.category).sum ≤ W)
    (hd : decode bytes pc = .ok (.invokestatic idx, 3)) (hp : pc + 3 = pc') (K : ∀ T', Cx p l e R m args below meth c Z y bytes ml ret n0 wd F T' h cells slots → Go p e below F n0 Q T' (mkF m pc' L (w :: rest))) : Go p e below F n0 Q T (mkF m pc L S) :=
  C.callS w1 w2 w3 w4 hy M hpd hlen W hf hl (by omega) (by omega) hst hsz hW hd hp fun v T' h' C' hq => by
    obtain ⟨rfl, rfl⟩ := hq
    rw [hc, hs] at C'
    exact K T' C'
end Layer
end Jvm.Ow
namespace Jvm.Pilot.@@N@@
open Jvm Jvm.ClassFile Sem Op Lib Jvm.Free Jvm.Stand Jvm.LawKit Jvm.RoadKit Bundle Jvm.Ow Jvm.Pilot.@@N@@.Jvm.D
theorem own_eqite {α : Type} {P : Prop} [Decidable P] {u a b : α} : (u = if P then a else b) ↔ ((P ∧ u = a) ∨ (¬ P ∧ u = b)) := by by_cases h : P <;> simp [h]
theorem own_iteeq {α : Type} {P : Prop} [Decidable P] {u a b : α} : ((if P then a else b) = u) ↔ ((P ∧ a = u) ∨ (¬ P ∧ b = u)) := by by_cases h : P <;> simp [h]

def f1 (j0 : Int64) : Int32 := if j0 < (1 : Int64) then (0 : Int32) else (if (64 : Int64) < j0 then (0 : Int32) else ((1 : Int32)))
theorem pn1 : plainName "com/example/membership/membership/BloomFilter" = true := by first | (simp [plainName, overriddenIn]; done) | decide +kernel
theorem pd1 : parseMethodDescriptor "(J)Z" = some ⟨[.long], some .boolean⟩ := by decide +kernel
theorem ef1 (m : MethodId) (j0 : Int64) : entryFrame m #[(.long j0)] 2 = mkF m 0 #[.val (.long j0), .second] [] := by first | (simp [entryFrame, mkF, argsToLocals, Value.category]; done) | rfl
theorem d1_0 : decode prog_4_method_35_code 0 = .ok (.lload_n 0, 1) := by decide +kernel
theorem d1_1 : decode prog_4_method_35_code 1 = .ok (.lconst 1, 1) := by decide +kernel
theorem d1_2 : decode prog_4_method_35_code 2 = .ok (.lcmp, 1) := by decide +kernel
theorem d1_3 : decode prog_4_method_35_code 3 = .ok (.ifCond .lt 15, 3) := by decide +kernel
theorem d1_6 : decode prog_4_method_35_code 6 = .ok (.lload_n 0, 1) := by decide +kernel
theorem d1_7 : decode prog_4_method_35_code 7 = .ok (.ldc2_w 288, 3) := by decide +kernel
theorem d1_10 : decode prog_4_method_35_code 10 = .ok (.lcmp, 1) := by decide +kernel
theorem d1_11 : decode prog_4_method_35_code 11 = .ok (.ifCond .gt 7, 3) := by decide +kernel
theorem d1_14 : decode prog_4_method_35_code 14 = .ok (.iconst 1, 1) := by decide +kernel
theorem d1_15 : decode prog_4_method_35_code 15 = .ok (.goto 4, 3) := by decide +kernel
theorem d1_18 : decode prog_4_method_35_code 18 = .ok (.iconst 0, 1) := by decide +kernel
theorem d1_19 : decode prog_4_method_35_code 19 = .ok (.ireturn, 1) := by decide +kernel
set_option maxRecDepth 65536 in
set_option maxHeartbeats 40000000 in
theorem rm1 (l : Launch) (Z : State) (a0 : Array Value) (hw : ∀ d ∈ tables_1, d.before a0 Z = true) (j0 : Int64) (h0 : Heap) (n0 : Nat) (Z0 : n0 ≤ h0.size) :
    Ctr l Z (⟨"com/example/membership/membership/BloomFilter", "validHashes", "(J)Z"⟩ : MethodName) prog_4_method_35_code 2 (some .boolean) ({ frames := 0, cells := 0, slots := 0, locals := 0 } : Room) #[(.long j0)] h0 n0 (fun v h' => v = some (.int (f1 j0)) ∧ h' = h0) := by
  refine Ctr.body (L := #[.val (.long j0), .second]) (plainFor_of_name pn1) Z0 (fun m => ef1 m j0) ?_
  intro p e F m below meth c T0 C0
  refine C0.lloadN d1_0 rfl rfl ?_
  refine C0.lconst (1 : Int64) d1_1 rfl rfl ?_
  refine C0.lif_lt d1_2 rfl d1_3 (by decide) (by decide : _ = 18) rfl (fun c3 => ?_) (fun c3 => ?_)
  · refine C0.iconst (0 : Int32) d1_18 rfl rfl ?_
    exact C0.retN (t := .boolean) d1_19 rfl (by simp) (by decide) (by decide) (w := (0 : Int32)) rfl ⟨by rw [f1, if_pos c3], rfl⟩
  · refine C0.lloadN d1_6 rfl rfl ?_
    refine C0.ldc2 (hw _ (List.mem_of_getElem? (i := 5) rfl)) d1_7 rfl ?_
    refine C0.lif_gt d1_10 rfl d1_11 (by decide) (by decide : _ = 18) rfl (fun c11 => ?_) (fun c11 => ?_)
    · refine C0.iconst (0 : Int32) d1_18 rfl rfl ?_
      exact C0.retN (t := .boolean) d1_19 rfl (by simp) (by decide) (by decide) (w := (0 : Int32)) rfl ⟨by rw [f1, if_neg c3, if_pos c11], rfl⟩
    · refine C0.iconst (1 : Int32) d1_14 rfl rfl ?_
      refine C0.goto d1_15 (by decide) (by decide : _ = 19) ?_
      exact C0.retN (t := .boolean) d1_19 rfl (by simp) (by decide) (by decide) (w := (1 : Int32)) rfl ⟨by rw [f1, if_neg c3, if_neg c11], rfl⟩
theorem own_bad0 (j0 : Int64) (i1 : Int32) (v1 : Int32) (u2 : Int64) (u4 : Int32) (hv1 : v1 = (i1 &&& (3 : Int32))) (hu2 : u2 = (if v1 = (0 : Int32) then j0 else (if v1 = (1 : Int32) then ((j0 &&& (127 : Int64)) - (32 : Int64)) else (if v1 = (2 : Int32) then (j0 &&& (4294967295 : Int64)) else (j0 ||| (-9223372036854775808 : Int64)))))) (hu4 : u4 = (if (((u2 - (1 : Int64)).toUInt64 >>> ((6 : Int32) &&& 0x3f).toInt64.toUInt64).toInt64) = (0 : Int64) then (1 : Int32) else (0 : Int32))) (c79 : ¬ (f1 u2) = u4) : False := by
  clear hu2 hv1
  have ca_0 := c_lushr (u2 - 1) 6 6 (by decide) (by decide)
  have ca_1 := c_lsub u2 1
  have bl_0 := (u2).le_toInt; have bu_0 := (u2).toInt_lt
  have bl_1 := (u2 - 1).le_toInt; have bu_1 := (u2 - 1).toInt_lt
  simp only [f1, own_eqite, own_iteeq, ne_eq, Int32.lt_iff_toInt_lt, Int64.lt_iff_toInt_lt, ← Int32.toInt_inj, ← Int64.toInt_inj, Int32.reduceToInt, Int64.reduceToInt] at *
  omega
theorem pn0 : plainName "com/example/membership/membership/BloomFilterValidHashesPinLaw" = true := by first | (simp [plainName, overriddenIn]; done) | decide +kernel
theorem ef0 (m : MethodId) (j0 : Int64) (i1 : Int32) : entryFrame m #[(.long j0), (.int i1)] maxLocals = mkF m 0 #[.val (.long j0), .second, .val (.int i1), .unset, .unset, .unset, .unset] [] := by first | (simp [entryFrame, mkF, argsToLocals, Value.category, maxLocals]; done) | rfl
set_option maxRecDepth 65536 in
set_option maxHeartbeats 40000000 in
theorem rm0 (l : Launch) (Z : State) (a0 : Array Value) (hw : ∀ d ∈ tables_1, d.before a0 Z = true) (j0 : Int64) (i1 : Int32) (h0 : Heap) (n0 : Nat) (Z0 : n0 ≤ h0.size) :
    Ctr l Z x code maxLocals ret room_1 #[(.long j0), (.int i1)] h0 n0 (fun v _ => v = some (.int (1 : Int32))) := by
  refine Ctr.body (L := #[.val (.long j0), .second, .val (.int i1), .unset, .unset, .unset, .unset]) (plainFor_of_name pn0) Z0 (fun m => ef0 m j0 i1) ?_
  intro p e F m below meth c T0 C0
  refine C0.iloadN at_0 rfl rfl ?_
  refine C0.iconst (3 : Int32) at_1 rfl rfl ?_
  refine C0.iand at_2 rfl ?_
  refine C0.istoreV (fun v => #[.val (.long j0), .second, .val (.int i1), .unset, .unset, .val (.int v), .unset]) at_3 rfl (fun _ => rfl) (fun v1 hv1 => ?_)
  refine C0.iload at_5 rfl rfl ?_
  have J55 : ∀ (T3 : State) (u2 : Int64), Cx p l e room_1 m #[(.long j0), (.int i1)] below meth c Z x code maxLocals ret n0 false F T3 h0 0 0 → u2 = (if v1 = (0 : Int32) then j0 else (if v1 = (1 : Int32) then ((j0 &&& (127 : Int64)) - (32 : Int64)) else (if v1 = (2 : Int32) then (j0 &&& (4294967295 : Int64)) else (j0 ||| (-9223372036854775808 : Int64))))) → Go p e below F n0 (fun v _ => v = some (.int (1 : Int32))) T3 (mkF m 55 #[.val (.long j0), .second, .val (.int i1), .val (.long u2), .second, .val (.int v1), .unset] []) := by
    intro T3 u2 C3 hu2
    refine C3.lloadN at_55 rfl rfl ?_
    refine C3.lconst (1 : Int64) at_56 rfl rfl ?_
    refine C3.lsub at_57 rfl ?_
    refine C3.bipush (6 : Int32) at_58 rfl rfl ?_
    refine C3.lushr at_60 rfl ?_
    refine C3.lconst (0 : Int64) at_61 rfl rfl ?_
    have J71 : ∀ (T5 : State) (u4 : Int32), Cx p l e room_1 m #[(.long j0), (.int i1)] below meth c Z x code maxLocals ret n0 false F T5 h0 0 0 → u4 = (if (((u2 - (1 : Int64)).toUInt64 >>> ((6 : Int32) &&& 0x3f).toInt64.toUInt64).toInt64) = (0 : Int64) then (1 : Int32) else (0 : Int32)) → Go p e below F n0 (fun v _ => v = some (.int (1 : Int32))) T5 (mkF m 71 #[.val (.long j0), .second, .val (.int i1), .val (.long u2), .second, .val (.int v1), .unset] [(.int u4)]) := by
      intro T5 u4 C5 hu4
      refine C5.istore at_71 rfl (L' := #[.val (.long j0), .second, .val (.int i1), .val (.long u2), .second, .val (.int v1), .val (.int u4)]) rfl ?_
      refine C5.lloadN at_73 rfl rfl ?_
      refine C5.callSP (w := (.int (f1 u2))) (hw _ (List.mem_of_getElem? (i := 1) rfl)) (hw _ (List.mem_of_getElem? (i := 2) rfl)) (hw _ (List.mem_of_getElem? (i := 3) rfl)) (hw _ (List.mem_of_getElem? (i := 4) rfl)) (by decide) (rm1 l Z a0 hw u2 h0 n0 C5.size) (argsL := [(.long u2)]) pd1 rfl 0 (by decide) (by decide) rfl rfl (by decide) (by decide) (rest := []) rfl rfl (Nat.le_of_eq rfl) at_74 rfl (fun T6 C6 => ?_)
      refine C6.iload at_77 rfl rfl ?_
      refine C6.icmp_ne at_79 (by decide) (by decide : _ = 86) rfl (fun c79 => ?_) (fun c79 => ?_)
      · refine C6.iconst (0 : Int32) at_86 rfl rfl ?_
        exact (own_bad0 j0 i1 v1 u2 u4 hv1 hu2 hu4 c79).elim
      · refine C6.iconst (1 : Int32) at_82 rfl rfl ?_
        refine C6.goto at_83 (by decide) (by decide : _ = 87) ?_
        exact C6.retN (t := .boolean) at_87 rfl (by simp) (by decide) (by decide) (w := (1 : Int32)) rfl rfl
    refine C3.lif_ne at_62 rfl at_63 (by decide) (by decide : _ = 70) rfl (fun c63 => ?_) (fun c63 => ?_)
    · refine C3.iconst (0 : Int32) at_70 rfl rfl ?_
      exact J71 _ (0 : Int32) C3 (by simp only [if_neg c63])
    · refine C3.iconst (1 : Int32) at_66 rfl rfl ?_
      refine C3.goto at_67 (by decide) (by decide : _ = 71) ?_
      exact J71 _ (1 : Int32) C3 (by simp only [if_pos c63])
  refine C0.if_ne at_7 (by decide) (by decide : _ = 15) rfl (fun c7 => ?_) (fun c7 => ?_)
  · refine C0.iload at_15 rfl rfl ?_
    refine C0.iconst (1 : Int32) at_17 rfl rfl ?_
    refine C0.icmp_ne at_18 (by decide) (by decide : _ = 34) rfl (fun c18 => ?_) (fun c18 => ?_)
    · refine C0.iload at_34 rfl rfl ?_
      refine C0.iconst (2 : Int32) at_36 rfl rfl ?_
      refine C0.icmp_ne at_37 (by decide) (by decide : _ = 49) rfl (fun c37 => ?_) (fun c37 => ?_)
      · refine C0.lloadN at_49 rfl rfl ?_
        refine C0.ldc2 (hw _ (List.mem_of_getElem? (i := 6) rfl)) at_50 rfl ?_
        refine C0.lor at_53 rfl ?_
        refine C0.lstoreN at_54 rfl (L' := #[.val (.long j0), .second, .val (.int i1), .val (.long (j0 ||| (-9223372036854775808 : Int64))), .second, .val (.int v1), .unset]) rfl ?_
        exact J55 _ (j0 ||| (-9223372036854775808 : Int64)) C0 (by simp only [if_neg c7, if_neg c18, if_neg c37])
      · refine C0.lloadN at_40 rfl rfl ?_
        refine C0.ldc2 (hw _ (List.mem_of_getElem? (i := 0) rfl)) at_41 rfl ?_
        refine C0.land at_44 rfl ?_
        refine C0.lstoreN at_45 rfl (L' := #[.val (.long j0), .second, .val (.int i1), .val (.long (j0 &&& (4294967295 : Int64))), .second, .val (.int v1), .unset]) rfl ?_
        refine C0.goto at_46 (by decide) (by decide : _ = 55) ?_
        exact J55 _ (j0 &&& (4294967295 : Int64)) C0 (by simp only [if_neg c7, if_neg c18, if_pos c37])
    · refine C0.lloadN at_21 rfl rfl ?_
      refine C0.ldc2 (hw _ (List.mem_of_getElem? (i := 7) rfl)) at_22 rfl ?_
      refine C0.land at_25 rfl ?_
      refine C0.ldc2 (hw _ (List.mem_of_getElem? (i := 8) rfl)) at_26 rfl ?_
      refine C0.lsub at_29 rfl ?_
      refine C0.lstoreN at_30 rfl (L' := #[.val (.long j0), .second, .val (.int i1), .val (.long ((j0 &&& (127 : Int64)) - (32 : Int64))), .second, .val (.int v1), .unset]) rfl ?_
      refine C0.goto at_31 (by decide) (by decide : _ = 55) ?_
      exact J55 _ ((j0 &&& (127 : Int64)) - (32 : Int64)) C0 (by simp only [if_neg c7, if_pos c18])
  · refine C0.lloadN at_10 rfl rfl ?_
    refine C0.lstoreN at_11 rfl (L' := #[.val (.long j0), .second, .val (.int i1), .val (.long j0), .second, .val (.int v1), .unset]) rfl ?_
    refine C0.goto at_12 (by decide) (by decide : _ = 55) ?_
    exact J55 _ j0 C0 (by simp only [if_pos c7])
set_option maxRecDepth 65536 in
set_option maxHeartbeats 40000000 in
theorem comes_1 {Post : Tables → Env → Array Value → State → Outcome → State → Prop} (hpost : ∀ tb e args s v u, (limb_1_1.after args s (.returned v) u = true ∧ limb_1_2.after args s (.returned v) u = true ∧ True) → FrameEnd s (.returned v) u (Jvm.fieldLocs frame_1_writes args s ++ Jvm.arrayLocs frame_1_arrays args s ++ Jvm.staticLocs frame_1_statics s) 0 0 → Post tb e args s (.returned v) u) :
    ArmFor flags0 classFile x code maxLocals ret World_1 tables_1 room_1 Calls_1 rest_1 Pre_1 Post := by
  intro l hfl _ _ p e ha hc hk s m args below hf hA hF happ hP
  obtain ⟨hcalls, hrest, hpre⟩ := hP
  obtain ⟨-, -, -, hnamed, -, -, -, hat⟩ := (Spec.applies_iff hf).mp happ
  obtain ⟨hg, hn⟩ := and_e (Cond.before_iff.mp (show (Jvm.Cond.and given_1 narrow_1).before args s = true from hpre))
  obtain ⟨g1, g2⟩ := and_e hg
  obtain ⟨g3, g4⟩ := and_e g2
  obtain ⟨w0, w1, rfl⟩ : ∃ w0 w1 : Value, args = #[w0, w1] := by
    have hs : args.size = 2 := by simpa [Cond.value, given_1] using g1
    obtain ⟨L⟩ := args
    match L, hs with
    | [w0, w1], _ => exact ⟨w0, w1, rfl⟩
  have hw := fun d (hd : d ∈ tables_1) => atoms_spec (ws := Jvm.Cond.code x code maxLocals ret :: tables_1) hat d (List.mem_cons_of_mem _ hd)
  have hfit : Fit s := fun {y c} hc i hi => by
    obtain ⟨ha, rfl⟩ := Array.getElem?_eq_some_iff.mp hc
    have q := List.all_eq_true.mp ((Array.all_eq_true_iff_forall_mem.mp hF) _ (Array.getElem_mem ha)) i (List.mem_range.mpr hi)
    simpa [Array.getElem?_eq_getElem hi] using q
  obtain ⟨i0, ei0⟩ := isL_v g3
  obtain rfl : w0 = (.long i0) := Option.some.inj ei0
  obtain ⟨i1, ei1⟩ := is_v g4
  obtain rfl : w1 = (.int i1) := Option.some.inj ei1
  obtain ⟨n, o, h1, h2, h3, _, L, rfl, ⟨⟨rfl, -⟩, N⟩, hq⟩ := rm0 l s _ hw i0 i1 s.heap s.heap.size (Nat.le_refl _) tables_1 p e ha hc hk s m _ below hf ((Spec.applies_iff_loose hf).mp happ).1 ⟨rfl, State.Warmed39.refl s, rfl⟩ trivial
  refine ⟨n, _, h1, h2, h3, hpost _ _ _ _ _ _ ⟨Cond.after_iff.mpr rfl, Cond.after_iff.mpr (eq_i res_at (Term.int_eval (1)) rfl), trivial⟩ ⟨hq.1, hq.2.1, (hq.2.2.sift fun y hy => Or.inr (N y hy)).mono (by decide) (by decide)⟩⟩
theorem main_1_1 : Claimed_1_1 := comes_1 fun _ _ _ _ _ _ h hF => ⟨h.1, hF⟩
theorem main_1_2 : Claimed_1_2 := comes_1 fun _ _ _ _ _ _ h hF => ⟨h.2.1, hF⟩
end Jvm.Pilot.@@N@@
namespace Jvm.Pilot.@@N@@
open Jvm Jvm.ClassFile Sem Op Lib Jvm.Free Jvm.Stand Jvm.Pilot.@@N@@.Jvm.D
/-! MADE BY PROGRAM (witnessworld.py) out of the Statement's table words and the real class files: 9 classes; the members and pool entries that the words name. The judged class is class 1, her method 1. -/
namespace start1
open Jvm.ClassFile
def u (s : String) : CpInfo := .utf8 (stringToUtf16 s)
/-- a pool by its gaps: so many unusable entries, then the entry; so many at the end -/
def gap : Nat → List CpInfo → List CpInfo
  | 0, r => r
  | n + 1, r => .unusable :: gap n r
def poolList (es : List (Nat × CpInfo)) (last : Nat) : List CpInfo := es.foldr (fun e r => gap e.1 (e.2 :: r)) (gap last [])
def pool (es : List (Nat × CpInfo)) (last : Nat) : Array CpInfo := ⟨poolList es last⟩
def fileOf (pool : Array CpInfo) (this : Nat) (attrs : Array Attribute := #[]) (ms : Array MethodInfo := #[]) (fl : Nat := 33) (sup : Nat := 0) (ifs : Array Nat := #[]) (fds : Array FieldInfo := #[]) : ClassFile where
  minorVersion := 0
  majorVersion := 65
  constantPool := pool
  accessFlags := fl
  thisClass := this
  superClass := sup
  interfaces := ifs
  fields := fds
  methods := ms
  attributes := attrs
def plain (name : String) (sup : Option ClassId) : Class where
  name := name
  kind := .ordinary
  loader := none
  accessFlags := 33
  super := sup
  interfaces := #[]
  cf := none
  fields := #[]
  methods := #[]
  instanceTypes := #[]
  staticTypes := #[]
  resolved := #[]
  callSites := []
  init := .initialized
  statics := none
  mirror := none

def pool0 : Array CpInfo := pool [(5, u "<init>"), (0, u "()V"), (1, .class_ 10), (1, u "java/lang/Object")] 113

def k0m0 : Method := { name := "<init>", desc := "()V", sig := { parameters := [], returnType := none }, accessFlags := 1, code := none }
/-- java/lang/Object -/
def k0 : Class := { plain "java/lang/Object" none with
  accessFlags := 33
  interfaces := #[]
  cf := some (fileOf pool0 8 #[] #[{ accessFlags := 1, nameIndex := 5, descriptorIndex := 6, attributes := #[] }] 33 0 #[] #[])
  fields := #[]
  methods := #[k0m0]
  instanceTypes := #[]
  staticTypes := #[]
  resolved := Array.replicate 124 none
  statics := none }

def pool1 : Array CpInfo := pool [(2, .class_ 4), (1, u "java/lang/Object"), (0, u "<init>"), (0, u "()V"), (0, .long 127), (1, .long 32), (1, .long 4294967295), (3, .long 9223372036854775808), (1, .methodref 18 19), (0, .class_ 20), (0, .nameAndType 21 22), (0, u "com/example/membership/membership/BloomFilter"), (0, u "validHashes"), (0, u "(J)Z"), (0, .class_ 24), (0, u "com/example/membership/membership/BloomFilterValidHashesPinLaw"), (2, u "law"), (0, u "(JI)Z")] 3

def k1m0 : Method := { name := "<init>", desc := "()V", sig := { parameters := [], returnType := none }, accessFlags := 1, code := none }
def k1c1 : Code := { maxStack := 4, maxLocals := 7, code := code, exceptionTable := #[], attributes := #[] }
def k1m1 : Method := { name := "law", desc := "(JI)Z", sig := { parameters := [.long, .int], returnType := some .boolean }, accessFlags := 9, code := some k1c1 }
/-- com/example/membership/membership/BloomFilterValidHashesPinLaw -/
def k1 : Class := { plain "com/example/membership/membership/BloomFilterValidHashesPinLaw" (some 0) with
  accessFlags := 49
  interfaces := #[]
  cf := some (fileOf pool1 23 #[] #[{ accessFlags := 1, nameIndex := 5, descriptorIndex := 6, attributes := #[] }, { accessFlags := 9, nameIndex := 27, descriptorIndex := 28, attributes := #[] }] 49 2 #[] #[])
  fields := #[]
  methods := #[k1m0, k1m1]
  instanceTypes := #[]
  staticTypes := #[]
  resolved := Array.replicate 32 none
  statics := none }

def pool2 : Array CpInfo := pool [(2, .class_ 4), (1, u "com/example/membership/membership/BloomFilter"), (15, .class_ 22), (1, u "java/lang/Object"), (3, u "pendingLock"), (0, u "Ljava/lang/Object;"), (2, u "bits"), (0, u "J"), (2, u "hashes"), (0, u "I"), (2, u "insertions"), (2, u "words"), (0, u "[J"), (32, u "LN_2"), (0, u "D"), (112, u "pending"), (8, u "pendingCount"), (69, u "PENDING_COUNT"), (0, u "Ljava/lang/invoke/VarHandle;"), (18, .long 64), (4, u "(J)Z"), (5, u "validHashes"), (29, u "MAX_BITS"), (1, u "MAX_HASHES"), (1, u "FORMAT_VERSION"), (1, u "HELD_PROBES")] 86

def k2c0 : Code := { maxStack := 4, maxLocals := 2, code := prog_4_method_35_code, exceptionTable := #[], attributes := #[] }
def k2m0 : Method := { name := "validHashes", desc := "(J)Z", sig := { parameters := [.long], returnType := some .boolean }, accessFlags := 8, code := some k2c0 }
/-- com/example/membership/membership/BloomFilter -/
def k2 : Class := { plain "com/example/membership/membership/BloomFilter" (some 0) with
  accessFlags := 33
  interfaces := #[]
  cf := some (fileOf pool2 2 #[] #[{ accessFlags := 8, nameIndex := 299, descriptorIndex := 293, attributes := #[] }] 33 20 #[] #[{ accessFlags := 25, nameIndex := 329, descriptorIndex := 31, attributes := #[] }, { accessFlags := 25, nameIndex := 331, descriptorIndex := 35, attributes := #[] }, { accessFlags := 25, nameIndex := 333, descriptorIndex := 35, attributes := #[] }, { accessFlags := 26, nameIndex := 75, descriptorIndex := 76, attributes := #[] }, { accessFlags := 26, nameIndex := 335, descriptorIndex := 35, attributes := #[] }, { accessFlags := 26, nameIndex := 268, descriptorIndex := 269, attributes := #[] }, { accessFlags := 18, nameIndex := 30, descriptorIndex := 31, attributes := #[] }, { accessFlags := 18, nameIndex := 34, descriptorIndex := 35, attributes := #[] }, { accessFlags := 2, nameIndex := 38, descriptorIndex := 31, attributes := #[] }, { accessFlags := 18, nameIndex := 41, descriptorIndex := 42, attributes := #[] }, { accessFlags := 2, nameIndex := 189, descriptorIndex := 42, attributes := #[] }, { accessFlags := 2, nameIndex := 198, descriptorIndex := 35, attributes := #[] }, { accessFlags := 18, nameIndex := 26, descriptorIndex := 27, attributes := #[] }])
  fields := #[{ name := "MAX_BITS", type := .long, accessFlags := 25, slot := 0, constantValue := 0 }, { name := "MAX_HASHES", type := .int, accessFlags := 25, slot := 1, constantValue := 0 }, { name := "FORMAT_VERSION", type := .int, accessFlags := 25, slot := 2, constantValue := 0 }, { name := "LN_2", type := .double, accessFlags := 26, slot := 3, constantValue := 0 }, { name := "HELD_PROBES", type := .int, accessFlags := 26, slot := 4, constantValue := 0 }, { name := "PENDING_COUNT", type := (.object "java/lang/invoke/VarHandle"), accessFlags := 26, slot := 5, constantValue := 0 }, { name := "bits", type := .long, accessFlags := 18, slot := 0, constantValue := 0 }, { name := "hashes", type := .int, accessFlags := 18, slot := 1, constantValue := 0 }, { name := "insertions", type := .long, accessFlags := 2, slot := 2, constantValue := 0 }, { name := "words", type := (.array .long), accessFlags := 18, slot := 3, constantValue := 0 }, { name := "pending", type := (.array .long), accessFlags := 2, slot := 4, constantValue := 0 }, { name := "pendingCount", type := .int, accessFlags := 2, slot := 5, constantValue := 0 }, { name := "pendingLock", type := (.object "java/lang/Object"), accessFlags := 18, slot := 6, constantValue := 0 }]
  methods := #[k2m0]
  instanceTypes := #[.long, .int, .long, (.array .long), (.array .long), .int, (.object "java/lang/Object")]
  staticTypes := #[.long, .int, .int, .double, .int, (.object "java/lang/invoke/VarHandle")]
  resolved := Array.replicate 422 none
  statics := none }

def pool3 : Array CpInfo := pool [(1, u "java/lang/Cloneable"), (0, .class_ 1), (0, u "java/lang/Object"), (0, .class_ 3)] 3

/-- java/lang/Cloneable -/
def k3 : Class := { plain "java/lang/Cloneable" (some 0) with
  accessFlags := 1537
  interfaces := #[]
  cf := some (fileOf pool3 2 #[] #[] 1537 4 #[] #[])
  fields := #[]
  methods := #[]
  instanceTypes := #[]
  staticTypes := #[]
  resolved := Array.replicate 8 none
  statics := none }

def pool4 : Array CpInfo := pool [(1, u "java/io/Serializable"), (0, .class_ 1), (0, u "java/lang/Object"), (0, .class_ 3)] 3

/-- java/io/Serializable -/
def k4 : Class := { plain "java/io/Serializable" (some 0) with
  accessFlags := 1537
  interfaces := #[]
  cf := some (fileOf pool4 2 #[] #[] 1537 4 #[] #[])
  fields := #[]
  methods := #[]
  instanceTypes := #[]
  staticTypes := #[]
  resolved := Array.replicate 8 none
  statics := none }

/-- the primitive byte -/
def k5 : Class := { plain "byte" none with kind := .primitive 'B', accessFlags := 0x411 }
/-- [B -/
def k6 : Class := { plain "[B" (some 0) with kind := .array 5 .byte, interfaces := #[3, 4], accessFlags := 1041 }

/-- the primitive int -/
def k7 : Class := { plain "int" none with kind := .primitive 'I', accessFlags := 0x411 }
/-- [I -/
def k8 : Class := { plain "[I" (some 0) with kind := .array 7 .int, interfaces := #[3, 4], accessFlags := 1041 }

def heap : Heap := #[]
def classes : Array Class := #[k0, k1, k2, k3, k4, k5, k6, k7, k8]
def interned : List (Array UInt16 × Addr) := []
def slotsUsed : Nat := 0
def theMethod : MethodId := ⟨1, 1⟩
def args0 : Array Value := #[.long 53, .int 3]
def aboutOver (below : List Frame) : State where
  vm := { classes := classes, interned := interned.toArray }
  heap := heap
  slotsUsed := slotsUsed
  threads := #[{ frames := .invoking theMethod args0 :: below }]
def below0 : List Frame := [.native { method := ⟨0, 0⟩, args := #[] }]
def about1 : State := aboutOver below0
def p0 : Program := .bare "" "" ""
def e0 : Env := launch0.env 0 0 0
theorem w_frames : about1.frames = Frame.invoking theMethod args0 :: below0 := rfl
set_option maxRecDepth 65536 in
theorem w_args : argsFit about1.vm theMethod args0 = true := by decide +kernel
set_option maxRecDepth 65536 in
theorem w_heap : heapFits about1 = true := by decide +kernel
set_option maxRecDepth 65536 in
theorem w_runnable : about1.curStatus? = some .runnable := by decide +kernel
set_option maxRecDepth 65536 in
theorem w_alone : about1.alone = true := by decide +kernel
set_option maxRecDepth 65536 in
theorem w_named : about1.methodNamed? x = some theMethod := by decide +kernel
set_option maxRecDepth 65536 in
theorem w_hears : about1.hears theMethod below0 = true := by decide +kernel
set_option maxRecDepth 65536 in
theorem w_ripe : about1.ripe theMethod args0 below0 = true := by decide +kernel
theorem w_running : about1.status = .running := rfl
set_option maxRecDepth 65536 in
theorem w_room : about1.hasRoom e0.platform room_1 = true :=
  launch0.hasRoom_least _ room_1 (by decide +kernel) (by decide +kernel) (by decide +kernel) (by decide +kernel) (by decide +kernel) (by decide +kernel)
theorem allAtoms_all (ts : List Jvm.Cond) (a : Array Jvm.Value) (st : Jvm.State) : (allAtoms ts).before a st = ts.all (fun c => c.before a st) := by
  induction ts with
  | nil => rfl
  | cons c t ih =>
    show (Jvm.Cond.and c (allAtoms t)).before a st = _
    rw [Jvm.Cond.before_and, ih, List.all_cons]
def words1 : List Jvm.Cond := Jvm.Cond.code x code maxLocals ret :: tables_1
/-- a 'code' word, met by the world's own term for the bytes: nothing is compared byte by byte -/
theorem code_word {y : MethodName} {bytes : ByteArray} {mx : Nat} {rt : Option FieldType} {a : Array Value} {s : State} {m : MethodId} {meth : Method} {c : Code} (h1 : s.methodNamed? y = some m) (h2 : s.vm.method? m = some meth) (h3 : meth.code = some c) (h4 : c.code = bytes)
    (h5 : (c.maxLocals == mx && c.exceptionTable.isEmpty && decide (c.maxStack ≤ mostOperands) && decide (meth.sig.returnType = rt) && !meth.locks && decide (parseMethodDescriptor y.desc = some meth.sig)) = true) : (Jvm.Cond.code y bytes mx rt).before a s = true := by
  simp only [Bool.and_eq_true, beq_iff_eq, Bool.not_eq_true', decide_eq_true_eq] at h5
  obtain ⟨⟨⟨⟨⟨g1, g2⟩, g3⟩, g4⟩, g5⟩, g6⟩ := h5
  simp [Cond.before, Cond.holds, Cond.value, h1, h2, h3, h4, g1, g2, g3, g4, g5, g6]
def isCode : Jvm.Cond → Bool
  | .code _ _ _ _ => true
  | _ => false
theorem all_split {L : List Jvm.Cond} {P : Jvm.Cond → Bool} (h1 : L.all (fun c => isCode c || P c) = true) (h2 : ∀ c ∈ L.filter isCode, P c = true) : L.all P = true := by
  refine List.all_eq_true.mpr fun c hc => ?_
  have h := List.all_eq_true.mp h1 c hc
  rcases Bool.eq_false_or_eq_true (isCode c) with hi | hi
  · exact h2 c (List.mem_filter.mpr ⟨hc, hi⟩)
  · simpa [hi] using h
set_option maxRecDepth 65536 in
theorem w_c0 : (Jvm.Cond.code x code maxLocals ret).before args0 about1 = true := code_word (m := ⟨1, 1⟩) (meth := k1m1) (c := k1c1) (by decide +kernel) rfl rfl rfl (by decide +kernel)
set_option maxRecDepth 65536 in
theorem w_c1 : (Jvm.Cond.code ({ cls := "com/example/membership/membership/BloomFilter", name := "validHashes", desc := "(J)Z" } : Jvm.MethodName) prog_4_method_35_code (2 : Nat) (Option.some Jvm.ClassFile.FieldType.boolean)).before args0 about1 = true := code_word (m := ⟨2, 0⟩) (meth := k2m0) (c := k2c0) (by decide +kernel) rfl rfl rfl (by decide +kernel)
def codes1 : List Jvm.Cond := [Jvm.Cond.code x code maxLocals ret, Jvm.Cond.code ({ cls := "com/example/membership/membership/BloomFilter", name := "validHashes", desc := "(J)Z" } : Jvm.MethodName) prog_4_method_35_code (2 : Nat) (Option.some Jvm.ClassFile.FieldType.boolean)]
set_option maxRecDepth 65536 in
theorem codes_eq : words1.filter isCode = codes1 := rfl
theorem w_codes : ∀ c ∈ words1.filter isCode, c.before args0 about1 = true := by
  rw [codes_eq]
  intro c hc
  simp only [codes1, List.mem_cons, List.not_mem_nil, or_false] at hc
  rcases hc with rfl | rfl
  · exact w_c0
  · exact w_c1
set_option maxRecDepth 65536 in
theorem w_t1 : words1.all (fun c => isCode c || c.before args0 about1) = true := by decide +kernel
theorem w_tables : (allAtoms (Jvm.Cond.code x code maxLocals ret :: tables_1)).before args0 about1 = true := by
  rw [allAtoms_all]
  show words1.all (fun c => c.before args0 about1) = true
  refine all_split ?_ w_codes
  rw [w_t1]
set_option maxRecDepth 65536 in
theorem w_case : (Jvm.Cond.and given_1 narrow_1).before args0 about1 = true := by decide +kernel
theorem w_applies : (headSpec (Jvm.Cond.code x code maxLocals ret :: tables_1) room_1).applies x e0.platform about1 = true :=
  (Spec.applies_iff w_frames).mpr ⟨w_running, w_runnable, w_alone, w_named, w_hears, w_ripe, w_room, w_tables⟩
theorem atStart : AtStart classFile x code maxLocals ret World_1 tables_1 room_1 Calls_1 rest_1 Pre_1 launch0 p0 e0 about1 theMethod args0 below0 :=
  ⟨lists_1, trivial, launch0.admits_env _ _ _, launch0.least_env, fairChoices_fair.cas, fairChoices_fair.clock, w_frames, w_args, w_heap, w_applies, trivial, trivial, w_case⟩
end start1
theorem witness_1 : WitnessClaimed_1 := ⟨start1.p0, start1.e0, start1.about1, start1.theMethod, start1.args0, start1.below0, start1.atStart⟩
end Jvm.Pilot.@@N@@
