import JvmDerived
import JvmDerived.Pilot.@@N@@Statement
import JvmDerived.Pilot.@@N@@Code
set_option linter.unusedVariables false
set_option linter.unusedSimpArgs false
namespace Jvm.Ow
open Sem ClassFile Op Lib Jvm.Stand Jvm.Free Jvm.LawKit Jvm.RoadKit
def WideEnd (s : State) (o : Outcome) (t : State) (L : List Loc) (k n : Nat) : Prop :=
  (∃ v : Option Value, o = Outcome.returned v) ∧ s.Warmed39 t.vm ∧ (∀ (j : Nat) (p : Array UInt16 × Addr), s.vm.interned.size ≤ j → t.vm.interned[j]? = some p → s.heap.size ≤ p.2 ∧ p.2 < t.heap.size) ∧ s.sameButNew { t with vm := s.vm } L k n
def EndF (wd : Bool) (s : State) (o : Outcome) (t : State) (L : List Loc) (k n : Nat) : Prop := match wd with
  | true => WideEnd s o t L k n
  | false => FrameEnd s o t L k n
theorem EndF.of {wd : Bool} {s : State} {o : Outcome} {t : State} {L : List Loc} {k n : Nat} (h : FrameEnd s o t L k n) : EndF wd s o t L k n := by
  cases wd
  · exact h
  · exact wide h
def Cx (p : Program) (l : Launch) (e : Env) (R : Room) (m : MethodId) (args : Array Value) (below : List Frame) (meth : Method) (c : Code) (Z : State) (y : MethodName) (bytes : ByteArray) (ml : Nat) (ret : Option FieldType) (n0 : Nat) (wd : Bool) (F : Outcome → State → List Loc → Prop) (T : State) (h : Heap) (cells slots : Nat) : Prop :=
  ∃ s locs, Stand p l e R s m args below meth c T locs cells slots ∧ p.tables.exec = Jvm.exec ∧ c.code = bytes ∧ c.maxLocals = ml ∧ Z.Warmed39 s.vm ∧ s.vm.findClass y.cls = some m.cls ∧ meth.name = y.name ∧ meth.sig.returnType = ret ∧ meth.locks = false ∧ T.heap = h ∧ Fr n0 locs ∧ n0 ≤ s.heap.size ∧ ∀ o t L, h.size ≤ t.heap.size → EndF wd s o t L R.cells R.slots → F o t L
def Go (p : Program) (e : Env) (below : List Frame) (F : Outcome → State → List Loc → Prop) (n0 : Nat) (Q : Option Value → Heap → Prop) (T : State) (f : JFrame) : Prop :=
  ∃ s₂ o, Steps p.tables e below (T.setTop f) s₂ ∧ s₂.status = .running ∧ Ended s₂ below o ∧ ∃ v L, o = .returned v ∧ (Q v s₂.heap ∧ Fr n0 L ∧ n0 ≤ s₂.heap.size) ∧ F o s₂ L
def Ctr (l : Launch) (Z : State) (y : MethodName) (bytes : ByteArray) (ml : Nat) (ret : Option FieldType) (R : Room) (as' : Array Value) (h : Heap) (n0 : Nat) (Q : Option Value → Heap → Prop) : Prop :=
  ∀ ws : List Jvm.Cond, MetFree l y (head1 (Jvm.Cond.code y bytes ml ret :: ws) R) (fun a U => a = as' ∧ Z.Warmed39 U.vm ∧ U.heap = h) (fun _ _ _ _ _ => True) (fun _ U o U' => ∃ v L, o = .returned v ∧ ((Q v U'.heap ∧ h.size ≤ U'.heap.size) ∧ Fr n0 L) ∧ FrameEnd U o U' L R.cells R.slots)
section Layer
variable {p : Program} {l : Launch} {e : Env} {R : Room} {m : MethodId} {args : Array Value} {below : List Frame} {meth : Method} {c : Code} {T T' : State} {cells slots : Nat} {Z : State} {a0 : Array Value} {h : Heap} {y : MethodName} {bytes : ByteArray} {ml n0 : Nat} {ret : Option FieldType} {wd : Bool} {F : Outcome → State → List Loc → Prop} {Q : Option Value → Heap → Prop} {pc pc' : Nat} {L L' : Array Slot} {S : List Value}
theorem Ctr.body {as' : Array Value} (hpl : plainFor y = true) (hn : n0 ≤ h.size) (ef : ∀ m, entryFrame m as' ml = mkF m 0 L [])
    (k : ∀ (p : Program) (e : Env) (F : Outcome → State → List Loc → Prop) (m : MethodId) (below : List Frame) (meth : Method) (c : Code) (T : State), Cx p l e R m as' below meth c Z y bytes ml ret n0 false F T h 0 0 → Go p e below F n0 Q T (mkF m 0 L [])) : Ctr l Z y bytes ml ret R as' h n0 Q := by
  intro ws
  refine MetFree.of_bodySF hpl hisR ?_
  intro p e s m args below meth c s₁ Bd hml0 hP hK
  obtain ⟨rfl, hZ, hh⟩ := hP
  obtain ⟨s₂, o, g1, g2, g3, v, L9, g4, ⟨g5, g6, -⟩, g7⟩ := k p e (fun o t L => FrameEnd s o t L R.cells R.slots) m below meth c s₁ ⟨s, [], Stand.of_body Bd, Bd.exec, Bd.bytes, hml0, hZ, findClass_of_methodNamed Bd.named, (name_of_methodNamed Bd.named Bd.method).1, Bd.returns, Bd.notSynchronized, by rw [← hh, Bd.state]; rfl, Fr.nil n0, by rw [hh]; exact hn, fun _ _ _ _ q => q⟩
  rw [ef m]
  exact ⟨s₂, o, g1, g2, g3, v, L9, g4, ⟨⟨g5, by rw [← hh]; exact g7.2.2.2.1⟩, g6⟩, g7⟩
theorem Go.via {f f' : JFrame} (k : Go p e below F n0 Q T' f') (hs : ∀ t, Steps p.tables e below (T'.setTop f') t → Steps p.tables e below (T.setTop f) t) : Go p e below F n0 Q T f := by
  obtain ⟨s₂, o, h1, h2⟩ := k; exact ⟨s₂, o, hs _ h1, h2⟩
theorem Cx.size (C : Cx p l e R m args below meth c Z y bytes ml ret n0 wd F T h cells slots) : n0 ≤ h.size := by
  obtain ⟨s, locs, X, -, -, -, -, -, -, -, -, rfl, -, hn, -⟩ := C
  exact Nat.le_trans hn X.same.2.1
theorem Cx.iloadN (C : Cx p l e R m args below meth c Z y bytes ml ret n0 wd F T h cells slots) {k : Fin 4} {v : Int32} (hd : decode bytes pc = .ok (.iload_n k, 1)) (hp : pc + 1 = pc') (hl : L[k.val]? = some (.val (.int v))) (K : Go p e below F n0 Q T (mkF m pc' L (.int v :: S))) : Go p e below F n0 Q T (mkF m pc L S) := by
  obtain ⟨s, locs, X, hx, rfl, -⟩ := C; subst hp
  exact K.via fun t k => XS.iloadN X.here hx rfl hd hl k
theorem Cx.iload (C : Cx p l e R m args below meth c Z y bytes ml ret n0 wd F T h cells slots) {k : Nat} {v : Int32} (hd : decode bytes pc = .ok (.iload k, 2)) (hp : pc + 2 = pc') (hl : L[k]? = some (.val (.int v))) (K : Go p e below F n0 Q T (mkF m pc' L (.int v :: S))) : Go p e below F n0 Q T (mkF m pc L S) := by
  obtain ⟨s, locs, X, hx, rfl, -⟩ := C; subst hp
  exact K.via fun t k => XS.iload X.here hx rfl hd hl k
theorem Cx.istore (C : Cx p l e R m args below meth c Z y bytes ml ret n0 wd F T h cells slots) {k : Nat} {x : Int32} (hd : decode bytes pc = .ok (.istore k, 2)) (hp : pc + 2 = pc') (hl : storeLocals L k (.int x) = some L') (K : Go p e below F n0 Q T (mkF m pc' L' S)) : Go p e below F n0 Q T (mkF m pc L (.int x :: S)) := by
  obtain ⟨s, locs, X, hx, rfl, -⟩ := C; subst hp
  exact K.via fun t k => XS.istore X.here hx rfl hd rfl hl k
theorem Cx.istoreV (C : Cx p l e R m args below meth c Z y bytes ml ret n0 wd F T h cells slots) {k : Nat} {x : Int32} (Lf : Int32 → Array Slot) (hd : decode bytes pc = .ok (.istore k, 2)) (hp : pc + 2 = pc') (hl : ∀ v, storeLocals L k (.int v) = some (Lf v)) (K : ∀ v, v = x → Go p e below F n0 Q T (mkF m pc' (Lf v) S)) : Go p e below F n0 Q T (mkF m pc L (.int x :: S)) :=
  C.istore hd hp (hl x) (K x rfl)
theorem Cx.lloadN (C : Cx p l e R m args below meth c Z y bytes ml ret n0 wd F T h cells slots) {k : Fin 4} {v : Int64} (hd : decode bytes pc = .ok (.lload_n k, 1)) (hp : pc + 1 = pc') (hl : L[k.val]? = some (.val (.long v))) (K : Go p e below F n0 Q T (mkF m pc' L (.long v :: S))) : Go p e below F n0 Q T (mkF m pc L S) := by
  obtain ⟨s, locs, X, hx, rfl, -⟩ := C; subst hp
  exact K.via fun t k => XT.lloadN X.here hx rfl hd hl k
theorem Cx.lload (C : Cx p l e R m args below meth c Z y bytes ml ret n0 wd F T h cells slots) {k : Nat} {v : Int64} (hd : decode bytes pc = .ok (.lload k, 2)) (hp : pc + 2 = pc') (hl : L[k]? = some (.val (.long v))) (K : Go p e below F n0 Q T (mkF m pc' L (.long v :: S))) : Go p e below F n0 Q T (mkF m pc L S) := by
  obtain ⟨s, locs, X, hx, rfl, -⟩ := C; subst hp
  exact K.via fun t k => XT.lload X.here hx rfl hd hl k
theorem Cx.aloadN (C : Cx p l e R m args below meth c Z y bytes ml ret n0 wd F T h cells slots) {k : Fin 4} {v : Value} (hd : decode bytes pc = .ok (.aload_n k, 1)) (hp : pc + 1 = pc') (hl : L[k.val]? = some (.val v)) (hv : v.isRef = true) (K : Go p e below F n0 Q T (mkF m pc' L (v :: S))) : Go p e below F n0 Q T (mkF m pc L S) := by
  obtain ⟨s, locs, X, hx, rfl, -⟩ := C; subst hp
  exact K.via fun t k => XS.aloadN X.here hx rfl hd hl hv k
theorem Cx.aload (C : Cx p l e R m args below meth c Z y bytes ml ret n0 wd F T h cells slots) {k : Nat} {v : Value} (hd : decode bytes pc = .ok (.aload k, 2)) (hp : pc + 2 = pc') (hl : L[k]? = some (.val v)) (hv : v.isRef = true) (K : Go p e below F n0 Q T (mkF m pc' L (v :: S))) : Go p e below F n0 Q T (mkF m pc L S) := by
  obtain ⟨s, locs, X, hx, rfl, -⟩ := C; subst hp
  exact K.via fun t k => XS.aload X.here hx rfl hd hl hv k
theorem Cx.astore (C : Cx p l e R m args below meth c Z y bytes ml ret n0 wd F T h cells slots) {k : Nat} {x : Value} (hd : decode bytes pc = .ok (.astore k, 2)) (hp : pc + 2 = pc') (hv : x.isRef = true) (hl : storeLocals L k x = some L') (K : Go p e below F n0 Q T (mkF m pc' L' S)) : Go p e below F n0 Q T (mkF m pc L (x :: S)) := by
  obtain ⟨s, locs, X, hx, rfl, -⟩ := C; subst hp
  exact K.via fun t k => XS.astore X.here hx rfl hd rfl hv hl k
theorem Cx.iconst (C : Cx p l e R m args below meth c Z y bytes ml ret n0 wd F T h cells slots) {i : Int} (v : Int32) (hd : decode bytes pc = .ok (.iconst i, 1)) (hp : pc + 1 = pc') (hv : Int32.ofInt i = v) (K : Go p e below F n0 Q T (mkF m pc' L (.int v :: S))) : Go p e below F n0 Q T (mkF m pc L S) := by
  obtain ⟨s, locs, X, hx, rfl, -⟩ := C; subst hp
  exact K.via fun t k => XT.iconstV X.here hx rfl v hd hv k
theorem Cx.bipush (C : Cx p l e R m args below meth c Z y bytes ml ret n0 wd F T h cells slots) {i : Int} (v : Int32) (hd : decode bytes pc = .ok (.bipush i, 2)) (hp : pc + 2 = pc') (hv : (Int8.ofInt i).toInt32 = v) (K : Go p e below F n0 Q T (mkF m pc' L (.int v :: S))) : Go p e below F n0 Q T (mkF m pc L S) := by
  obtain ⟨s, locs, X, hx, rfl, -⟩ := C; subst hp
  exact K.via fun t k => XT.bipushV X.here hx rfl v hd hv k
theorem Cx.sipush (C : Cx p l e R m args below meth c Z y bytes ml ret n0 wd F T h cells slots) {i : Int} (v : Int32) (hd : decode bytes pc = .ok (.sipush i, 3)) (hp : pc + 3 = pc') (hv : (Int16.ofInt i).toInt32 = v) (K : Go p e below F n0 Q T (mkF m pc' L (.int v :: S))) : Go p e below F n0 Q T (mkF m pc L S) := by
  obtain ⟨s, locs, X, hx, rfl, -⟩ := C; subst hp
  exact K.via fun t k => XT.sipushV X.here hx rfl v hd hv k
theorem Cx.isub (C : Cx p l e R m args below meth c Z y bytes ml ret n0 wd F T h cells slots) {x z : Int32} (hd : decode bytes pc = .ok (.isub, 1)) (hp : pc + 1 = pc')  (K : Go p e below F n0 Q T (mkF m pc' L (.int (x - z) :: S))) : Go p e below F n0 Q T (mkF m pc L (.int z :: .int x :: S)) := by
  obtain ⟨s, locs, X, hx, rfl, -⟩ := C; subst hp
  exact K.via fun t k => XS.isub X.here hx rfl hd rfl k
theorem Cx.iand (C : Cx p l e R m args below meth c Z y bytes ml ret n0 wd F T h cells slots) {x z : Int32} (hd : decode bytes pc = .ok (.iand, 1)) (hp : pc + 1 = pc')  (K : Go p e below F n0 Q T (mkF m pc' L (.int (x &&& z) :: S))) : Go p e below F n0 Q T (mkF m pc L (.int z :: .int x :: S)) := by
  obtain ⟨s, locs, X, hx, rfl, -⟩ := C; subst hp
  exact K.via fun t k => XS.iand X.here hx rfl hd rfl k
theorem Cx.i2b (C : Cx p l e R m args below meth c Z y bytes ml ret n0 wd F T h cells slots) {x : Int32} (hd : decode bytes pc = .ok (.i2b, 1)) (hp : pc + 1 = pc')  (K : Go p e below F n0 Q T (mkF m pc' L (.int (x.toInt8.toInt32) :: S))) : Go p e below F n0 Q T (mkF m pc L (.int x :: S)) := by
  obtain ⟨s, locs, X, hx, rfl, -⟩ := C; subst hp
  exact K.via fun t k => XT.i2b X.here hx rfl hd rfl k
theorem Cx.dup (C : Cx p l e R m args below meth c Z y bytes ml ret n0 wd F T h cells slots) {x : Value} (hd : decode bytes pc = .ok (.dup, 1)) (hp : pc + 1 = pc') (hc : x.category = 1) (K : Go p e below F n0 Q T (mkF m pc' L (x :: x :: S))) : Go p e below F n0 Q T (mkF m pc L (x :: S)) := by
  obtain ⟨s, locs, X, hx, rfl, -⟩ := C; subst hp
  exact K.via fun t k => XS.dup X.here hx rfl hd rfl hc k
theorem Cx.goto (C : Cx p l e R m args below meth c Z y bytes ml ret n0 wd F T h cells slots) {o : Int} (hd : decode bytes pc = .ok (.goto o, 3)) (ho : 0 ≤ (pc : Int) + o) (hp : ((pc : Int) + o).toNat = pc') (K : Go p e below F n0 Q T (mkF m pc' L S)) : Go p e below F n0 Q T (mkF m pc L S) := by
  obtain ⟨s, locs, X, hx, rfl, -⟩ := C
  exact K.via fun t k => XS.goto X.here hx rfl rfl hd ho hp k
theorem Cx.if_eq (C : Cx p l e R m args below meth c Z y bytes ml ret n0 wd F T h cells slots) {x : Int32} {o : Int} {py pn : Nat} (hd : decode bytes pc = .ok (.ifCond .eq o, 3)) (ho : 0 ≤ (pc : Int) + o) (hy : ((pc : Int) + o).toNat = py) (hn : pc + 3 = pn) (K1 : x = (0 : Int32) → Go p e below F n0 Q T (mkF m py L S)) (K2 : ¬ x = (0 : Int32) → Go p e below F n0 Q T (mkF m pn L S)) : Go p e below F n0 Q T (mkF m pc L (.int x :: S)) := by
  obtain ⟨s, locs, X, hx, rfl, -⟩ := C; subst hn
  by_cases q : x = (0 : Int32)
  · exact (K1 q).via fun t k => XS.ifYes X.here hx rfl rfl hd rfl (XT.i0_eq_t q) ho hy k
  · exact (K2 q).via fun t k => XS.ifNo X.here hx rfl hd rfl (XT.i0_eq_f q) k
theorem Cx.icmp_ne (C : Cx p l e R m args below meth c Z y bytes ml ret n0 wd F T h cells slots) {x z : Int32} {o : Int} {py pn : Nat} (hd : decode bytes pc = .ok (.if_icmp .ne o, 3)) (ho : 0 ≤ (pc : Int) + o) (hy : ((pc : Int) + o).toNat = py) (hn : pc + 3 = pn) (K1 : ¬ x = z → Go p e below F n0 Q T (mkF m py L S)) (K2 : x = z → Go p e below F n0 Q T (mkF m pn L S)) : Go p e below F n0 Q T (mkF m pc L (.int z :: .int x :: S)) := by
  obtain ⟨s, locs, X, hx, rfl, -⟩ := C; subst hn
  by_cases q : x = z
  · exact (K2 q).via fun t k => XS.icmpNo X.here hx rfl hd rfl (XT.ii_ne_f q) k
  · exact (K1 q).via fun t k => XS.icmpYes X.here hx rfl rfl hd rfl (XT.ii_ne_t q) ho hy k
theorem Cx.if_ne (C : Cx p l e R m args below meth c Z y bytes ml ret n0 wd F T h cells slots) {x : Int32} {o : Int} {py pn : Nat} (hd : decode bytes pc = .ok (.ifCond .ne o, 3)) (ho : 0 ≤ (pc : Int) + o) (hy : ((pc : Int) + o).toNat = py) (hn : pc + 3 = pn) (K1 : ¬ x = (0 : Int32) → Go p e below F n0 Q T (mkF m py L S)) (K2 : x = (0 : Int32) → Go p e below F n0 Q T (mkF m pn L S)) : Go p e below F n0 Q T (mkF m pc L (.int x :: S)) := by
  obtain ⟨s, locs, X, hx, rfl, -⟩ := C; subst hn
  by_cases q : x = (0 : Int32)
  · exact (K2 q).via fun t k => XS.ifNo X.here hx rfl hd rfl (XT.i0_ne_f q) k
  · exact (K1 q).via fun t k => XS.ifYes X.here hx rfl rfl hd rfl (XT.i0_ne_t q) ho hy k
theorem Cx.if_le (C : Cx p l e R m args below meth c Z y bytes ml ret n0 wd F T h cells slots) {x : Int32} {o : Int} {py pn : Nat} (hd : decode bytes pc = .ok (.ifCond .le o, 3)) (ho : 0 ≤ (pc : Int) + o) (hy : ((pc : Int) + o).toNat = py) (hn : pc + 3 = pn) (K1 : ¬ (0 : Int32) < x → Go p e below F n0 Q T (mkF m py L S)) (K2 : (0 : Int32) < x → Go p e below F n0 Q T (mkF m pn L S)) : Go p e below F n0 Q T (mkF m pc L (.int x :: S)) := by
  obtain ⟨s, locs, X, hx, rfl, -⟩ := C; subst hn
  by_cases q : (0 : Int32) < x
  · exact (K2 q).via fun t k => XS.ifNo X.here hx rfl hd rfl (XT.i0_le_f q) k
  · exact (K1 q).via fun t k => XS.ifYes X.here hx rfl rfl hd rfl (XT.i0_le_t q) ho hy k
theorem Cx.done (C : Cx p l e R m args below meth c Z y bytes ml ret n0 wd F T h cells slots) {v : Option Value} (hv : ret = none → v = none) (hc : cells ≤ R.cells) (hs : slots ≤ R.slots) (hq : Q v h) {f : JFrame}
    (k : ∀ s locs fs, Stand p l e R s m args below meth c T locs cells slots → (∀ (f : JFrame) (acts : List Action), f.method = m → f.locked = none → f.entered = [] → (doReturn e (T.setTop f) acts v).1 = T.setFrames fs) → Steps p.tables e below (T.setTop f) (T.setFrames fs)) : Go p e below F n0 Q T f := by
  have hz := C.size
  obtain ⟨s, locs, X, hx, rfl, rfl, hZ, hown, hnm, rfl, hlk, rfl, N, hn, hF⟩ := C
  obtain ⟨fs, hr, hrun, hended, hW, hsame⟩ := X.leave (v := v) hv
  exact ⟨_, _, k s locs fs X hr, hrun, hended, v, locs, rfl, ⟨hq, N, hz⟩, hF _ _ _ (Nat.le_refl _) (EndF.of ⟨⟨v, rfl⟩, hW, hsame.mono hc hs⟩)⟩
theorem Cx.retN (C : Cx p l e R m args below meth c Z y bytes ml ret n0 wd F T h cells slots) {z w : Int32} {t : FieldType} (hd : decode bytes pc = .ok (.ireturn, 1)) (hret : ret = some t) (ht : t = .boolean ∨ t = .byte ∨ t = .char ∨ t = .short) (hc : cells ≤ R.cells) (hs : slots ≤ R.slots) (hw : nar t z = w) (hq : Q (some (.int w)) h) : Go p e below F n0 Q T (mkF m pc L (.int z :: S)) := by
  subst hw
  refine C.done (fun q => by rw [hret] at q; cases q) hc hs hq fun s locs fs X hr => ?_
  obtain ⟨_, _, -, hx, rfl, -, -, -, -, rfl, -⟩ := C
  exact Jvm.RoadKit.retN X hx hret ht hd hr
theorem Cx.retV (C : Cx p l e R m args below meth c Z y bytes ml ret n0 wd F T h cells slots) (hd : decode bytes pc = .ok (.return_, 1)) (hret : ret = none) (hc : cells ≤ R.cells) (hs : slots ≤ R.slots) (hq : Q none h) : Go p e below F n0 Q T (mkF m pc L []) := by
  refine C.done (fun q => rfl) hc hs hq fun s locs fs X hr => ?_
  obtain ⟨_, _, -, hx, rfl, -, -, -, -, rfl, -⟩ := C
  exact X.returnOut hx hret hd hr
theorem Cx.new (C : Cx p l e R m args below meth c Z y bytes ml ret n0 wd F T h cells slots) {idx n : Nat} {Cl : String} (w : (Jvm.Cond.classLink y.cls idx Cl).before a0 Z = true) (wi : (Jvm.Cond.instantiable Cl n).before a0 Z = true) (wz : (Jvm.Cond.initialized Cl).before a0 Z = true) (hd : decode bytes pc = .ok (.new idx, 3)) (hp : pc + 3 = pc') (hc : cells + 1 ≤ R.cells) (hl : slots + n ≤ R.slots)
    (K : ∀ T' h' b, Cx p l e R m args below meth c Z y bytes ml ret n0 wd F T' h' (cells + 1) (slots + n) → b = h.size → n0 ≤ b → Ext h h' → Exa Z h' b Cl → (∀ {O nm d : String} {ty : FieldType}, Laid Z a0 Cl O nm d → parseFieldDescriptor d = some ty → Fld Z h' b O nm d (defaultValue ty)) → Go p e below F n0 Q T' (mkF m pc' L (.ref b :: S))) : Go p e below F n0 Q T (mkF m pc L S) := by
  have hz := C.size
  obtain ⟨s, locs, X, hx, rfl, rfl, hZ, hown, hnm, hr, hlk, eT, N, hn, hF⟩ := C; subst hp
  obtain ⟨T', h', X', e', E, A, D, -, st⟩ := newO X hx hZ hown w wi wz eT (g := mkF m pc L S) rfl hd hc hl
  exact (K T' h' h.size ⟨s, locs, X', hx, rfl, rfl, hZ, hown, hnm, hr, hlk, e', N, hn, fun o t L q => hF o t L (Nat.le_trans E.1 q)⟩ rfl hz E A D).via st
theorem Cx.getF (C : Cx p l e R m args below meth c Z y bytes ml ret n0 wd F T h cells slots) {idx : Nat} {R0 O n d host : String} {a : Addr} {v : Value} (w : (Jvm.Cond.fieldLink y.cls idx R0 n d).before a0 Z = true ∨ (Jvm.Cond.fieldLinkNest y.cls idx R0 n d host).before a0 Z = true) (via : Via Z R0 O n d) (Fd : Fld Z h a O n d v) (hd : decode bytes pc = .ok (.getfield idx, 3)) (hp : pc + 3 = pc')
    (K : ∀ T', Cx p l e R m args below meth c Z y bytes ml ret n0 wd F T' h cells slots → Go p e below F n0 Q T' (mkF m pc' L (v :: S))) : Go p e below F n0 Q T (mkF m pc L (.ref a :: S)) := by
  obtain ⟨s, locs, X, hx, rfl, rfl, hZ, hown, hnm, hr, hlk, eT, N, hn, hF⟩ := C; subst hp
  obtain ⟨T', X', e', st⟩ := Jvm.RoadKit.getF X hx hZ hown w via eT Fd (g := mkF m pc L (.ref a :: S)) rfl rfl hd
  exact (K T' ⟨s, locs, X', hx, rfl, rfl, hZ, hown, hnm, hr, hlk, e', N, hn, hF⟩).via st
theorem Cx.putF (C : Cx p l e R m args below meth c Z y bytes ml ret n0 wd F T h cells slots) {idx kk : Nat} {R0 O n d host Cl : String} {a : Addr} {v old : Value} {ty : FieldType} (w : (Jvm.Cond.fieldLink y.cls idx R0 n d).before a0 Z = true ∨ (Jvm.Cond.fieldLinkNest y.cls idx R0 n d host).before a0 Z = true) (via : Via Z R0 O n d) (Fd : Fld Z h a O n d old) (E : Exa Z h a Cl) (Lw : (Jvm.Cond.lays Cl O n d).before a0 Z = true ∨ ((Jvm.Cond.laysFinal Cl O n d).before a0 Z = true ∧ y.cls = O ∧ y.name = "<init>")) (wi : (Jvm.Cond.instantiable Cl kk).before a0 Z = true)
    (hty : parseFieldDescriptor d = some ty) (hnr : narrow ty v = v) (hf : fits ty v = true) (g : n0 ≤ a) (hd : decode bytes pc = .ok (.putfield idx, 3)) (hp : pc + 3 = pc') (K : ∀ T' h', Cx p l e R m args below meth c Z y bytes ml ret n0 wd F T' h' cells slots → Wr h h' a (Jvm.RoadKit.slotOf Z O n d) v → Go p e below F n0 Q T' (mkF m pc' L S)) : Go p e below F n0 Q T (mkF m pc L (v :: .ref a :: S)) := by
  obtain ⟨s, locs, X, hx, rfl, rfl, hZ, hown, hnm, hr, hlk, eT, N, hn, hF⟩ := C; subst hp
  obtain ⟨T', h', X', e', W, st⟩ := Jvm.RoadKit.putF X hx hZ hown w via eT Fd E (Lw.imp id fun q => ⟨q.1, q.2.1, hnm.trans q.2.2⟩) wi hty hnr hf (g := mkF m pc L (v :: .ref a :: S)) rfl rfl hd
  exact (K T' h' ⟨s, _, X', hx, rfl, rfl, hZ, hown, hnm, hr, hlk, e', Fr.snoc X' N g, hn, fun o t L q => hF o t L (W.size ▸ q)⟩ W).via st
theorem Cx.initObj (C : Cx p l e R m args below meth c Z y bytes ml ret n0 wd F T h cells slots) {idx : Nat} {a : Addr} (w1 : (Jvm.Cond.methodLink y.cls idx Lib.objectInit).before a0 Z = true) (w2 : (Jvm.Cond.instanceMethod Lib.objectInit).before a0 Z = true) (w3 : (Jvm.Cond.code Lib.objectInit ⟨#[0xb1]⟩ 1 none).before a0 Z = true) (hsz : L.size = ml) (hf : 1 ≤ R.frames) (W : Nat) (hW : (S.map fun v => v.category).sum ≤ W) (hl : W + 12 ≤ R.locals) (hd : decode bytes pc = .ok (.invokespecial idx, 3)) (hp : pc + 3 = pc')
    (K : ∀ T', Cx p l e R m args below meth c Z y bytes ml ret n0 wd F T' h cells slots → Go p e below F n0 Q T' (mkF m pc' L S)) : Go p e below F n0 Q T (mkF m pc L (.ref a :: S)) := by
  obtain ⟨s, locs, X, hx, rfl, rfl, hZ, hown, hnm, hr, hlk, eT, N, hn, hF⟩ := C; subst hp
  obtain ⟨T', X', e', st⟩ := initO X hx hZ hown w1 w2 w3 eT (g := mkF m pc L (.ref a :: S)) rfl hsz rfl hd hf (W := W) (by show 2 * 0 + _ ≤ _; omega) hl
  exact (K T' ⟨s, locs, X', hx, rfl, rfl, hZ, hown, hnm, hr, hlk, e', N, hn, hF⟩).via st
theorem Cx.newarr (C : Cx p l e R m args below meth c Z y bytes ml ret n0 wd F T h cells slots) {aty : ArrayType} (w : (Jvm.Cond.arrayClass (newarray.typeOf aty)).before a0 Z = true) {n : Int32} (cap : Nat) (hn0 : ¬ n < 0) (hcap : n.toNatClampNeg ≤ cap) (hb : cap * 8 ≤ 536870912) (hc : cells + 1 ≤ R.cells) (hl : slots + cap ≤ R.slots) (hd : decode bytes pc = .ok (.newarray aty, 2)) (hp : pc + 2 = pc')
    (K : ∀ T' h' b k, Cx p l e R m args below meth c Z y bytes ml ret n0 wd F T' h' (cells + 1) (slots + cap) → b = h.size → n0 ≤ b → Ext h h' → Arv Z h' b k (newarray.typeOf aty) n (List.replicate cap (defaultValue (newarray.typeOf aty))) (defaultValue (newarray.typeOf aty)) → Go p e below F n0 Q T' (mkF m pc' L (.ref b :: S))) : Go p e below F n0 Q T (mkF m pc L (.int n :: S)) := by
  have hz := C.size
  obtain ⟨s, locs, X, hx, rfl, rfl, hZ, hown, hnm, hr, hlk, eT, N, hn, hF⟩ := C; subst hp
  obtain ⟨T', h', cA, X', e', E, A, st⟩ := newP X hx hZ w eT (g := mkF m pc L (.int n :: S)) rfl hd rfl hn0 (cap := cap) hcap hb hc hl
  exact (K T' h' h.size cA ⟨s, locs, X', hx, rfl, rfl, hZ, hown, hnm, hr, hlk, e', N, hn, fun o t L q => hF o t L (Nat.le_trans E.1 q)⟩ rfl hz E ((Arv.new A hn0).pad (pad_rep [] _ cap))).via st
theorem Cx.bastore (C : Cx p l e R m args below meth c Z y bytes ml ret n0 wd F T h cells slots) {a : Addr} {k : ClassId} {n j : Int32} {x : Int32} {vs : List Value} {dv : Value} (A : Arv Z h a k .byte n vs dv) (hj : ¬ j < 0 ∧ j < n) (hlen : j.toNatClampNeg < vs.length) (g : n0 ≤ a) (hd : decode bytes pc = .ok (.bastore, 1)) (hp : pc + 1 = pc')
    (K : ∀ T' h', Cx p l e R m args below meth c Z y bytes ml ret n0 wd F T' h' cells slots → Wr h h' a j.toNatClampNeg (.int (nar .byte x)) → Arv Z h' a k .byte n (vs.set j.toNatClampNeg (.int (nar .byte x))) dv → Go p e below F n0 Q T' (mkF m pc' L S)) : Go p e below F n0 Q T (mkF m pc L (.int x :: .int j :: .ref a :: S)) := by
  obtain ⟨s, locs, X, hx, rfl, rfl, hZ, hown, hnm, hr, hlk, eT, N, hn, hF⟩ := C; subst hp
  obtain ⟨cl, Ar, q1, Sz, q3, H, G⟩ := A
  obtain ⟨T', h', X', e', W, st⟩ := stB X hx hZ eT Ar (j := j) (inb_of Sz hj) (g := mkF m pc L (.int x :: .int j :: .ref a :: S)) rfl rfl hd
  exact (K T' h' ⟨s, _, X', hx, rfl, rfl, hZ, hown, hnm, hr, hlk, e', Fr.snoc X' N g, hn, fun o t L q => hF o t L (W.size ▸ q)⟩ W (Arv.set Ar q1 Sz q3 H G (fits_nar_byte _) W _ rfl hlen)).via st
theorem Cx.baload (C : Cx p l e R m args below meth c Z y bytes ml ret n0 wd F T h cells slots) {a : Addr} {k : ClassId} {n j : Int32} {v : Int32} {vs : List Value} {dv : Value} (A : Arv Z h a k .byte n vs dv) (hj : ¬ j < 0 ∧ j < n) (hv : vs.getD j.toNatClampNeg dv = .int v) (hd : decode bytes pc = .ok (.baload, 1)) (hp : pc + 1 = pc') (K : Go p e below F n0 Q T (mkF m pc' L (.int v :: S))) : Go p e below F n0 Q T (mkF m pc L (.int j :: .ref a :: S)) := by
  obtain ⟨s, locs, X, hx, rfl, rfl, hZ, hown, hnm, hr, hlk, eT, N, hn, hF⟩ := C; subst hp
  obtain ⟨cl, Ar, q1, Sz, q3, H, G⟩ := A
  exact K.via fun t k => X.baloadBytes hx (j := j) (by rw [eT]; exact Ar.1) (State.isArrayOf_alike hZ.alike Ar.2.1) Ar.2.2 (inb_of Sz hj) (H.at (inb_of Sz hj) hv) (g := mkF m pc L (.int j :: .ref a :: S)) rfl rfl hd t k
theorem Cx.arrlen (C : Cx p l e R m args below meth c Z y bytes ml ret n0 wd F T h cells slots) {a : Addr} {k : ClassId} {n : Int32} {ty : FieldType} {vs : List Value} {dv : Value} (A : Arv Z h a k ty n vs dv) (hd : decode bytes pc = .ok (.arraylength, 1)) (hp : pc + 1 = pc') (K : Go p e below F n0 Q T (mkF m pc' L (.int n :: S))) : Go p e below F n0 Q T (mkF m pc L (.ref a :: S)) := by
  obtain ⟨s, locs, X, hx, rfl, rfl, hZ, hown, hnm, hr, hlk, eT, N, hn, hF⟩ := C; subst hp
  obtain ⟨cl, Ar, q1, Sz, q3, H, G⟩ := A
  rw [← len_of Sz q3] at K
  exact K.via fun t k => X.arraylength hx (by rw [eT]; exact Ar.1) (State.isArrayOf_alike hZ.alike Ar.2.1) (g := mkF m pc L (.ref a :: S)) rfl rfl hd t k
theorem Cx.callN (C : Cx p l e R m args below meth c Z y bytes ml ret n0 wd F T h cells slots) {a : Addr} {idx : Nat} {y' : MethodName} {bytes' : ByteArray} {ml' : Nat} {R' : Room} {Q' : Option Value → Heap → Prop} {argsL : List Value} (hin : y'.name = "<init>") (w1 : (Jvm.Cond.methodLink y.cls idx y').before a0 Z = true) (w2 : (Jvm.Cond.instanceMethod y').before a0 Z = true) (wz : (Jvm.Cond.initialized y'.cls).before a0 Z = true) (wc : (Jvm.Cond.code y' bytes' ml' none).before a0 Z = true)
    (hy : y'.cls ≠ "java/lang/invoke/MethodHandle" ∧ y'.cls ≠ "java/lang/invoke/VarHandle") (M : Ctr l Z y' bytes' ml' none R' (.ref a :: argsL).toArray h n0 Q') {ps : List FieldType} {rt : Option FieldType} (hpd : parseMethodDescriptor y'.desc = some ⟨ps, rt⟩) (hlen : argsL.length = ps.length) (W : Nat) (hf : R'.frames + 1 ≤ R.frames) (hl : W + (ml' + 11) + R'.locals ≤ R.locals) (hc : cells + R'.cells ≤ R.cells) (hs : slots + R'.slots ≤ R.slots) {rest : List Value} (hst : S = argsL.reverse ++ .ref a :: rest) (hsz : L.size = ml) (hW : (rest.map fun v => v.category).sum ≤ W) (hd : decode bytes pc = .ok (.invokespecial idx, 3)) (hp : pc + 3 = pc') (K : ∀ v T' h', Cx p l e R m args below meth c Z y bytes ml ret n0 wd F T' h' (cells + R'.cells) (slots + R'.slots) → Q' v h' → Go p e below F n0 Q T' (mkF m pc' L (v.toList ++ rest))) : Go p e below F n0 Q T (mkF m pc L S) := by
  obtain ⟨s, locs, X, hx, rfl, rfl, hZ, hown, hnm, hr, hlk, eT, N, hn, hF⟩ := C; subst hp
  obtain ⟨v, _, ⟨T', L', k', n'⟩, -, X', ⟨Lc, hQ, e1, e2, e3⟩, st⟩ := X.specialBack hx (y := y') hin hown (mvT hZ w1) (mvT hZ w2) (mvT hZ wc) hy (backOf (W := W) (Q := fun v h9 L => (Q' v h9 ∧ h.size ≤ h9.size) ∧ Fr n0 L) (M []) hZ wc wz hf hl) (g := mkF m pc L S) rfl hsz (Steps.refl _) (a := a) (argsL := argsL) (rest := rest) (lenOf hpd hlen) hst (by show 2 * 0 + _ ≤ _; omega) hd (fun _ _ => ⟨rfl, eT, hc, hs⟩)
  dsimp only [Pt.U, Pt.locs, Pt.cells, Pt.slots] at X' e1 e2 e3 st hQ
  subst e1 e2 e3
  exact (K v T' T'.heap ⟨s, _, X', hx, rfl, rfl, hZ, hown, hnm, hr, hlk, rfl, N.app hQ.2, hn, fun o t L q => hF o t L (Nat.le_trans hQ.1.2 q)⟩ hQ.1.1).via fun t k => st.trans k
theorem Cx.callV (C : Cx p l e R m args below meth c Z y bytes ml ret n0 wd F T h cells slots) {a : Addr} {idx : Nat} {y' : MethodName} {bytes' : ByteArray} {ml' : Nat} {ret' : Option FieldType} {R' : Room} {Q' : Option Value → Heap → Prop} {argsL : List Value} {Cl : String} (w1 : (Jvm.Cond.methodLink y.cls idx y').before a0 Z = true) (w2 : (Jvm.Cond.declares y').before a0 Z = true) (w3 : (Jvm.Cond.selects Cl y' y').before a0 Z = true) (w4 : (Jvm.Cond.instanceMethod y').before a0 Z = true) (wz : (Jvm.Cond.initialized y'.cls).before a0 Z = true) (wc : (Jvm.Cond.code y' bytes' ml' ret').before a0 Z = true) (E : Exa Z h a Cl)
    (hy : y'.cls ≠ "java/lang/invoke/MethodHandle" ∧ y'.cls ≠ "java/lang/invoke/VarHandle") (M : Ctr l Z y' bytes' ml' ret' R' (.ref a :: argsL).toArray h n0 Q') {ps : List FieldType} {rt : Option FieldType} (hpd : parseMethodDescriptor y'.desc = some ⟨ps, rt⟩) (hlen : argsL.length = ps.length) (W : Nat) (hf : R'.frames + 1 ≤ R.frames) (hl : W + (ml' + 11) + R'.locals ≤ R.locals) (hc : cells + R'.cells ≤ R.cells) (hs : slots + R'.slots ≤ R.slots) {rest : List Value} (hst : S = argsL.reverse ++ .ref a :: rest) (hsz : L.size = ml) (hW : (rest.map fun v => v.category).sum ≤ W) (hd : decode bytes pc = .ok (.invokevirtual idx, 3)) (hp : pc + 3 = pc') (K : ∀ v T' h', Cx p l e R m args below meth c Z y bytes ml ret n0 wd F T' h' (cells + R'.cells) (slots + R'.slots) → Q' v h' → Go p e below F n0 Q T' (mkF m pc' L (v.toList ++ rest))) : Go p e below F n0 Q T (mkF m pc L S) := by
  obtain ⟨s, locs, X, hx, rfl, rfl, hZ, hown, hnm, hr, hlk, eT, N, hn, hF⟩ := C; subst hp
  obtain ⟨cB, kB, qa, qb, qc⟩ := isOf hZ eT E
  obtain ⟨v, _, ⟨T', L', k', n'⟩, -, X', ⟨Lc, hQ, e1, e2, e3⟩, st⟩ := X.virtualBack hx (y := y') (z := y') hown (mvT hZ w1) (mvT hZ w2) (notFace_of_selects (args := #[]) (mvT hZ w3)) (mvT hZ w3) (mvT hZ w4) hy (backOf (W := W) (Q := fun v h9 L => (Q' v h9 ∧ h.size ≤ h9.size) ∧ Fr n0 L) (M []) hZ wc wz hf hl) qa qc (g := mkF m pc L S) rfl hsz (Steps.refl _) (argsL := argsL) (rest := rest) (lenOf hpd hlen) hst (by show 2 * 0 + _ ≤ _; omega) hd (fun _ _ => ⟨rfl, eT, hc, hs⟩)
  dsimp only [Pt.U, Pt.locs, Pt.cells, Pt.slots] at X' e1 e2 e3 st hQ
  subst e1 e2 e3
  exact (K v T' T'.heap ⟨s, _, X', hx, rfl, rfl, hZ, hown, hnm, hr, hlk, rfl, N.app hQ.2, hn, fun o t L q => hF o t L (Nat.le_trans hQ.1.2 q)⟩ hQ.1.1).via fun t k => st.trans k
end Layer
end Jvm.Ow
namespace Jvm.Pilot.@@N@@
open Jvm Jvm.ClassFile Sem Op Lib Jvm.Free Jvm.Stand Jvm.LawKit Jvm.RoadKit Bundle Jvm.Ow Jvm.Pilot.@@N@@.Jvm.D
theorem own_nea {Z : State} {h : Heap} {a b : Addr} {C : String} {k : ClassId} {ty : FieldType} {n : Int32} {vs : List Value} {dv : Value} {a0 : Array Value} {kk : Nat} (E : Exa Z h a C) (wi : (Jvm.Cond.instantiable C kk).before a0 Z = true) (F : Arv Z h b k ty n vs dv) : a ≠ b := by
  obtain ⟨c, A, -⟩ := F; exact ne_arr E wi A
theorem own_eqite {α : Type} {P : Prop} [Decidable P] {u a b : α} : (u = if P then a else b) ↔ ((P ∧ u = a) ∨ (¬ P ∧ u = b)) := by by_cases h : P <;> simp [h]
theorem own_iteeq {α : Type} {P : Prop} [Decidable P] {u a b : α} : ((if P then a else b) = u) ↔ ((P ∧ a = u) ∨ (¬ P ∧ b = u)) := by by_cases h : P <;> simp [h]
theorem own_narb (x : Int32) : nar .byte x.toInt8.toInt32 = x.toInt8.toInt32 := by
  show x.toInt8.toInt32.toInt8.toInt32 = _; simp
theorem own_dec {n : Int32} (h : (0 : Int32) < n) : ¬ (n - (1 : Int32)) < (0 : Int32) ∧ (n - (1 : Int32)) < n := by
  have q := c_isub n 1; have a := n.toInt_lt; have b := (n - 1).toInt_lt; have c := (n - 1).le_toInt
  simp only [Int32.lt_iff_toInt_lt, Int32.reduceToInt] at *; omega

theorem pn2 : plainName "java/lang/Record" = true := by first | (simp [plainName, overriddenIn]; done) | decide +kernel
theorem pd2 : parseMethodDescriptor "()V" = some ⟨[], none⟩ := by decide +kernel
theorem ef2 (m : MethodId) (o0 : Addr) : entryFrame m #[(.ref o0)] 1 = mkF m 0 #[.val (.ref o0)] [] := by first | (simp [entryFrame, mkF, argsToLocals, Value.category]; done) | rfl
theorem d2_0 : decode jdk_30_method_1_code 0 = .ok (.aload_n 0, 1) := by decide +kernel
theorem d2_1 : decode jdk_30_method_1_code 1 = .ok (.invokespecial 1, 3) := by decide +kernel
theorem d2_4 : decode jdk_30_method_1_code 4 = .ok (.return_, 1) := by decide +kernel
set_option maxRecDepth 65536 in
set_option maxHeartbeats 40000000 in
theorem rm2 (l : Launch) (Z : State) (a0 : Array Value) (hw : ∀ d ∈ tables_1, d.before a0 Z = true) (o0 : Addr) (h0 : Heap) (n0 : Nat) (Z0 : n0 ≤ h0.size) :
    Ctr l Z (⟨"java/lang/Record", "<init>", "()V"⟩ : MethodName) jdk_30_method_1_code 1 none ({ frames := 1, cells := 0, slots := 0, locals := 12 } : Room) #[(.ref o0)] h0 n0 (fun v h' => v = none ∧ h' = h0) := by
  refine Ctr.body (L := #[.val (.ref o0)]) (plainFor_of_name pn2) Z0 (fun m => ef2 m o0) ?_
  intro p e F m below meth c T0 C0
  refine C0.aloadN d2_0 rfl rfl rfl ?_
  refine C0.initObj (hw _ (List.mem_of_getElem? (i := 12) rfl)) (hw _ (List.mem_of_getElem? (i := 13) rfl)) (hw _ (List.mem_of_getElem? (i := 14) rfl)) rfl (by decide) 0 (Nat.le_of_eq rfl) (by decide) d2_1 rfl (fun T1 C1 => ?_)
  exact C1.retV d2_4 rfl (by decide) (by decide) ⟨rfl, rfl⟩
theorem pn1 : plainName "com/example/leeway/leeway/service/JournalLine$Line" = true := by first | (simp [plainName, overriddenIn]; done) | decide +kernel
theorem pd1 : parseMethodDescriptor "([BJ)V" = some ⟨[(.array .byte), .long], none⟩ := by decide +kernel
theorem ef1 (m : MethodId) (o0 : Addr) (o1 : Addr) (j2 : Int64) : entryFrame m #[(.ref o0), (.ref o1), (.long j2)] 4 = mkF m 0 #[.val (.ref o0), .val (.ref o1), .val (.long j2), .second] [] := by first | (simp [entryFrame, mkF, argsToLocals, Value.category]; done) | rfl
theorem d1_0 : decode prog_135_method_1_code 0 = .ok (.aload_n 0, 1) := by decide +kernel
theorem d1_1 : decode prog_135_method_1_code 1 = .ok (.invokespecial 3, 3) := by decide +kernel
theorem d1_4 : decode prog_135_method_1_code 4 = .ok (.aload_n 0, 1) := by decide +kernel
theorem d1_5 : decode prog_135_method_1_code 5 = .ok (.aload_n 1, 1) := by decide +kernel
theorem d1_6 : decode prog_135_method_1_code 6 = .ok (.putfield 9, 3) := by decide +kernel
theorem d1_9 : decode prog_135_method_1_code 9 = .ok (.aload_n 0, 1) := by decide +kernel
theorem d1_10 : decode prog_135_method_1_code 10 = .ok (.lload_n 2, 1) := by decide +kernel
theorem d1_11 : decode prog_135_method_1_code 11 = .ok (.putfield 15, 3) := by decide +kernel
theorem d1_14 : decode prog_135_method_1_code 14 = .ok (.return_, 1) := by decide +kernel
set_option maxRecDepth 65536 in
set_option maxHeartbeats 40000000 in
theorem rm1 (l : Launch) (Z : State) (a0 : Array Value) (hw : ∀ d ∈ tables_1, d.before a0 Z = true) (o0 : Addr) (o1 : Addr) (j2 : Int64) (x0 : Value) (x1 : Value) (h0 : Heap) (n0 : Nat) (Z0 : n0 ≤ h0.size) (E_o0 : Exa Z h0 o0 "com/example/leeway/leeway/service/JournalLine$Line") (F_o0_bytes : Fld Z h0 o0 "com/example/leeway/leeway/service/JournalLine$Line" "bytes" "[B" x0) (F_o0_length : Fld Z h0 o0 "com/example/leeway/leeway/service/JournalLine$Line" "length" "J" x1) (g_o0 : n0 ≤ o0) :
    Ctr l Z (⟨"com/example/leeway/leeway/service/JournalLine$Line", "<init>", "([BJ)V"⟩ : MethodName) prog_135_method_1_code 4 none ({ frames := 2, cells := 0, slots := 0, locals := 24 } : Room) #[(.ref o0), (.ref o1), (.long j2)] h0 n0 (fun v h' => v = none ∧ Keep h0 h' [o0] ∧ Exa Z h' o0 "com/example/leeway/leeway/service/JournalLine$Line" ∧ Fld Z h' o0 "com/example/leeway/leeway/service/JournalLine$Line" "bytes" "[B" (.ref o1)) := by
  refine Ctr.body (L := #[.val (.ref o0), .val (.ref o1), .val (.long j2), .second]) (plainFor_of_name pn1) Z0 (fun m => ef1 m o0 o1 j2) ?_
  intro p e F m below meth c T0 C0
  have KP : Keep h0 h0 [o0] := Keep.refl h0 _
  refine C0.aloadN d1_0 rfl rfl rfl ?_
  refine C0.callN rfl (hw _ (List.mem_of_getElem? (i := 7) rfl)) (hw _ (List.mem_of_getElem? (i := 8) rfl)) (hw _ (List.mem_of_getElem? (i := 10) rfl)) (hw _ (List.mem_of_getElem? (i := 11) rfl)) (by decide) (a := o0) (rm2 l Z a0 hw o0 h0 n0 C0.size ) (argsL := []) pd2 rfl 0 (by decide) (by decide) (by decide) (by decide) (rest := []) rfl rfl (Nat.le_of_eq rfl) d1_1 rfl (fun v1 T1 h1 C1 qq1 => ?_)
  obtain ⟨rfl, hh1⟩ := qq1
  have hh1 := hh1.symm; subst hh1
  show Go p e below F n0 (fun v h' => v = none ∧ Keep h0 h' [o0] ∧ Exa Z h' o0 "com/example/leeway/leeway/service/JournalLine$Line" ∧ Fld Z h' o0 "com/example/leeway/leeway/service/JournalLine$Line" "bytes" "[B" (.ref o1)) T1 (mkF m 4 #[.val (.ref o0), .val (.ref o1), .val (.long j2), .second] [])
  refine C1.aloadN d1_4 rfl rfl rfl ?_
  refine C1.aloadN d1_5 rfl rfl rfl ?_
  refine C1.putF (host := "") (Or.inl (hw _ (List.mem_of_getElem? (i := 15) rfl))) Via.refl F_o0_bytes E_o0 (Or.inr ⟨(hw _ (List.mem_of_getElem? (i := 16) rfl)), rfl, rfl⟩) (hw _ (List.mem_of_getElem? (i := 2) rfl)) (ty := (.array .byte)) (by decide) rfl rfl g_o0 d1_6 rfl (fun T2 h2 C2 W2 => ?_)
  have E_o0 := E_o0.wr W2
  have F_o0_length := F_o0_length.other W2 (Or.inr (slot_ne (Or.inr (hw _ (List.mem_of_getElem? (i := 18) rfl))) (Or.inr (hw _ (List.mem_of_getElem? (i := 16) rfl))) (by decide) (t := .long) (t' := (.array .byte)) (by decide) (by decide)))
  have KP := KP.wr W2 (Or.inl (by simp))
  have F_o0_bytes := F_o0_bytes.same W2
  refine C2.aloadN d1_9 rfl rfl rfl ?_
  refine C2.lloadN d1_10 rfl rfl ?_
  refine C2.putF (host := "") (Or.inl (hw _ (List.mem_of_getElem? (i := 17) rfl))) Via.refl F_o0_length E_o0 (Or.inr ⟨(hw _ (List.mem_of_getElem? (i := 18) rfl)), rfl, rfl⟩) (hw _ (List.mem_of_getElem? (i := 2) rfl)) (ty := .long) (by decide) rfl rfl g_o0 d1_11 rfl (fun T3 h3 C3 W3 => ?_)
  have E_o0 := E_o0.wr W3
  have F_o0_bytes := F_o0_bytes.other W3 (Or.inr (slot_ne (Or.inr (hw _ (List.mem_of_getElem? (i := 16) rfl))) (Or.inr (hw _ (List.mem_of_getElem? (i := 18) rfl))) (by decide) (t := (.array .byte)) (t' := .long) (by decide) (by decide)))
  have KP := KP.wr W3 (Or.inl (by simp))
  have F_o0_length := F_o0_length.same W3
  exact C3.retV d1_14 rfl (by decide) (by decide) ⟨rfl, KP, E_o0, F_o0_bytes⟩
def f4 (n1 : Int32) (y1 : Int32) : Int32 := if (0 : Int32) < n1 then if y1 = (10 : Int32) then (1 : Int32) else ((0 : Int32)) else ((0 : Int32))
theorem pn4 : plainName "com/example/leeway/leeway/service/JournalLine$Line" = true := by first | (simp [plainName, overriddenIn]; done) | decide +kernel
theorem pd4 : parseMethodDescriptor "()Z" = some ⟨[], some .boolean⟩ := by decide +kernel
theorem ef4 (m : MethodId) (o0 : Addr) : entryFrame m #[(.ref o0)] 1 = mkF m 0 #[.val (.ref o0)] [] := by first | (simp [entryFrame, mkF, argsToLocals, Value.category]; done) | rfl
theorem d4_0 : decode prog_135_method_4_code 0 = .ok (.aload_n 0, 1) := by decide +kernel
theorem d4_1 : decode prog_135_method_4_code 1 = .ok (.getfield 9, 3) := by decide +kernel
theorem d4_4 : decode prog_135_method_4_code 4 = .ok (.arraylength, 1) := by decide +kernel
theorem d4_5 : decode prog_135_method_4_code 5 = .ok (.ifCond .le 24, 3) := by decide +kernel
theorem d4_8 : decode prog_135_method_4_code 8 = .ok (.aload_n 0, 1) := by decide +kernel
theorem d4_9 : decode prog_135_method_4_code 9 = .ok (.getfield 9, 3) := by decide +kernel
theorem d4_12 : decode prog_135_method_4_code 12 = .ok (.aload_n 0, 1) := by decide +kernel
theorem d4_13 : decode prog_135_method_4_code 13 = .ok (.getfield 9, 3) := by decide +kernel
theorem d4_16 : decode prog_135_method_4_code 16 = .ok (.arraylength, 1) := by decide +kernel
theorem d4_17 : decode prog_135_method_4_code 17 = .ok (.iconst 1, 1) := by decide +kernel
theorem d4_18 : decode prog_135_method_4_code 18 = .ok (.isub, 1) := by decide +kernel
theorem d4_19 : decode prog_135_method_4_code 19 = .ok (.baload, 1) := by decide +kernel
theorem d4_20 : decode prog_135_method_4_code 20 = .ok (.bipush 10, 2) := by decide +kernel
theorem d4_22 : decode prog_135_method_4_code 22 = .ok (.if_icmp .ne 7, 3) := by decide +kernel
theorem d4_25 : decode prog_135_method_4_code 25 = .ok (.iconst 1, 1) := by decide +kernel
theorem d4_26 : decode prog_135_method_4_code 26 = .ok (.goto 4, 3) := by decide +kernel
theorem d4_29 : decode prog_135_method_4_code 29 = .ok (.iconst 0, 1) := by decide +kernel
theorem d4_30 : decode prog_135_method_4_code 30 = .ok (.ireturn, 1) := by decide +kernel
set_option maxRecDepth 65536 in
set_option maxHeartbeats 40000000 in
theorem rm4 (l : Launch) (Z : State) (a0 : Array Value) (hw : ∀ d ∈ tables_1, d.before a0 Z = true) (o0 : Addr) (a1 : Addr) (k1 : ClassId) (n1 : Int32) (vs : List Value) (dv : Value) (y1 : Int32) (h0 : Heap) (n0 : Nat) (Z0 : n0 ≤ h0.size) (F_o0_bytes : Fld Z h0 o0 "com/example/leeway/leeway/service/JournalLine$Line" "bytes" "[B" (.ref a1)) (V_a1 : Arv Z h0 a1 k1 .byte n1 vs dv) (hv : vs.getD ((n1 - (1 : Int32))).toNatClampNeg dv = .int y1) :
    Ctr l Z (⟨"com/example/leeway/leeway/service/JournalLine$Line", "ended", "()Z"⟩ : MethodName) prog_135_method_4_code 1 (some .boolean) ({ frames := 0, cells := 0, slots := 0, locals := 0 } : Room) #[(.ref o0)] h0 n0 (fun v h' => v = some (.int (f4 n1 y1)) ∧ h' = h0) := by
  refine Ctr.body (L := #[.val (.ref o0)]) (plainFor_of_name pn4) Z0 (fun m => ef4 m o0) ?_
  intro p e F m below meth c T0 C0
  refine C0.aloadN d4_0 rfl rfl rfl ?_
  refine C0.getF (host := "") (Or.inl (hw _ (List.mem_of_getElem? (i := 15) rfl))) Via.refl F_o0_bytes d4_1 rfl (fun T1 C1 => ?_)
  refine C1.arrlen V_a1 d4_4 rfl ?_
  refine C1.if_le d4_5 (by decide) (by decide : _ = 29) rfl (fun c5 => ?_) (fun c5 => ?_)
  · refine C1.iconst (0 : Int32) d4_29 rfl rfl ?_
    exact C1.retN (t := .boolean) d4_30 rfl (by simp) (by decide) (by decide) (w := (0 : Int32)) rfl ⟨by rw [f4, if_neg c5], rfl⟩
  · refine C1.aloadN d4_8 rfl rfl rfl ?_
    refine C1.getF (host := "") (Or.inl (hw _ (List.mem_of_getElem? (i := 15) rfl))) Via.refl F_o0_bytes d4_9 rfl (fun T2 C2 => ?_)
    refine C2.aloadN d4_12 rfl rfl rfl ?_
    refine C2.getF (host := "") (Or.inl (hw _ (List.mem_of_getElem? (i := 15) rfl))) Via.refl F_o0_bytes d4_13 rfl (fun T3 C3 => ?_)
    refine C3.arrlen V_a1 d4_16 rfl ?_
    refine C3.iconst (1 : Int32) d4_17 rfl rfl ?_
    refine C3.isub d4_18 rfl ?_
    refine C3.baload (v := y1) V_a1 (own_dec c5) hv d4_19 rfl ?_
    refine C3.bipush (10 : Int32) d4_20 rfl rfl ?_
    refine C3.icmp_ne d4_22 (by decide) (by decide : _ = 29) rfl (fun c22 => ?_) (fun c22 => ?_)
    · refine C3.iconst (0 : Int32) d4_29 rfl rfl ?_
      exact C3.retN (t := .boolean) d4_30 rfl (by simp) (by decide) (by decide) (w := (0 : Int32)) rfl ⟨by rw [f4, if_pos c5, if_neg c22], rfl⟩
    · refine C3.iconst (1 : Int32) d4_25 rfl rfl ?_
      refine C3.goto d4_26 (by decide) (by decide : _ = 30) ?_
      exact C3.retN (t := .boolean) d4_30 rfl (by simp) (by decide) (by decide) (w := (1 : Int32)) rfl ⟨by rw [f4, if_pos c5, if_pos c22], rfl⟩
set_option maxRecDepth 65536 in
set_option maxHeartbeats 40000000 in
theorem own_bad0 (i0 : Int32) (i1 : Int32) (i2 : Int32) (i3 : Int32) (j4 : Int64) (v1 : Int32) (u2 : Int32) (u4 : Int32) (v10 : Int32) (u11 : Int32) (hv1 : v1 = (i0 &&& (3 : Int32))) (hu2 : u2 = (if (i0 &&& (4 : Int32)) = (0 : Int32) then (0 : Int32) else (1 : Int32))) (hu4 : u4 = (if u2 = (0 : Int32) then i3 else (10 : Int32))) (hv10 : v10 = (u4 &&& (255 : Int32))) (hu11 : u11 = (if (0 : Int32) < v1 then (if v10 = (10 : Int32) then (1 : Int32) else (0 : Int32)) else (0 : Int32))) (c20 : ¬ v1 = (0 : Int32)) (c37 : ¬ v1 = (1 : Int32)) (c78 : ¬ v1 = (2 : Int32)) (c202 : ¬ (f4 (3 : Int32) (nar .byte (u4.toInt8.toInt32))) = u11) : False := by
  rw [own_narb] at c202
  clear hu2 hu4
  have ca_0 := c_i2b u4
  have ca_1 := c_mask u4 255 8 (by decide) (by decide)
  have ca_2 := c_mask i0 3 2 (by decide) (by decide)
  try simp only [f4, own_eqite, own_iteeq] at *
  try simp only [ne_eq, and_true, true_and, or_true, true_or, and_false, false_and, or_false, false_or, not_true_eq_false, not_false_eq_true, Int32.lt_iff_toInt_lt, Int64.lt_iff_toInt_lt, ← Int32.toInt_inj, ← Int64.toInt_inj, Int32.reduceToInt, Int64.reduceToInt] at *
  omega
set_option maxRecDepth 65536 in
set_option maxHeartbeats 40000000 in
theorem own_bad1 (i0 : Int32) (i1 : Int32) (i2 : Int32) (i3 : Int32) (j4 : Int64) (v1 : Int32) (u2 : Int32) (u16 : Int32) (v21 : Int32) (u22 : Int32) (hv1 : v1 = (i0 &&& (3 : Int32))) (hu2 : u2 = (if (i0 &&& (4 : Int32)) = (0 : Int32) then (0 : Int32) else (1 : Int32))) (hu16 : u16 = (if u2 = (0 : Int32) then i2 else (10 : Int32))) (hv21 : v21 = (u16 &&& (255 : Int32))) (hu22 : u22 = (if (0 : Int32) < v1 then (if v21 = (10 : Int32) then (1 : Int32) else (0 : Int32)) else (0 : Int32))) (c20 : ¬ v1 = (0 : Int32)) (c37 : ¬ v1 = (1 : Int32)) (c78 : v1 = (2 : Int32)) (c202 : ¬ (f4 (2 : Int32) (nar .byte (u16.toInt8.toInt32))) = u22) : False := by
  rw [own_narb] at c202
  clear hu2 hu16
  have ca_0 := c_i2b u16
  have ca_1 := c_mask u16 255 8 (by decide) (by decide)
  have ca_2 := c_mask i0 3 2 (by decide) (by decide)
  try simp only [f4, own_eqite, own_iteeq] at *
  try simp only [ne_eq, and_true, true_and, or_true, true_or, and_false, false_and, or_false, false_or, not_true_eq_false, not_false_eq_true, Int32.lt_iff_toInt_lt, Int64.lt_iff_toInt_lt, ← Int32.toInt_inj, ← Int64.toInt_inj, Int32.reduceToInt, Int64.reduceToInt] at *
  omega
set_option maxRecDepth 65536 in
set_option maxHeartbeats 40000000 in
theorem own_bad2 (i0 : Int32) (i1 : Int32) (i2 : Int32) (i3 : Int32) (j4 : Int64) (v1 : Int32) (u2 : Int32) (u27 : Int32) (v31 : Int32) (u32 : Int32) (hv1 : v1 = (i0 &&& (3 : Int32))) (hu2 : u2 = (if (i0 &&& (4 : Int32)) = (0 : Int32) then (0 : Int32) else (1 : Int32))) (hu27 : u27 = (if u2 = (0 : Int32) then i1 else (10 : Int32))) (hv31 : v31 = (u27 &&& (255 : Int32))) (hu32 : u32 = (if (0 : Int32) < v1 then (if v31 = (10 : Int32) then (1 : Int32) else (0 : Int32)) else (0 : Int32))) (c20 : ¬ v1 = (0 : Int32)) (c37 : v1 = (1 : Int32)) (c202 : ¬ (f4 (1 : Int32) (nar .byte (u27.toInt8.toInt32))) = u32) : False := by
  rw [own_narb] at c202
  clear hu2 hu27
  have ca_0 := c_i2b u27
  have ca_1 := c_mask u27 255 8 (by decide) (by decide)
  have ca_2 := c_mask i0 3 2 (by decide) (by decide)
  try simp only [f4, own_eqite, own_iteeq] at *
  try simp only [ne_eq, and_true, true_and, or_true, true_or, and_false, false_and, or_false, false_or, not_true_eq_false, not_false_eq_true, Int32.lt_iff_toInt_lt, Int64.lt_iff_toInt_lt, ← Int32.toInt_inj, ← Int64.toInt_inj, Int32.reduceToInt, Int64.reduceToInt] at *
  omega
set_option maxRecDepth 65536 in
set_option maxHeartbeats 40000000 in
theorem own_bad3 (i0 : Int32) (i1 : Int32) (i2 : Int32) (i3 : Int32) (j4 : Int64) (v1 : Int32) (u2 : Int32) (hv1 : v1 = (i0 &&& (3 : Int32))) (hu2 : u2 = (if (i0 &&& (4 : Int32)) = (0 : Int32) then (0 : Int32) else (1 : Int32))) (c20 : v1 = (0 : Int32)) (c202 : ¬ (f4 (0 : Int32) (0 : Int32)) = (0 : Int32)) : False := by
  exact c202 rfl
theorem pn0 : plainName "com/example/leeway/leeway/service/LineEndedPinLaw" = true := by first | (simp [plainName, overriddenIn]; done) | decide +kernel
theorem ef0 (m : MethodId) (i0 : Int32) (i1 : Int32) (i2 : Int32) (i3 : Int32) (j4 : Int64) : entryFrame m #[(.int i0), (.int i1), (.int i2), (.int i3), (.long j4)] maxLocals = mkF m 0 #[.val (.int i0), .val (.int i1), .val (.int i2), .val (.int i3), .val (.long j4), .second, .unset, .unset, .unset, .unset, .unset, .unset] [] := by first | (simp [entryFrame, mkF, argsToLocals, Value.category, maxLocals]; done) | rfl
set_option maxRecDepth 65536 in
set_option maxHeartbeats 40000000 in
theorem rm0 (l : Launch) (Z : State) (a0 : Array Value) (hw : ∀ d ∈ tables_1, d.before a0 Z = true) (i0 : Int32) (i1 : Int32) (i2 : Int32) (i3 : Int32) (j4 : Int64) (h0 : Heap) (n0 : Nat) (Z0 : n0 ≤ h0.size) :
    Ctr l Z x code maxLocals ret room_1 #[(.int i0), (.int i1), (.int i2), (.int i3), (.long j4)] h0 n0 (fun v _ => v = some (.int (1 : Int32))) := by
  refine Ctr.body (L := #[.val (.int i0), .val (.int i1), .val (.int i2), .val (.int i3), .val (.long j4), .second, .unset, .unset, .unset, .unset, .unset, .unset]) (plainFor_of_name pn0) Z0 (fun m => ef0 m i0 i1 i2 i3 j4) ?_
  intro p e F m below meth c T0 C0
  refine C0.iloadN at_0 rfl rfl ?_
  refine C0.iconst (3 : Int32) at_1 rfl rfl ?_
  refine C0.iand at_2 rfl ?_
  refine C0.istoreV (fun v => #[.val (.int i0), .val (.int i1), .val (.int i2), .val (.int i3), .val (.long j4), .second, .val (.int v), .unset, .unset, .unset, .unset, .unset]) at_3 rfl (fun _ => rfl) (fun v1 hv1 => ?_)
  refine C0.iloadN at_5 rfl rfl ?_
  refine C0.iconst (4 : Int32) at_6 rfl rfl ?_
  refine C0.iand at_7 rfl ?_
  have J16 : ∀ (T3 : State) (u2 : Int32), Cx p l e room_1 m #[(.int i0), (.int i1), (.int i2), (.int i3), (.long j4)] below meth c Z x code maxLocals ret n0 false F T3 h0 0 0 → u2 = (if (i0 &&& (4 : Int32)) = (0 : Int32) then (0 : Int32) else (1 : Int32)) → Go p e below F n0 (fun v _ => v = some (.int (1 : Int32))) T3 (mkF m 16 #[.val (.int i0), .val (.int i1), .val (.int i2), .val (.int i3), .val (.long j4), .second, .val (.int v1), .unset, .unset, .unset, .unset, .unset] [(.int u2)]) := by
    intro T3 u2 C3 hu2
    refine C3.istore at_16 rfl (L' := #[.val (.int i0), .val (.int i1), .val (.int i2), .val (.int i3), .val (.long j4), .second, .val (.int v1), .val (.int u2), .unset, .unset, .unset, .unset]) rfl ?_
    refine C3.iload at_18 rfl rfl ?_
    refine C3.if_ne at_20 (by decide) (by decide : _ = 34) rfl (fun c20 => ?_) (fun c20 => ?_)
    · refine C3.iload at_34 rfl rfl ?_
      refine C3.iconst (1 : Int32) at_36 rfl rfl ?_
      refine C3.icmp_ne at_37 (by decide) (by decide : _ = 75) rfl (fun c37 => ?_) (fun c37 => ?_)
      · refine C3.iload at_75 rfl rfl ?_
        refine C3.iconst (2 : Int32) at_77 rfl rfl ?_
        refine C3.icmp_ne at_78 (by decide) (by decide : _ = 121) rfl (fun c78 => ?_) (fun c78 => ?_)
        · refine C3.iload at_121 rfl rfl ?_
          have J132 : ∀ (T5 : State) (u4 : Int32), Cx p l e room_1 m #[(.int i0), (.int i1), (.int i2), (.int i3), (.long j4)] below meth c Z x code maxLocals ret n0 false F T5 h0 0 0 → u4 = (if u2 = (0 : Int32) then i3 else (10 : Int32)) → Go p e below F n0 (fun v _ => v = some (.int (1 : Int32))) T5 (mkF m 132 #[.val (.int i0), .val (.int i1), .val (.int i2), .val (.int i3), .val (.long j4), .second, .val (.int v1), .val (.int u2), .unset, .unset, .unset, .unset] [(.int u4)]) := by
            intro T5 u4 C5 hu4
            refine C5.istore at_132 rfl (L' := #[.val (.int i0), .val (.int i1), .val (.int i2), .val (.int i3), .val (.long j4), .second, .val (.int v1), .val (.int u2), .unset, .unset, .val (.int u4), .unset]) rfl ?_
            refine C5.iconst (3 : Int32) at_134 rfl rfl ?_
            refine C5.newarr (hw _ (List.mem_of_getElem? (i := 0) rfl)) 3 (by decide) (by decide) (by decide) (by decide) (by decide) at_135 rfl (fun T6 h6 b6 k6 C6 e6 g_b6 E6 V_b6 => ?_)
            have V_b6 : Arv Z h6 b6 k6 .byte (3 : Int32) [(.int (0 : Int32)), (.int (0 : Int32)), (.int (0 : Int32))] (.int (0 : Int32)) := V_b6
            refine C6.dup at_137 rfl rfl ?_
            refine C6.iconst (0 : Int32) at_138 rfl rfl ?_
            refine C6.iloadN at_139 rfl rfl ?_
            refine C6.i2b at_140 rfl ?_
            refine C6.bastore V_b6 ⟨by decide, by decide⟩ (Nat.le_of_ble_eq_true rfl) g_b6 at_141 rfl (fun T7 h7 C7 W7 Vn7 => ?_)
            have V_b6 : Arv Z h7 b6 k6 .byte (3 : Int32) [(.int (nar .byte (i1.toInt8.toInt32))), (.int (0 : Int32)), (.int (0 : Int32))] (.int (0 : Int32)) := Vn7
            refine C7.dup at_142 rfl rfl ?_
            refine C7.iconst (1 : Int32) at_143 rfl rfl ?_
            refine C7.iloadN at_144 rfl rfl ?_
            refine C7.i2b at_145 rfl ?_
            refine C7.bastore V_b6 ⟨by decide, by decide⟩ (Nat.le_of_ble_eq_true rfl) g_b6 at_146 rfl (fun T8 h8 C8 W8 Vn8 => ?_)
            have V_b6 : Arv Z h8 b6 k6 .byte (3 : Int32) [(.int (nar .byte (i1.toInt8.toInt32))), (.int (nar .byte (i2.toInt8.toInt32))), (.int (0 : Int32))] (.int (0 : Int32)) := Vn8
            refine C8.dup at_147 rfl rfl ?_
            refine C8.iconst (2 : Int32) at_148 rfl rfl ?_
            refine C8.iload at_149 rfl rfl ?_
            refine C8.i2b at_151 rfl ?_
            refine C8.bastore V_b6 ⟨by decide, by decide⟩ (Nat.le_of_ble_eq_true rfl) g_b6 at_152 rfl (fun T9 h9 C9 W9 Vn9 => ?_)
            have V_b6 : Arv Z h9 b6 k6 .byte (3 : Int32) [(.int (nar .byte (i1.toInt8.toInt32))), (.int (nar .byte (i2.toInt8.toInt32))), (.int (nar .byte (u4.toInt8.toInt32)))] (.int (0 : Int32)) := Vn9
            refine C9.astore at_153 rfl rfl (L' := #[.val (.int i0), .val (.int i1), .val (.int i2), .val (.int i3), .val (.long j4), .second, .val (.int v1), .val (.int u2), .val (.ref b6), .unset, .val (.int u4), .unset]) rfl ?_
            refine C9.iload at_155 rfl rfl ?_
            refine C9.sipush (255 : Int32) at_157 rfl rfl ?_
            refine C9.iand at_160 rfl ?_
            refine C9.istoreV (fun v => #[.val (.int i0), .val (.int i1), .val (.int i2), .val (.int i3), .val (.long j4), .second, .val (.int v1), .val (.int u2), .val (.ref b6), .val (.int v), .val (.int u4), .unset]) at_161 rfl (fun _ => rfl) (fun v10 hv10 => ?_)
            refine C9.iload at_163 rfl rfl ?_
            have J180 : ∀ (T12 : State) (u11 : Int32), Cx p l e room_1 m #[(.int i0), (.int i1), (.int i2), (.int i3), (.long j4)] below meth c Z x code maxLocals ret n0 false F T12 h9 1 3 → u11 = (if (0 : Int32) < v1 then (if v10 = (10 : Int32) then (1 : Int32) else (0 : Int32)) else (0 : Int32)) → Go p e below F n0 (fun v _ => v = some (.int (1 : Int32))) T12 (mkF m 180 #[.val (.int i0), .val (.int i1), .val (.int i2), .val (.int i3), .val (.long j4), .second, .val (.int v1), .val (.int u2), .val (.ref b6), .val (.int v10), .val (.int u4), .unset] [(.int u11)]) := by
              intro T12 u11 C12 hu11
              refine C12.istore at_180 rfl (L' := #[.val (.int i0), .val (.int i1), .val (.int i2), .val (.int i3), .val (.long j4), .second, .val (.int v1), .val (.int u2), .val (.ref b6), .val (.int v10), .val (.int u11), .unset]) rfl ?_
              refine C12.new (hw _ (List.mem_of_getElem? (i := 1) rfl)) (hw _ (List.mem_of_getElem? (i := 2) rfl)) (hw _ (List.mem_of_getElem? (i := 3) rfl)) at_182 rfl (by decide) (by decide) (fun T13 h13 b13 C13 e13 g_b13 E13 E_b13 D13 => ?_)
              have ne_b6_b13 : b6 ≠ b13 := Nat.ne_of_lt (Nat.lt_of_lt_of_eq V_b6.lt e13.symm)
              have V_b6 := V_b6.ext E13
              have F_b13_bytes : Fld Z h13 b13 "com/example/leeway/leeway/service/JournalLine$Line" "bytes" "[B" .null := D13 (Or.inr (hw _ (List.mem_of_getElem? (i := 16) rfl))) (ty := (.array .byte)) (by decide)
              have F_b13_length : Fld Z h13 b13 "com/example/leeway/leeway/service/JournalLine$Line" "length" "J" (.long (0 : Int64)) := D13 (Or.inr (hw _ (List.mem_of_getElem? (i := 18) rfl))) (ty := .long) (by decide)
              refine C13.dup at_185 rfl rfl ?_
              refine C13.aload at_186 rfl rfl rfl ?_
              refine C13.lload at_188 rfl rfl ?_
              refine C13.callN rfl (hw _ (List.mem_of_getElem? (i := 4) rfl)) (hw _ (List.mem_of_getElem? (i := 5) rfl)) (hw _ (List.mem_of_getElem? (i := 3) rfl)) (hw _ (List.mem_of_getElem? (i := 6) rfl)) (by decide) (a := b13) (rm1 l Z a0 hw b13 b6 j4 .null (.long (0 : Int64)) h13 n0 C13.size E_b13 F_b13_bytes F_b13_length g_b13) (argsL := [(.ref b6), (.long j4)]) pd1 rfl 1 (by decide) (by decide) (by decide) (by decide) (rest := [(.ref b13)]) rfl rfl (Nat.le_of_eq rfl) at_190 rfl (fun v14 T14 h14 C14 qq14 => ?_)
              obtain ⟨rfl, K14, p14_0, p14_1⟩ := qq14
              have V_b6 := V_b6.keep K14 (ninS ne_b6_b13 nin0)
              have E_b13 := E_b13.keep K14
              have E_b13 := p14_0
              have F_b13_bytes := p14_1
              show Go p e below F n0 (fun v _ => v = some (.int (1 : Int32))) T14 (mkF m 193 #[.val (.int i0), .val (.int i1), .val (.int i2), .val (.int i3), .val (.long j4), .second, .val (.int v1), .val (.int u2), .val (.ref b6), .val (.int v10), .val (.int u11), .unset] [(.ref b13)])
              refine C14.astore at_193 rfl rfl (L' := #[.val (.int i0), .val (.int i1), .val (.int i2), .val (.int i3), .val (.long j4), .second, .val (.int v1), .val (.int u2), .val (.ref b6), .val (.int v10), .val (.int u11), .val (.ref b13)]) rfl ?_
              refine C14.aload at_195 rfl rfl rfl ?_
              refine C14.callV (hw _ (List.mem_of_getElem? (i := 19) rfl)) (hw _ (List.mem_of_getElem? (i := 20) rfl)) (hw _ (List.mem_of_getElem? (i := 22) rfl)) (hw _ (List.mem_of_getElem? (i := 21) rfl)) (hw _ (List.mem_of_getElem? (i := 3) rfl)) (hw _ (List.mem_of_getElem? (i := 23) rfl)) E_b13 (by decide) (a := b13) (rm4 l Z a0 hw b13 b6 k6 (3 : Int32) [(.int (nar .byte (i1.toInt8.toInt32))), (.int (nar .byte (i2.toInt8.toInt32))), (.int (nar .byte (u4.toInt8.toInt32)))] (.int (0 : Int32)) (nar .byte (u4.toInt8.toInt32)) h14 n0 C14.size F_b13_bytes V_b6 rfl) (argsL := []) pd4 rfl 0 (by decide) (by decide) (by decide) (by decide) (rest := []) rfl rfl (Nat.le_of_eq rfl) at_197 rfl (fun v15 T15 h15 C15 qq15 => ?_)
              obtain ⟨rfl, hh15⟩ := qq15
              have hh15 := hh15.symm; subst hh15
              show Go p e below F n0 (fun v _ => v = some (.int (1 : Int32))) T15 (mkF m 200 #[.val (.int i0), .val (.int i1), .val (.int i2), .val (.int i3), .val (.long j4), .second, .val (.int v1), .val (.int u2), .val (.ref b6), .val (.int v10), .val (.int u11), .val (.ref b13)] [(.int (f4 (3 : Int32) (nar .byte (u4.toInt8.toInt32))))])
              refine C15.iload at_200 rfl rfl ?_
              refine C15.icmp_ne at_202 (by decide) (by decide : _ = 209) rfl (fun c202 => ?_) (fun c202 => ?_)
              · refine C15.iconst (0 : Int32) at_209 rfl rfl ?_
                exact (own_bad0 i0 i1 i2 i3 j4 v1 u2 u4 v10 u11 hv1 hu2 hu4 hv10 hu11 c20 c37 c78 c202).elim
              · refine C15.iconst (1 : Int32) at_205 rfl rfl ?_
                refine C15.goto at_206 (by decide) (by decide : _ = 210) ?_
                exact C15.retN (t := .boolean) at_210 rfl (by simp) (by decide) (by decide) (w := (1 : Int32)) rfl rfl
            refine C9.if_le at_165 (by decide) (by decide : _ = 179) rfl (fun c165 => ?_) (fun c165 => ?_)
            · refine C9.iconst (0 : Int32) at_179 rfl rfl ?_
              exact J180 _ (0 : Int32) C9 (by simp only [if_neg c165])
            · refine C9.iload at_168 rfl rfl ?_
              refine C9.bipush (10 : Int32) at_170 rfl rfl ?_
              refine C9.icmp_ne at_172 (by decide) (by decide : _ = 179) rfl (fun c172 => ?_) (fun c172 => ?_)
              · refine C9.iconst (0 : Int32) at_179 rfl rfl ?_
                exact J180 _ (0 : Int32) C9 (by simp only [if_pos c165, if_neg c172])
              · refine C9.iconst (1 : Int32) at_175 rfl rfl ?_
                refine C9.goto at_176 (by decide) (by decide : _ = 180) ?_
                exact J180 _ (1 : Int32) C9 (by simp only [if_pos c165, if_pos c172])
          refine C3.if_eq at_123 (by decide) (by decide : _ = 131) rfl (fun c123 => ?_) (fun c123 => ?_)
          · refine C3.iloadN at_131 rfl rfl ?_
            exact J132 _ i3 C3 (by simp only [if_pos c123])
          · refine C3.bipush (10 : Int32) at_126 rfl rfl ?_
            refine C3.goto at_128 (by decide) (by decide : _ = 132) ?_
            exact J132 _ (10 : Int32) C3 (by simp only [if_neg c123])
        · refine C3.iload at_81 rfl rfl ?_
          have J92 : ∀ (T17 : State) (u16 : Int32), Cx p l e room_1 m #[(.int i0), (.int i1), (.int i2), (.int i3), (.long j4)] below meth c Z x code maxLocals ret n0 false F T17 h0 0 0 → u16 = (if u2 = (0 : Int32) then i2 else (10 : Int32)) → Go p e below F n0 (fun v _ => v = some (.int (1 : Int32))) T17 (mkF m 92 #[.val (.int i0), .val (.int i1), .val (.int i2), .val (.int i3), .val (.long j4), .second, .val (.int v1), .val (.int u2), .unset, .unset, .unset, .unset] [(.int u16)]) := by
            intro T17 u16 C17 hu16
            refine C17.istore at_92 rfl (L' := #[.val (.int i0), .val (.int i1), .val (.int i2), .val (.int i3), .val (.long j4), .second, .val (.int v1), .val (.int u2), .unset, .unset, .val (.int u16), .unset]) rfl ?_
            refine C17.iconst (2 : Int32) at_94 rfl rfl ?_
            refine C17.newarr (hw _ (List.mem_of_getElem? (i := 0) rfl)) 2 (by decide) (by decide) (by decide) (by decide) (by decide) at_95 rfl (fun T18 h18 b18 k18 C18 e18 g_b18 E18 V_b18 => ?_)
            have V_b18 : Arv Z h18 b18 k18 .byte (2 : Int32) [(.int (0 : Int32)), (.int (0 : Int32))] (.int (0 : Int32)) := V_b18
            refine C18.dup at_97 rfl rfl ?_
            refine C18.iconst (0 : Int32) at_98 rfl rfl ?_
            refine C18.iloadN at_99 rfl rfl ?_
            refine C18.i2b at_100 rfl ?_
            refine C18.bastore V_b18 ⟨by decide, by decide⟩ (Nat.le_of_ble_eq_true rfl) g_b18 at_101 rfl (fun T19 h19 C19 W19 Vn19 => ?_)
            have V_b18 : Arv Z h19 b18 k18 .byte (2 : Int32) [(.int (nar .byte (i1.toInt8.toInt32))), (.int (0 : Int32))] (.int (0 : Int32)) := Vn19
            refine C19.dup at_102 rfl rfl ?_
            refine C19.iconst (1 : Int32) at_103 rfl rfl ?_
            refine C19.iload at_104 rfl rfl ?_
            refine C19.i2b at_106 rfl ?_
            refine C19.bastore V_b18 ⟨by decide, by decide⟩ (Nat.le_of_ble_eq_true rfl) g_b18 at_107 rfl (fun T20 h20 C20 W20 Vn20 => ?_)
            have V_b18 : Arv Z h20 b18 k18 .byte (2 : Int32) [(.int (nar .byte (i1.toInt8.toInt32))), (.int (nar .byte (u16.toInt8.toInt32)))] (.int (0 : Int32)) := Vn20
            refine C20.astore at_108 rfl rfl (L' := #[.val (.int i0), .val (.int i1), .val (.int i2), .val (.int i3), .val (.long j4), .second, .val (.int v1), .val (.int u2), .val (.ref b18), .unset, .val (.int u16), .unset]) rfl ?_
            refine C20.iload at_110 rfl rfl ?_
            refine C20.sipush (255 : Int32) at_112 rfl rfl ?_
            refine C20.iand at_115 rfl ?_
            refine C20.istoreV (fun v => #[.val (.int i0), .val (.int i1), .val (.int i2), .val (.int i3), .val (.long j4), .second, .val (.int v1), .val (.int u2), .val (.ref b18), .val (.int v), .val (.int u16), .unset]) at_116 rfl (fun _ => rfl) (fun v21 hv21 => ?_)
            refine C20.goto at_118 (by decide) (by decide : _ = 163) ?_
            refine C20.iload at_163 rfl rfl ?_
            have J180 : ∀ (T23 : State) (u22 : Int32), Cx p l e room_1 m #[(.int i0), (.int i1), (.int i2), (.int i3), (.long j4)] below meth c Z x code maxLocals ret n0 false F T23 h20 1 2 → u22 = (if (0 : Int32) < v1 then (if v21 = (10 : Int32) then (1 : Int32) else (0 : Int32)) else (0 : Int32)) → Go p e below F n0 (fun v _ => v = some (.int (1 : Int32))) T23 (mkF m 180 #[.val (.int i0), .val (.int i1), .val (.int i2), .val (.int i3), .val (.long j4), .second, .val (.int v1), .val (.int u2), .val (.ref b18), .val (.int v21), .val (.int u16), .unset] [(.int u22)]) := by
              intro T23 u22 C23 hu22
              refine C23.istore at_180 rfl (L' := #[.val (.int i0), .val (.int i1), .val (.int i2), .val (.int i3), .val (.long j4), .second, .val (.int v1), .val (.int u2), .val (.ref b18), .val (.int v21), .val (.int u22), .unset]) rfl ?_
              refine C23.new (hw _ (List.mem_of_getElem? (i := 1) rfl)) (hw _ (List.mem_of_getElem? (i := 2) rfl)) (hw _ (List.mem_of_getElem? (i := 3) rfl)) at_182 rfl (by decide) (by decide) (fun T24 h24 b24 C24 e24 g_b24 E24 E_b24 D24 => ?_)
              have ne_b18_b24 : b18 ≠ b24 := Nat.ne_of_lt (Nat.lt_of_lt_of_eq V_b18.lt e24.symm)
              have V_b18 := V_b18.ext E24
              have F_b24_bytes : Fld Z h24 b24 "com/example/leeway/leeway/service/JournalLine$Line" "bytes" "[B" .null := D24 (Or.inr (hw _ (List.mem_of_getElem? (i := 16) rfl))) (ty := (.array .byte)) (by decide)
              have F_b24_length : Fld Z h24 b24 "com/example/leeway/leeway/service/JournalLine$Line" "length" "J" (.long (0 : Int64)) := D24 (Or.inr (hw _ (List.mem_of_getElem? (i := 18) rfl))) (ty := .long) (by decide)
              refine C24.dup at_185 rfl rfl ?_
              refine C24.aload at_186 rfl rfl rfl ?_
              refine C24.lload at_188 rfl rfl ?_
              refine C24.callN rfl (hw _ (List.mem_of_getElem? (i := 4) rfl)) (hw _ (List.mem_of_getElem? (i := 5) rfl)) (hw _ (List.mem_of_getElem? (i := 3) rfl)) (hw _ (List.mem_of_getElem? (i := 6) rfl)) (by decide) (a := b24) (rm1 l Z a0 hw b24 b18 j4 .null (.long (0 : Int64)) h24 n0 C24.size E_b24 F_b24_bytes F_b24_length g_b24) (argsL := [(.ref b18), (.long j4)]) pd1 rfl 1 (by decide) (by decide) (by decide) (by decide) (rest := [(.ref b24)]) rfl rfl (Nat.le_of_eq rfl) at_190 rfl (fun v25 T25 h25 C25 qq25 => ?_)
              obtain ⟨rfl, K25, p25_0, p25_1⟩ := qq25
              have V_b18 := V_b18.keep K25 (ninS ne_b18_b24 nin0)
              have E_b24 := E_b24.keep K25
              have E_b24 := p25_0
              have F_b24_bytes := p25_1
              show Go p e below F n0 (fun v _ => v = some (.int (1 : Int32))) T25 (mkF m 193 #[.val (.int i0), .val (.int i1), .val (.int i2), .val (.int i3), .val (.long j4), .second, .val (.int v1), .val (.int u2), .val (.ref b18), .val (.int v21), .val (.int u22), .unset] [(.ref b24)])
              refine C25.astore at_193 rfl rfl (L' := #[.val (.int i0), .val (.int i1), .val (.int i2), .val (.int i3), .val (.long j4), .second, .val (.int v1), .val (.int u2), .val (.ref b18), .val (.int v21), .val (.int u22), .val (.ref b24)]) rfl ?_
              refine C25.aload at_195 rfl rfl rfl ?_
              refine C25.callV (hw _ (List.mem_of_getElem? (i := 19) rfl)) (hw _ (List.mem_of_getElem? (i := 20) rfl)) (hw _ (List.mem_of_getElem? (i := 22) rfl)) (hw _ (List.mem_of_getElem? (i := 21) rfl)) (hw _ (List.mem_of_getElem? (i := 3) rfl)) (hw _ (List.mem_of_getElem? (i := 23) rfl)) E_b24 (by decide) (a := b24) (rm4 l Z a0 hw b24 b18 k18 (2 : Int32) [(.int (nar .byte (i1.toInt8.toInt32))), (.int (nar .byte (u16.toInt8.toInt32)))] (.int (0 : Int32)) (nar .byte (u16.toInt8.toInt32)) h25 n0 C25.size F_b24_bytes V_b18 rfl) (argsL := []) pd4 rfl 0 (by decide) (by decide) (by decide) (by decide) (rest := []) rfl rfl (Nat.le_of_eq rfl) at_197 rfl (fun v26 T26 h26 C26 qq26 => ?_)
              obtain ⟨rfl, hh26⟩ := qq26
              have hh26 := hh26.symm; subst hh26
              show Go p e below F n0 (fun v _ => v = some (.int (1 : Int32))) T26 (mkF m 200 #[.val (.int i0), .val (.int i1), .val (.int i2), .val (.int i3), .val (.long j4), .second, .val (.int v1), .val (.int u2), .val (.ref b18), .val (.int v21), .val (.int u22), .val (.ref b24)] [(.int (f4 (2 : Int32) (nar .byte (u16.toInt8.toInt32))))])
              refine C26.iload at_200 rfl rfl ?_
              refine C26.icmp_ne at_202 (by decide) (by decide : _ = 209) rfl (fun c202 => ?_) (fun c202 => ?_)
              · refine C26.iconst (0 : Int32) at_209 rfl rfl ?_
                exact (own_bad1 i0 i1 i2 i3 j4 v1 u2 u16 v21 u22 hv1 hu2 hu16 hv21 hu22 c20 c37 c78 c202).elim
              · refine C26.iconst (1 : Int32) at_205 rfl rfl ?_
                refine C26.goto at_206 (by decide) (by decide : _ = 210) ?_
                exact C26.retN (t := .boolean) at_210 rfl (by simp) (by decide) (by decide) (w := (1 : Int32)) rfl rfl
            refine C20.if_le at_165 (by decide) (by decide : _ = 179) rfl (fun c165 => ?_) (fun c165 => ?_)
            · refine C20.iconst (0 : Int32) at_179 rfl rfl ?_
              exact J180 _ (0 : Int32) C20 (by simp only [if_neg c165])
            · refine C20.iload at_168 rfl rfl ?_
              refine C20.bipush (10 : Int32) at_170 rfl rfl ?_
              refine C20.icmp_ne at_172 (by decide) (by decide : _ = 179) rfl (fun c172 => ?_) (fun c172 => ?_)
              · refine C20.iconst (0 : Int32) at_179 rfl rfl ?_
                exact J180 _ (0 : Int32) C20 (by simp only [if_pos c165, if_neg c172])
              · refine C20.iconst (1 : Int32) at_175 rfl rfl ?_
                refine C20.goto at_176 (by decide) (by decide : _ = 180) ?_
                exact J180 _ (1 : Int32) C20 (by simp only [if_pos c165, if_pos c172])
          refine C3.if_eq at_83 (by decide) (by decide : _ = 91) rfl (fun c83 => ?_) (fun c83 => ?_)
          · refine C3.iloadN at_91 rfl rfl ?_
            exact J92 _ i2 C3 (by simp only [if_pos c83])
          · refine C3.bipush (10 : Int32) at_86 rfl rfl ?_
            refine C3.goto at_88 (by decide) (by decide : _ = 92) ?_
            exact J92 _ (10 : Int32) C3 (by simp only [if_neg c83])
      · refine C3.iload at_40 rfl rfl ?_
        have J51 : ∀ (T28 : State) (u27 : Int32), Cx p l e room_1 m #[(.int i0), (.int i1), (.int i2), (.int i3), (.long j4)] below meth c Z x code maxLocals ret n0 false F T28 h0 0 0 → u27 = (if u2 = (0 : Int32) then i1 else (10 : Int32)) → Go p e below F n0 (fun v _ => v = some (.int (1 : Int32))) T28 (mkF m 51 #[.val (.int i0), .val (.int i1), .val (.int i2), .val (.int i3), .val (.long j4), .second, .val (.int v1), .val (.int u2), .unset, .unset, .unset, .unset] [(.int u27)]) := by
          intro T28 u27 C28 hu27
          refine C28.istore at_51 rfl (L' := #[.val (.int i0), .val (.int i1), .val (.int i2), .val (.int i3), .val (.long j4), .second, .val (.int v1), .val (.int u2), .unset, .unset, .val (.int u27), .unset]) rfl ?_
          refine C28.iconst (1 : Int32) at_53 rfl rfl ?_
          refine C28.newarr (hw _ (List.mem_of_getElem? (i := 0) rfl)) 1 (by decide) (by decide) (by decide) (by decide) (by decide) at_54 rfl (fun T29 h29 b29 k29 C29 e29 g_b29 E29 V_b29 => ?_)
          have V_b29 : Arv Z h29 b29 k29 .byte (1 : Int32) [(.int (0 : Int32))] (.int (0 : Int32)) := V_b29
          refine C29.dup at_56 rfl rfl ?_
          refine C29.iconst (0 : Int32) at_57 rfl rfl ?_
          refine C29.iload at_58 rfl rfl ?_
          refine C29.i2b at_60 rfl ?_
          refine C29.bastore V_b29 ⟨by decide, by decide⟩ (Nat.le_of_ble_eq_true rfl) g_b29 at_61 rfl (fun T30 h30 C30 W30 Vn30 => ?_)
          have V_b29 : Arv Z h30 b29 k29 .byte (1 : Int32) [(.int (nar .byte (u27.toInt8.toInt32)))] (.int (0 : Int32)) := Vn30
          refine C30.astore at_62 rfl rfl (L' := #[.val (.int i0), .val (.int i1), .val (.int i2), .val (.int i3), .val (.long j4), .second, .val (.int v1), .val (.int u2), .val (.ref b29), .unset, .val (.int u27), .unset]) rfl ?_
          refine C30.iload at_64 rfl rfl ?_
          refine C30.sipush (255 : Int32) at_66 rfl rfl ?_
          refine C30.iand at_69 rfl ?_
          refine C30.istoreV (fun v => #[.val (.int i0), .val (.int i1), .val (.int i2), .val (.int i3), .val (.long j4), .second, .val (.int v1), .val (.int u2), .val (.ref b29), .val (.int v), .val (.int u27), .unset]) at_70 rfl (fun _ => rfl) (fun v31 hv31 => ?_)
          refine C30.goto at_72 (by decide) (by decide : _ = 163) ?_
          refine C30.iload at_163 rfl rfl ?_
          have J180 : ∀ (T33 : State) (u32 : Int32), Cx p l e room_1 m #[(.int i0), (.int i1), (.int i2), (.int i3), (.long j4)] below meth c Z x code maxLocals ret n0 false F T33 h30 1 1 → u32 = (if (0 : Int32) < v1 then (if v31 = (10 : Int32) then (1 : Int32) else (0 : Int32)) else (0 : Int32)) → Go p e below F n0 (fun v _ => v = some (.int (1 : Int32))) T33 (mkF m 180 #[.val (.int i0), .val (.int i1), .val (.int i2), .val (.int i3), .val (.long j4), .second, .val (.int v1), .val (.int u2), .val (.ref b29), .val (.int v31), .val (.int u27), .unset] [(.int u32)]) := by
            intro T33 u32 C33 hu32
            refine C33.istore at_180 rfl (L' := #[.val (.int i0), .val (.int i1), .val (.int i2), .val (.int i3), .val (.long j4), .second, .val (.int v1), .val (.int u2), .val (.ref b29), .val (.int v31), .val (.int u32), .unset]) rfl ?_
            refine C33.new (hw _ (List.mem_of_getElem? (i := 1) rfl)) (hw _ (List.mem_of_getElem? (i := 2) rfl)) (hw _ (List.mem_of_getElem? (i := 3) rfl)) at_182 rfl (by decide) (by decide) (fun T34 h34 b34 C34 e34 g_b34 E34 E_b34 D34 => ?_)
            have ne_b29_b34 : b29 ≠ b34 := Nat.ne_of_lt (Nat.lt_of_lt_of_eq V_b29.lt e34.symm)
            have V_b29 := V_b29.ext E34
            have F_b34_bytes : Fld Z h34 b34 "com/example/leeway/leeway/service/JournalLine$Line" "bytes" "[B" .null := D34 (Or.inr (hw _ (List.mem_of_getElem? (i := 16) rfl))) (ty := (.array .byte)) (by decide)
            have F_b34_length : Fld Z h34 b34 "com/example/leeway/leeway/service/JournalLine$Line" "length" "J" (.long (0 : Int64)) := D34 (Or.inr (hw _ (List.mem_of_getElem? (i := 18) rfl))) (ty := .long) (by decide)
            refine C34.dup at_185 rfl rfl ?_
            refine C34.aload at_186 rfl rfl rfl ?_
            refine C34.lload at_188 rfl rfl ?_
            refine C34.callN rfl (hw _ (List.mem_of_getElem? (i := 4) rfl)) (hw _ (List.mem_of_getElem? (i := 5) rfl)) (hw _ (List.mem_of_getElem? (i := 3) rfl)) (hw _ (List.mem_of_getElem? (i := 6) rfl)) (by decide) (a := b34) (rm1 l Z a0 hw b34 b29 j4 .null (.long (0 : Int64)) h34 n0 C34.size E_b34 F_b34_bytes F_b34_length g_b34) (argsL := [(.ref b29), (.long j4)]) pd1 rfl 1 (by decide) (by decide) (by decide) (by decide) (rest := [(.ref b34)]) rfl rfl (Nat.le_of_eq rfl) at_190 rfl (fun v35 T35 h35 C35 qq35 => ?_)
            obtain ⟨rfl, K35, p35_0, p35_1⟩ := qq35
            have V_b29 := V_b29.keep K35 (ninS ne_b29_b34 nin0)
            have E_b34 := E_b34.keep K35
            have E_b34 := p35_0
            have F_b34_bytes := p35_1
            show Go p e below F n0 (fun v _ => v = some (.int (1 : Int32))) T35 (mkF m 193 #[.val (.int i0), .val (.int i1), .val (.int i2), .val (.int i3), .val (.long j4), .second, .val (.int v1), .val (.int u2), .val (.ref b29), .val (.int v31), .val (.int u32), .unset] [(.ref b34)])
            refine C35.astore at_193 rfl rfl (L' := #[.val (.int i0), .val (.int i1), .val (.int i2), .val (.int i3), .val (.long j4), .second, .val (.int v1), .val (.int u2), .val (.ref b29), .val (.int v31), .val (.int u32), .val (.ref b34)]) rfl ?_
            refine C35.aload at_195 rfl rfl rfl ?_
            refine C35.callV (hw _ (List.mem_of_getElem? (i := 19) rfl)) (hw _ (List.mem_of_getElem? (i := 20) rfl)) (hw _ (List.mem_of_getElem? (i := 22) rfl)) (hw _ (List.mem_of_getElem? (i := 21) rfl)) (hw _ (List.mem_of_getElem? (i := 3) rfl)) (hw _ (List.mem_of_getElem? (i := 23) rfl)) E_b34 (by decide) (a := b34) (rm4 l Z a0 hw b34 b29 k29 (1 : Int32) [(.int (nar .byte (u27.toInt8.toInt32)))] (.int (0 : Int32)) (nar .byte (u27.toInt8.toInt32)) h35 n0 C35.size F_b34_bytes V_b29 rfl) (argsL := []) pd4 rfl 0 (by decide) (by decide) (by decide) (by decide) (rest := []) rfl rfl (Nat.le_of_eq rfl) at_197 rfl (fun v36 T36 h36 C36 qq36 => ?_)
            obtain ⟨rfl, hh36⟩ := qq36
            have hh36 := hh36.symm; subst hh36
            show Go p e below F n0 (fun v _ => v = some (.int (1 : Int32))) T36 (mkF m 200 #[.val (.int i0), .val (.int i1), .val (.int i2), .val (.int i3), .val (.long j4), .second, .val (.int v1), .val (.int u2), .val (.ref b29), .val (.int v31), .val (.int u32), .val (.ref b34)] [(.int (f4 (1 : Int32) (nar .byte (u27.toInt8.toInt32))))])
            refine C36.iload at_200 rfl rfl ?_
            refine C36.icmp_ne at_202 (by decide) (by decide : _ = 209) rfl (fun c202 => ?_) (fun c202 => ?_)
            · refine C36.iconst (0 : Int32) at_209 rfl rfl ?_
              exact (own_bad2 i0 i1 i2 i3 j4 v1 u2 u27 v31 u32 hv1 hu2 hu27 hv31 hu32 c20 c37 c202).elim
            · refine C36.iconst (1 : Int32) at_205 rfl rfl ?_
              refine C36.goto at_206 (by decide) (by decide : _ = 210) ?_
              exact C36.retN (t := .boolean) at_210 rfl (by simp) (by decide) (by decide) (w := (1 : Int32)) rfl rfl
          refine C30.if_le at_165 (by decide) (by decide : _ = 179) rfl (fun c165 => ?_) (fun c165 => ?_)
          · refine C30.iconst (0 : Int32) at_179 rfl rfl ?_
            exact J180 _ (0 : Int32) C30 (by simp only [if_neg c165])
          · refine C30.iload at_168 rfl rfl ?_
            refine C30.bipush (10 : Int32) at_170 rfl rfl ?_
            refine C30.icmp_ne at_172 (by decide) (by decide : _ = 179) rfl (fun c172 => ?_) (fun c172 => ?_)
            · refine C30.iconst (0 : Int32) at_179 rfl rfl ?_
              exact J180 _ (0 : Int32) C30 (by simp only [if_pos c165, if_neg c172])
            · refine C30.iconst (1 : Int32) at_175 rfl rfl ?_
              refine C30.goto at_176 (by decide) (by decide : _ = 180) ?_
              exact J180 _ (1 : Int32) C30 (by simp only [if_pos c165, if_pos c172])
        refine C3.if_eq at_42 (by decide) (by decide : _ = 50) rfl (fun c42 => ?_) (fun c42 => ?_)
        · refine C3.iloadN at_50 rfl rfl ?_
          exact J51 _ i1 C3 (by simp only [if_pos c42])
        · refine C3.bipush (10 : Int32) at_45 rfl rfl ?_
          refine C3.goto at_47 (by decide) (by decide : _ = 51) ?_
          exact J51 _ (10 : Int32) C3 (by simp only [if_neg c42])
    · refine C3.iconst (0 : Int32) at_23 rfl rfl ?_
      refine C3.newarr (hw _ (List.mem_of_getElem? (i := 0) rfl)) 0 (by decide) (by decide) (by decide) (by decide) (by decide) at_24 rfl (fun T37 h37 b37 k37 C37 e37 g_b37 E37 V_b37 => ?_)
      have V_b37 : Arv Z h37 b37 k37 .byte (0 : Int32) [] (.int (0 : Int32)) := V_b37
      refine C37.astore at_26 rfl rfl (L' := #[.val (.int i0), .val (.int i1), .val (.int i2), .val (.int i3), .val (.long j4), .second, .val (.int v1), .val (.int u2), .val (.ref b37), .unset, .unset, .unset]) rfl ?_
      refine C37.iconst (-1 : Int32) at_28 rfl rfl ?_
      refine C37.istore at_29 rfl (L' := #[.val (.int i0), .val (.int i1), .val (.int i2), .val (.int i3), .val (.long j4), .second, .val (.int v1), .val (.int u2), .val (.ref b37), .val (.int (-1 : Int32)), .unset, .unset]) rfl ?_
      refine C37.goto at_31 (by decide) (by decide : _ = 163) ?_
      refine C37.iload at_163 rfl rfl ?_
      have J180 : ∀ (T38 : State), Cx p l e room_1 m #[(.int i0), (.int i1), (.int i2), (.int i3), (.long j4)] below meth c Z x code maxLocals ret n0 false F T38 h37 1 0 → Go p e below F n0 (fun v _ => v = some (.int (1 : Int32))) T38 (mkF m 180 #[.val (.int i0), .val (.int i1), .val (.int i2), .val (.int i3), .val (.long j4), .second, .val (.int v1), .val (.int u2), .val (.ref b37), .val (.int (-1 : Int32)), .unset, .unset] [(.int (0 : Int32))]) := by
        intro T38 C38
        refine C38.istore at_180 rfl (L' := #[.val (.int i0), .val (.int i1), .val (.int i2), .val (.int i3), .val (.long j4), .second, .val (.int v1), .val (.int u2), .val (.ref b37), .val (.int (-1 : Int32)), .val (.int (0 : Int32)), .unset]) rfl ?_
        refine C38.new (hw _ (List.mem_of_getElem? (i := 1) rfl)) (hw _ (List.mem_of_getElem? (i := 2) rfl)) (hw _ (List.mem_of_getElem? (i := 3) rfl)) at_182 rfl (by decide) (by decide) (fun T39 h39 b39 C39 e39 g_b39 E39 E_b39 D39 => ?_)
        have ne_b37_b39 : b37 ≠ b39 := Nat.ne_of_lt (Nat.lt_of_lt_of_eq V_b37.lt e39.symm)
        have V_b37 := V_b37.ext E39
        have F_b39_bytes : Fld Z h39 b39 "com/example/leeway/leeway/service/JournalLine$Line" "bytes" "[B" .null := D39 (Or.inr (hw _ (List.mem_of_getElem? (i := 16) rfl))) (ty := (.array .byte)) (by decide)
        have F_b39_length : Fld Z h39 b39 "com/example/leeway/leeway/service/JournalLine$Line" "length" "J" (.long (0 : Int64)) := D39 (Or.inr (hw _ (List.mem_of_getElem? (i := 18) rfl))) (ty := .long) (by decide)
        refine C39.dup at_185 rfl rfl ?_
        refine C39.aload at_186 rfl rfl rfl ?_
        refine C39.lload at_188 rfl rfl ?_
        refine C39.callN rfl (hw _ (List.mem_of_getElem? (i := 4) rfl)) (hw _ (List.mem_of_getElem? (i := 5) rfl)) (hw _ (List.mem_of_getElem? (i := 3) rfl)) (hw _ (List.mem_of_getElem? (i := 6) rfl)) (by decide) (a := b39) (rm1 l Z a0 hw b39 b37 j4 .null (.long (0 : Int64)) h39 n0 C39.size E_b39 F_b39_bytes F_b39_length g_b39) (argsL := [(.ref b37), (.long j4)]) pd1 rfl 1 (by decide) (by decide) (by decide) (by decide) (rest := [(.ref b39)]) rfl rfl (Nat.le_of_eq rfl) at_190 rfl (fun v40 T40 h40 C40 qq40 => ?_)
        obtain ⟨rfl, K40, p40_0, p40_1⟩ := qq40
        have V_b37 := V_b37.keep K40 (ninS ne_b37_b39 nin0)
        have E_b39 := E_b39.keep K40
        have E_b39 := p40_0
        have F_b39_bytes := p40_1
        show Go p e below F n0 (fun v _ => v = some (.int (1 : Int32))) T40 (mkF m 193 #[.val (.int i0), .val (.int i1), .val (.int i2), .val (.int i3), .val (.long j4), .second, .val (.int v1), .val (.int u2), .val (.ref b37), .val (.int (-1 : Int32)), .val (.int (0 : Int32)), .unset] [(.ref b39)])
        refine C40.astore at_193 rfl rfl (L' := #[.val (.int i0), .val (.int i1), .val (.int i2), .val (.int i3), .val (.long j4), .second, .val (.int v1), .val (.int u2), .val (.ref b37), .val (.int (-1 : Int32)), .val (.int (0 : Int32)), .val (.ref b39)]) rfl ?_
        refine C40.aload at_195 rfl rfl rfl ?_
        refine C40.callV (hw _ (List.mem_of_getElem? (i := 19) rfl)) (hw _ (List.mem_of_getElem? (i := 20) rfl)) (hw _ (List.mem_of_getElem? (i := 22) rfl)) (hw _ (List.mem_of_getElem? (i := 21) rfl)) (hw _ (List.mem_of_getElem? (i := 3) rfl)) (hw _ (List.mem_of_getElem? (i := 23) rfl)) E_b39 (by decide) (a := b39) (rm4 l Z a0 hw b39 b37 k37 (0 : Int32) [] (.int (0 : Int32)) (0 : Int32) h40 n0 C40.size F_b39_bytes V_b37 rfl) (argsL := []) pd4 rfl 0 (by decide) (by decide) (by decide) (by decide) (rest := []) rfl rfl (Nat.le_of_eq rfl) at_197 rfl (fun v41 T41 h41 C41 qq41 => ?_)
        obtain ⟨rfl, hh41⟩ := qq41
        have hh41 := hh41.symm; subst hh41
        show Go p e below F n0 (fun v _ => v = some (.int (1 : Int32))) T41 (mkF m 200 #[.val (.int i0), .val (.int i1), .val (.int i2), .val (.int i3), .val (.long j4), .second, .val (.int v1), .val (.int u2), .val (.ref b37), .val (.int (-1 : Int32)), .val (.int (0 : Int32)), .val (.ref b39)] [(.int (f4 (0 : Int32) (0 : Int32)))])
        refine C41.iload at_200 rfl rfl ?_
        refine C41.icmp_ne at_202 (by decide) (by decide : _ = 209) rfl (fun c202 => ?_) (fun c202 => ?_)
        · refine C41.iconst (0 : Int32) at_209 rfl rfl ?_
          exact (own_bad3 i0 i1 i2 i3 j4 v1 u2 hv1 hu2 c20 c202).elim
        · refine C41.iconst (1 : Int32) at_205 rfl rfl ?_
          refine C41.goto at_206 (by decide) (by decide : _ = 210) ?_
          exact C41.retN (t := .boolean) at_210 rfl (by simp) (by decide) (by decide) (w := (1 : Int32)) rfl rfl
      refine C37.if_le at_165 (by decide) (by decide : _ = 179) rfl (fun c165 => ?_) (fun c165 => ?_)
      · refine C37.iconst (0 : Int32) at_179 rfl rfl ?_
        exact J180 _ C37
      · refine C37.iload at_168 rfl rfl ?_
        refine C37.bipush (10 : Int32) at_170 rfl rfl ?_
        refine C37.icmp_ne at_172 (by decide) (by decide : _ = 179) rfl (fun _ => ?_) (fun q => absurd q (by decide))
        refine C37.iconst (0 : Int32) at_179 rfl rfl ?_
        exact J180 _ C37
  refine C0.if_eq at_8 (by decide) (by decide : _ = 15) rfl (fun c8 => ?_) (fun c8 => ?_)
  · refine C0.iconst (0 : Int32) at_15 rfl rfl ?_
    exact J16 _ (0 : Int32) C0 (by simp only [if_pos c8])
  · refine C0.iconst (1 : Int32) at_11 rfl rfl ?_
    refine C0.goto at_12 (by decide) (by decide : _ = 16) ?_
    exact J16 _ (1 : Int32) C0 (by simp only [if_neg c8])
set_option maxRecDepth 65536 in
set_option maxHeartbeats 40000000 in
theorem comes_1 {Post : Tables → Env → Array Value → State → Outcome → State → Prop} (hpost : ∀ tb e args s v u, (limb_1_1.after args s (.returned v) u = true ∧ limb_1_2.after args s (.returned v) u = true ∧ True) → FrameEnd s (.returned v) u (Jvm.fieldLocs frame_1_writes args s ++ Jvm.arrayLocs frame_1_arrays args s ++ Jvm.staticLocs frame_1_statics s) 16 128 → Post tb e args s (.returned v) u) :
    ArmFor flags0 classFile x code maxLocals ret World_1 tables_1 room_1 Calls_1 rest_1 Pre_1 Post := by
  intro l hfl _ _ p e ha hc hk s m args below hf hA hF happ hP
  obtain ⟨hcalls, hrest, hpre⟩ := hP
  obtain ⟨-, -, -, hnamed, -, -, -, hat⟩ := (Spec.applies_iff hf).mp happ
  obtain ⟨hg, hn⟩ := and_e (Cond.before_iff.mp (show (Jvm.Cond.and given_1 narrow_1).before args s = true from hpre))
  obtain ⟨g1, g2⟩ := and_e hg
  obtain ⟨g3, g4⟩ := and_e g2
  obtain ⟨g5, g6⟩ := and_e g4
  obtain ⟨g7, g8⟩ := and_e g6
  obtain ⟨g9, g10⟩ := and_e g8
  obtain ⟨w0, w1, w2, w3, w4, rfl⟩ : ∃ w0 w1 w2 w3 w4 : Value, args = #[w0, w1, w2, w3, w4] := by
    have hs : args.size = 5 := by simpa [Cond.value, given_1] using g1
    obtain ⟨L⟩ := args
    match L, hs with
    | [w0, w1, w2, w3, w4], _ => exact ⟨w0, w1, w2, w3, w4, rfl⟩
  have hw := fun d (hd : d ∈ tables_1) => atoms_spec (ws := Jvm.Cond.code x code maxLocals ret :: tables_1) hat d (List.mem_cons_of_mem _ hd)
  have hfit : Fit s := fun {y c} hc i hi => by
    obtain ⟨ha, rfl⟩ := Array.getElem?_eq_some_iff.mp hc
    have q := List.all_eq_true.mp ((Array.all_eq_true_iff_forall_mem.mp hF) _ (Array.getElem_mem ha)) i (List.mem_range.mpr hi)
    simpa [Array.getElem?_eq_getElem hi] using q
  obtain ⟨i0, ei0⟩ := is_v g3
  obtain rfl : w0 = (.int i0) := Option.some.inj ei0
  obtain ⟨i1, ei1⟩ := is_v g5
  obtain rfl : w1 = (.int i1) := Option.some.inj ei1
  obtain ⟨i2, ei2⟩ := is_v g7
  obtain rfl : w2 = (.int i2) := Option.some.inj ei2
  obtain ⟨i3, ei3⟩ := is_v g9
  obtain rfl : w3 = (.int i3) := Option.some.inj ei3
  obtain ⟨i4, ei4⟩ := isL_v g10
  obtain rfl : w4 = (.long i4) := Option.some.inj ei4
  obtain ⟨n, o, h1, h2, h3, _, L, rfl, ⟨⟨rfl, -⟩, N⟩, hq⟩ := rm0 l s _ hw i0 i1 i2 i3 i4 s.heap s.heap.size (Nat.le_refl _) tables_1 p e ha hc hk s m _ below hf ((Spec.applies_iff_loose hf).mp happ).1 ⟨rfl, State.Warmed39.refl s, rfl⟩ trivial
  refine ⟨n, _, h1, h2, h3, hpost _ _ _ _ _ _ ⟨Cond.after_iff.mpr rfl, Cond.after_iff.mpr (eq_i res_at (Term.int_eval (1)) rfl), trivial⟩ ⟨hq.1, hq.2.1, (hq.2.2.sift fun y hy => Or.inr (N y hy)).mono (by decide) (by decide)⟩⟩
theorem main_1_1 : Claimed_1_1 := comes_1 fun _ _ _ _ _ _ h hF => ⟨h.1, hF⟩
theorem main_1_2 : Claimed_1_2 := comes_1 fun _ _ _ _ _ _ h hF => ⟨h.2.1, hF⟩
end Jvm.Pilot.@@N@@
namespace Jvm.Pilot.@@N@@
open Jvm Jvm.ClassFile Sem Op Lib Jvm.Free Jvm.Stand Jvm.Pilot.@@N@@.Jvm.D
/-! MADE BY PROGRAM (witnessworld.py) out of the Statement's table words and the real class files: 10 classes; the members and pool entries that the words name. The judged class is class 1, her method 1. -/
namespace start1
open Jvm.ClassFile
def u (s : String) : CpInfo := .utf8 (stringToUtf16 s)
/-- a pool by its gaps: so many unusable entries, then the entry; so many at the end -/
def gap : Nat → List CpInfo → List CpInfo
  | 0, r => r
  | n + 1, r => .unusable :: gap n r
def poolList (es : List (Nat × CpInfo)) (last : Nat) : List CpInfo := es.foldr (fun e r => gap e.1 (e.2 :: r)) (gap last [])
def pool (es : List (Nat × CpInfo)) (last : Nat) : Array CpInfo := ⟨poolList es last⟩
def fileOf (pool : Array CpInfo) (this : Nat) (attrs : Array Attribute := #[]) (ms : Array MethodInfo := #[]) (fl : Nat := 33) (sup : Nat := 0) (ifs : Array Nat := #[]) (fds : Array FieldInfo := #[]) : ClassFile where
  minorVersion := 0
  majorVersion := 65
  constantPool := pool
  accessFlags := fl
  thisClass := this
  superClass := sup
  interfaces := ifs
  fields := fds
  methods := ms
  attributes := attrs
def plain (name : String) (sup : Option ClassId) : Class where
  name := name
  kind := .ordinary
  loader := none
  accessFlags := 33
  super := sup
  interfaces := #[]
  cf := none
  fields := #[]
  methods := #[]
  instanceTypes := #[]
  staticTypes := #[]
  resolved := #[]
  callSites := []
  init := .initialized
  statics := none
  mirror := none

def pool0 : Array CpInfo := pool [(5, u "<init>"), (0, u "()V"), (1, .class_ 10), (1, u "java/lang/Object")] 113

def k0c0 : Code := { maxStack := 0, maxLocals := 1, code := object_method_1_code, exceptionTable := #[], attributes := #[] }
def k0m0 : Method := { name := "<init>", desc := "()V", sig := { parameters := [], returnType := none }, accessFlags := 1, code := some k0c0 }
/-- java/lang/Object -/
def k0 : Class := { plain "java/lang/Object" none with
  accessFlags := 33
  interfaces := #[]
  cf := some (fileOf pool0 8 #[] #[{ accessFlags := 1, nameIndex := 5, descriptorIndex := 6, attributes := #[] }] 33 0 #[] #[])
  fields := #[]
  methods := #[k0m0]
  instanceTypes := #[]
  staticTypes := #[]
  resolved := Array.replicate 124 none
  statics := none }

def pool1 : Array CpInfo := pool [(2, .class_ 4), (1, u "java/lang/Object"), (0, u "<init>"), (0, u "()V"), (0, .class_ 8), (0, u "com/example/leeway/leeway/service/JournalLine$Line"), (0, .methodref 7 10), (0, .nameAndType 5 11), (0, u "([BJ)V"), (0, .methodref 7 13), (0, .nameAndType 14 15), (0, u "ended"), (0, u "()Z"), (0, .class_ 17), (0, u "com/example/leeway/leeway/service/LineEndedPinLaw"), (2, u "law"), (0, u "(IIIIJ)Z")] 9

def k1m0 : Method := { name := "<init>", desc := "()V", sig := { parameters := [], returnType := none }, accessFlags := 2, code := none }
def k1c1 : Code := { maxStack := 5, maxLocals := 12, code := code, exceptionTable := #[], attributes := #[] }
def k1m1 : Method := { name := "law", desc := "(IIIIJ)Z", sig := { parameters := [.int, .int, .int, .int, .long], returnType := some .boolean }, accessFlags := 9, code := some k1c1 }
/-- com/example/leeway/leeway/service/LineEndedPinLaw -/
def k1 : Class := { plain "com/example/leeway/leeway/service/LineEndedPinLaw" (some 0) with
  accessFlags := 49
  interfaces := #[]
  cf := some (fileOf pool1 16 #[] #[{ accessFlags := 2, nameIndex := 5, descriptorIndex := 6, attributes := #[] }, { accessFlags := 9, nameIndex := 20, descriptorIndex := 21, attributes := #[] }] 49 2 #[] #[])
  fields := #[]
  methods := #[k1m0, k1m1]
  instanceTypes := #[]
  staticTypes := #[]
  resolved := Array.replicate 31 none
  statics := none }

def pool2 : Array CpInfo := pool [(1, .methodref 2 3), (0, .class_ 4), (0, .nameAndType 5 6), (0, u "java/lang/Object"), (0, u "<init>"), (0, u "()V"), (0, .class_ 8), (0, u "java/lang/Record")] 13

def k2c0 : Code := { maxStack := 1, maxLocals := 1, code := jdk_30_method_1_code, exceptionTable := #[], attributes := #[] }
def k2m0 : Method := { name := "<init>", desc := "()V", sig := { parameters := [], returnType := none }, accessFlags := 4, code := some k2c0 }
/-- java/lang/Record -/
def k2 : Class := { plain "java/lang/Record" (some 0) with
  accessFlags := 1057
  interfaces := #[]
  cf := some (fileOf pool2 7 #[] #[{ accessFlags := 4, nameIndex := 5, descriptorIndex := 6, attributes := #[] }] 1057 2 #[] #[])
  fields := #[]
  methods := #[k2m0]
  instanceTypes := #[]
  staticTypes := #[]
  resolved := Array.replicate 22 none
  statics := none }

def pool3 : Array CpInfo := pool [(1, .class_ 2), (0, u "com/example/leeway/leeway/service/JournalLine"), (0, .methodref 4 5), (0, .class_ 6), (0, .nameAndType 7 8), (0, u "java/lang/Record"), (0, u "<init>"), (0, u "()V"), (0, .fieldref 10 11), (0, .class_ 12), (0, .nameAndType 13 14), (0, u "com/example/leeway/leeway/service/JournalLine$Line"), (0, u "bytes"), (0, u "[B"), (0, .fieldref 10 16), (0, .nameAndType 17 18), (0, u "length"), (0, u "J"), (21, u "([BJ)V"), (51, u "()Z"), (1, u "ended")] 27

def k3c0 : Code := { maxStack := 3, maxLocals := 4, code := prog_135_method_1_code, exceptionTable := #[], attributes := #[] }
def k3m0 : Method := { name := "<init>", desc := "([BJ)V", sig := { parameters := [(.array .byte), .long], returnType := none }, accessFlags := 0, code := some k3c0 }
def k3c1 : Code := { maxStack := 3, maxLocals := 1, code := prog_135_method_4_code, exceptionTable := #[], attributes := #[] }
def k3m1 : Method := { name := "ended", desc := "()Z", sig := { parameters := [], returnType := some .boolean }, accessFlags := 0, code := some k3c1 }
/-- com/example/leeway/leeway/service/JournalLine$Line -/
def k3 : Class := { plain "com/example/leeway/leeway/service/JournalLine$Line" (some 2) with
  accessFlags := 48
  interfaces := #[]
  cf := some (fileOf pool3 10 #[.nestHost 1] #[{ accessFlags := 0, nameIndex := 7, descriptorIndex := 40, attributes := #[] }, { accessFlags := 0, nameIndex := 94, descriptorIndex := 92, attributes := #[] }] 48 4 #[] #[{ accessFlags := 18, nameIndex := 13, descriptorIndex := 14, attributes := #[] }, { accessFlags := 18, nameIndex := 17, descriptorIndex := 18, attributes := #[] }])
  fields := #[{ name := "bytes", type := (.array .byte), accessFlags := 18, slot := 0, constantValue := 0 }, { name := "length", type := .long, accessFlags := 18, slot := 1, constantValue := 0 }]
  methods := #[k3m0, k3m1]
  instanceTypes := #[(.array .byte), .long]
  staticTypes := #[]
  resolved := Array.replicate 122 none
  statics := none }

def pool4 : Array CpInfo := pool [(1, u "java/lang/Cloneable"), (0, .class_ 1), (0, u "java/lang/Object"), (0, .class_ 3)] 3

/-- java/lang/Cloneable -/
def k4 : Class := { plain "java/lang/Cloneable" (some 0) with
  accessFlags := 1537
  interfaces := #[]
  cf := some (fileOf pool4 2 #[] #[] 1537 4 #[] #[])
  fields := #[]
  methods := #[]
  instanceTypes := #[]
  staticTypes := #[]
  resolved := Array.replicate 8 none
  statics := none }

def pool5 : Array CpInfo := pool [(1, u "java/io/Serializable"), (0, .class_ 1), (0, u "java/lang/Object"), (0, .class_ 3)] 3

/-- java/io/Serializable -/
def k5 : Class := { plain "java/io/Serializable" (some 0) with
  accessFlags := 1537
  interfaces := #[]
  cf := some (fileOf pool5 2 #[] #[] 1537 4 #[] #[])
  fields := #[]
  methods := #[]
  instanceTypes := #[]
  staticTypes := #[]
  resolved := Array.replicate 8 none
  statics := none }

/-- the primitive byte -/
def k6 : Class := { plain "byte" none with kind := .primitive 'B', accessFlags := 0x411 }
/-- [B -/
def k7 : Class := { plain "[B" (some 0) with kind := .array 6 .byte, interfaces := #[4, 5], accessFlags := 1041 }

/-- the primitive int -/
def k8 : Class := { plain "int" none with kind := .primitive 'I', accessFlags := 0x411 }
/-- [I -/
def k9 : Class := { plain "[I" (some 0) with kind := .array 8 .int, interfaces := #[4, 5], accessFlags := 1041 }

def heap : Heap := #[]
def classes : Array Class := #[k0, k1, k2, k3, k4, k5, k6, k7, k8, k9]
def interned : List (Array UInt16 × Addr) := []
def slotsUsed : Nat := 0
def theMethod : MethodId := ⟨1, 1⟩
def args0 : Array Value := #[.int 5, .int 7, .int 9, .int 1, .long 3]
def aboutOver (below : List Frame) : State where
  vm := { classes := classes, interned := interned.toArray }
  heap := heap
  slotsUsed := slotsUsed
  threads := #[{ frames := .invoking theMethod args0 :: below }]
def below0 : List Frame := [.native { method := ⟨0, 0⟩, args := #[] }]
def about1 : State := aboutOver below0
def p0 : Program := .bare "" "" ""
def e0 : Env := launch0.env 0 0 0
theorem w_frames : about1.frames = Frame.invoking theMethod args0 :: below0 := rfl
set_option maxRecDepth 65536 in
theorem w_args : argsFit about1.vm theMethod args0 = true := by decide +kernel
set_option maxRecDepth 65536 in
theorem w_heap : heapFits about1 = true := by decide +kernel
set_option maxRecDepth 65536 in
theorem w_runnable : about1.curStatus? = some .runnable := by decide +kernel
set_option maxRecDepth 65536 in
theorem w_alone : about1.alone = true := by decide +kernel
set_option maxRecDepth 65536 in
theorem w_named : about1.methodNamed? x = some theMethod := by decide +kernel
set_option maxRecDepth 65536 in
theorem w_hears : about1.hears theMethod below0 = true := by decide +kernel
set_option maxRecDepth 65536 in
theorem w_ripe : about1.ripe theMethod args0 below0 = true := by decide +kernel
theorem w_running : about1.status = .running := rfl
set_option maxRecDepth 65536 in
theorem w_room : about1.hasRoom e0.platform room_1 = true :=
  launch0.hasRoom_least _ room_1 (by decide +kernel) (by decide +kernel) (by decide +kernel) (by decide +kernel) (by decide +kernel) (by decide +kernel)
theorem allAtoms_all (ts : List Jvm.Cond) (a : Array Jvm.Value) (st : Jvm.State) : (allAtoms ts).before a st = ts.all (fun c => c.before a st) := by
  induction ts with
  | nil => rfl
  | cons c t ih =>
    show (Jvm.Cond.and c (allAtoms t)).before a st = _
    rw [Jvm.Cond.before_and, ih, List.all_cons]
def words1 : List Jvm.Cond := Jvm.Cond.code x code maxLocals ret :: tables_1
/-- a 'code' word, met by the world's own term for the bytes: nothing is compared byte by byte -/
theorem code_word {y : MethodName} {bytes : ByteArray} {mx : Nat} {rt : Option FieldType} {a : Array Value} {s : State} {m : MethodId} {meth : Method} {c : Code} (h1 : s.methodNamed? y = some m) (h2 : s.vm.method? m = some meth) (h3 : meth.code = some c) (h4 : c.code = bytes)
    (h5 : (c.maxLocals == mx && c.exceptionTable.isEmpty && decide (c.maxStack ≤ mostOperands) && decide (meth.sig.returnType = rt) && !meth.locks && decide (parseMethodDescriptor y.desc = some meth.sig)) = true) : (Jvm.Cond.code y bytes mx rt).before a s = true := by
  simp only [Bool.and_eq_true, beq_iff_eq, Bool.not_eq_true', decide_eq_true_eq] at h5
  obtain ⟨⟨⟨⟨⟨g1, g2⟩, g3⟩, g4⟩, g5⟩, g6⟩ := h5
  simp [Cond.before, Cond.holds, Cond.value, h1, h2, h3, h4, g1, g2, g3, g4, g5, g6]
def isCode : Jvm.Cond → Bool
  | .code _ _ _ _ => true
  | _ => false
theorem all_split {L : List Jvm.Cond} {P : Jvm.Cond → Bool} (h1 : L.all (fun c => isCode c || P c) = true) (h2 : ∀ c ∈ L.filter isCode, P c = true) : L.all P = true := by
  refine List.all_eq_true.mpr fun c hc => ?_
  have h := List.all_eq_true.mp h1 c hc
  rcases Bool.eq_false_or_eq_true (isCode c) with hi | hi
  · exact h2 c (List.mem_filter.mpr ⟨hc, hi⟩)
  · simpa [hi] using h
set_option maxRecDepth 65536 in
theorem w_c0 : (Jvm.Cond.code x code maxLocals ret).before args0 about1 = true := code_word (m := ⟨1, 1⟩) (meth := k1m1) (c := k1c1) (by decide +kernel) rfl rfl rfl (by decide +kernel)
set_option maxRecDepth 65536 in
theorem w_c1 : (Jvm.Cond.code ({ cls := "com/example/leeway/leeway/service/JournalLine$Line", name := "<init>", desc := "([BJ)V" } : Jvm.MethodName) prog_135_method_1_code (4 : Nat) (Option.none : Option Jvm.ClassFile.FieldType)).before args0 about1 = true := code_word (m := ⟨3, 0⟩) (meth := k3m0) (c := k3c0) (by decide +kernel) rfl rfl rfl (by decide +kernel)
set_option maxRecDepth 65536 in
theorem w_c2 : (Jvm.Cond.code ({ cls := "java/lang/Record", name := "<init>", desc := "()V" } : Jvm.MethodName) jdk_30_method_1_code (1 : Nat) (Option.none : Option Jvm.ClassFile.FieldType)).before args0 about1 = true := code_word (m := ⟨2, 0⟩) (meth := k2m0) (c := k2c0) (by decide +kernel) rfl rfl rfl (by decide +kernel)
set_option maxRecDepth 65536 in
theorem w_c3 : (Jvm.Cond.code ({ cls := "java/lang/Object", name := "<init>", desc := "()V" } : Jvm.MethodName) object_method_1_code (1 : Nat) (Option.none : Option Jvm.ClassFile.FieldType)).before args0 about1 = true := code_word (m := ⟨0, 0⟩) (meth := k0m0) (c := k0c0) (by decide +kernel) rfl rfl rfl (by decide +kernel)
set_option maxRecDepth 65536 in
theorem w_c4 : (Jvm.Cond.code ({ cls := "com/example/leeway/leeway/service/JournalLine$Line", name := "ended", desc := "()Z" } : Jvm.MethodName) prog_135_method_4_code (1 : Nat) (Option.some Jvm.ClassFile.FieldType.boolean)).before args0 about1 = true := code_word (m := ⟨3, 1⟩) (meth := k3m1) (c := k3c1) (by decide +kernel) rfl rfl rfl (by decide +kernel)
def codes1 : List Jvm.Cond := [Jvm.Cond.code x code maxLocals ret, Jvm.Cond.code ({ cls := "com/example/leeway/leeway/service/JournalLine$Line", name := "<init>", desc := "([BJ)V" } : Jvm.MethodName) prog_135_method_1_code (4 : Nat) (Option.none : Option Jvm.ClassFile.FieldType), Jvm.Cond.code ({ cls := "java/lang/Record", name := "<init>", desc := "()V" } : Jvm.MethodName) jdk_30_method_1_code (1 : Nat) (Option.none : Option Jvm.ClassFile.FieldType), Jvm.Cond.code ({ cls := "java/lang/Object", name := "<init>", desc := "()V" } : Jvm.MethodName) object_method_1_code (1 : Nat) (Option.none : Option Jvm.ClassFile.FieldType), Jvm.Cond.code ({ cls := "com/example/leeway/leeway/service/JournalLine$Line", name := "ended", desc := "()Z" } : Jvm.MethodName) prog_135_method_4_code (1 : Nat) (Option.some Jvm.ClassFile.FieldType.boolean)]
set_option maxRecDepth 65536 in
theorem codes_eq : words1.filter isCode = codes1 := rfl
theorem w_codes : ∀ c ∈ words1.filter isCode, c.before args0 about1 = true := by
  rw [codes_eq]
  intro c hc
  simp only [codes1, List.mem_cons, List.not_mem_nil, or_false] at hc
  rcases hc with rfl | rfl | rfl | rfl | rfl
  · exact w_c0
  · exact w_c1
  · exact w_c2
  · exact w_c3
  · exact w_c4
set_option maxRecDepth 65536 in
theorem w_t1 : (words1.take 24).all (fun c => isCode c || c.before args0 about1) = true := by decide +kernel
set_option maxRecDepth 65536 in
theorem w_t2 : (words1.drop 24).all (fun c => isCode c || c.before args0 about1) = true := by decide +kernel
theorem w_tables : (allAtoms (Jvm.Cond.code x code maxLocals ret :: tables_1)).before args0 about1 = true := by
  rw [allAtoms_all]
  show words1.all (fun c => c.before args0 about1) = true
  refine all_split ?_ w_codes
  rw [← List.take_append_drop 24 words1, List.all_append, w_t1, w_t2]
  rfl
set_option maxRecDepth 65536 in
theorem w_case : (Jvm.Cond.and given_1 narrow_1).before args0 about1 = true := by decide +kernel
theorem w_applies : (headSpec (Jvm.Cond.code x code maxLocals ret :: tables_1) room_1).applies x e0.platform about1 = true :=
  (Spec.applies_iff w_frames).mpr ⟨w_running, w_runnable, w_alone, w_named, w_hears, w_ripe, w_room, w_tables⟩
theorem atStart : AtStart classFile x code maxLocals ret World_1 tables_1 room_1 Calls_1 rest_1 Pre_1 launch0 p0 e0 about1 theMethod args0 below0 :=
  ⟨lists_1, trivial, launch0.admits_env _ _ _, launch0.least_env, fairChoices_fair.cas, fairChoices_fair.clock, w_frames, w_args, w_heap, w_applies, trivial, trivial, w_case⟩
end start1
theorem witness_1 : WitnessClaimed_1 := ⟨start1.p0, start1.e0, start1.about1, start1.theMethod, start1.args0, start1.below0, start1.atStart⟩
end Jvm.Pilot.@@N@@
