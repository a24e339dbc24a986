import JvmDerived
import JvmDerived.Pilot.@@N@@Statement
import JvmDerived.Pilot.@@N@@Code
set_option linter.unusedVariables false
set_option linter.unusedSimpArgs false
namespace Jvm.Pilot.@@N@@
open Jvm Jvm.ClassFile Sem Op Lib Jvm.Free Jvm.Stand Jvm.LawKit Jvm.RoadKit Bundle Jvm.Pilot.@@N@@.Jvm.D
/-! my own words: Go (the run comes from T to a state with P), a step, a return -/
def Go (tb : Tables) (e : Env) (below : List Frame) (P : State → Prop) (T : State) : Prop := ∃ u, P u ∧ ∀ t, Steps tb e below u t → Steps tb e below T t
theorem Go.by' {tb : Tables} {e : Env} {below : List Frame} {P : State → Prop} {T T' : State} (h : ∀ t, Steps tb e below T' t → Steps tb e below T t) (k : Go tb e below P T') : Go tb e below P T :=
  k.elim fun u q => ⟨u, q.1, fun t z => h t (q.2 t z)⟩
theorem Go.cast {tb : Tables} {e : Env} {below : List Frame} {P : State → Prop} {T : State} {g g' : JFrame} (q : g = g') (k : Go tb e below P (T.setTop g')) : Go tb e below P (T.setTop g) := q ▸ k
def Fin' (s : State) (below : List Frame) (ce sl : Nat) (Q : Option Value → Heap → List Loc → Prop) (u : State) : Prop := u.status = .running ∧ ∃ o, Ended u below o ∧ ∃ v L, o = .returned v ∧ Q v u.heap L ∧ FrameEnd s o u L ce sl
theorem Go.body {tb : Tables} {e : Env} {below : List Frame} {s : State} {ce sl : Nat} {Q : Option Value → Heap → List Loc → Prop} {T : State} (h : Go tb e below (Fin' s below ce sl Q) T) :
    ∃ s₂ o, Steps tb e below T s₂ ∧ s₂.status = .running ∧ Ended s₂ below o ∧ ∃ v L, o = .returned v ∧ Q v s₂.heap L ∧ FrameEnd s o s₂ L ce sl := by
  obtain ⟨u, ⟨h1, o, h2, h3⟩, h4⟩ := h
  exact ⟨u, o, h4 u (Steps.refl _), h1, h2, h3⟩
section OwnStand
variable {p : Program} {l : Launch} {e : Env} {R : Room} {s : State} {m : MethodId} {args : Array Value} {below : List Frame} {meth : Method} {c : Code} {T : State} {locs : List Loc} {cells slots : Nat}
def Like (X : Stand p l e R s m args below meth c T locs cells slots) (T' : State) : Prop := Stand p l e R s m args below meth c T' locs cells slots
theorem Go.out (X : Stand p l e R s m args below meth c T locs cells slots) {v : Option Value} (hv : meth.sig.returnType = none → v = none) (hlocks : meth.locks = false) {g : JFrame} {ce sl : Nat} {Q : Option Value → Heap → List Loc → Prop}
    (st : ∀ fs : List Frame, (∀ (f : JFrame) (acts : List Action), f.method = m → f.locked = none → f.entered = [] → (doReturn e (T.setTop f) acts v).1 = T.setFrames fs) → Steps p.tables e below (T.setTop g) (T.setFrames fs))
    (hc : cells ≤ ce) (hs : slots ≤ sl) (q : Q v T.heap locs) : Go p.tables e below (Fin' s below ce sl Q) (T.setTop g) := by
  obtain ⟨fs, hr, hrun, hended, hW, hsame⟩ := X.leave (v := v) hv hlocks
  exact ⟨T.setFrames fs, ⟨hrun, _, hended, v, locs, rfl, q, ⟨_, rfl⟩, hW, hsame.mono hc hs⟩, fun t k => (st fs hr).trans k⟩
theorem Go.retI' (X : Stand p l e R s m args below meth c T locs cells slots) (hx : p.tables.exec = Jvm.exec) {pc : Nat} {Ls : Array Slot} {z : Int32} {rest : List Value} {t : FieldType} (hret : meth.sig.returnType = some t) (hlocks : meth.locks = false)
    (ht : t = .int ∨ t = .boolean ∨ t = .byte ∨ t = .char ∨ t = .short) (hn : narrow t (.int z) = .int z) (hd : decode c.code pc = .ok (.ireturn, 1)) {ce sl : Nat} {Q : Option Value → Heap → List Loc → Prop} (hc : cells ≤ ce) (hs : slots ≤ sl) (q : Q (some (.int z)) T.heap locs) :
    Go p.tables e below (Fin' s below ce sl Q) (T.setTop (mkF m pc Ls (.int z :: rest))) :=
  Go.out X (fun h => by rw [hret] at h; cases h) hlocks (fun _ hl => retOut X hx hret hn (Or.inl ⟨rfl, ht, z, rfl⟩) hd hl) hc hs q
theorem Go.retA' (X : Stand p l e R s m args below meth c T locs cells slots) (hx : p.tables.exec = Jvm.exec) {pc : Nat} {Ls : Array Slot} {w : Value} {rest : List Value} {t : FieldType} (hret : meth.sig.returnType = some t) (hlocks : meth.locks = false)
    (ht : t.isReference = true) (hw : w.isRef = true) (hd : decode c.code pc = .ok (.areturn, 1)) {ce sl : Nat} {Q : Option Value → Heap → List Loc → Prop} (hc : cells ≤ ce) (hs : slots ≤ sl) (q : Q (some w) T.heap locs) :
    Go p.tables e below (Fin' s below ce sl Q) (T.setTop (mkF m pc Ls (w :: rest))) :=
  Go.out X (fun h => by rw [hret] at h; cases h) hlocks (fun _ hl => retOut X hx hret (by cases t <;> first | (cases ht; done) | (rcases ref_cases hw with rfl | ⟨z, rfl⟩ <;> rfl)) (Or.inr (Or.inr (Or.inr (Or.inr ⟨rfl, ht, hw⟩)))) hd hl) hc hs q
theorem Go.retD' (X : Stand p l e R s m args below meth c T locs cells slots) (hx : p.tables.exec = Jvm.exec) {pc : Nat} {Ls : Array Slot} {z : UInt64} {rest : List Value} (hret : meth.sig.returnType = some .double) (hlocks : meth.locks = false)
    (hd : decode c.code pc = .ok (.dreturn, 1)) {ce sl : Nat} {Q : Option Value → Heap → List Loc → Prop} (hc : cells ≤ ce) (hs : slots ≤ sl) (q : Q (some (.double z)) T.heap locs) :
    Go p.tables e below (Fin' s below ce sl Q) (T.setTop (mkF m pc Ls (.double z :: rest))) :=
  Go.out X (fun h => by rw [hret] at h; cases h) hlocks (fun _ hl => retOut X hx hret rfl (Or.inr (Or.inr (Or.inl ⟨rfl, rfl, z, rfl⟩))) hd hl) hc hs q
theorem Go.retV' (X : Stand p l e R s m args below meth c T locs cells slots) (hx : p.tables.exec = Jvm.exec) {pc : Nat} {Ls : Array Slot} (hret : meth.sig.returnType = none) (hlocks : meth.locks = false)
    (hd : decode c.code pc = .ok (.return_, 1)) {ce sl : Nat} {Q : Option Value → Heap → List Loc → Prop} (hc : cells ≤ ce) (hs : slots ≤ sl) (q : Q none T.heap locs) :
    Go p.tables e below (Fin' s below ce sl Q) (T.setTop (mkF m pc Ls [])) :=
  Go.out X (fun _ => rfl) hlocks (fun _ hl => X.returnOut hx hret hd hl) hc hs q
end OwnStand
theorem own_nb {z : Int32} (h : z = 0 ∨ z = 1) : narrow .boolean (.int z) = .int z := by rcases h with rfl | rfl <;> rfl
theorem own_fb {z : Int32} (h : z = 0 ∨ z = 1) : fits .boolean (.int z) = true := by rcases h with rfl | rfl <;> rfl
theorem own_bb {x : Int32} : nar .byte (x.toInt8.toInt32) = x.toInt8.toInt32 := by show x.toInt8.toInt32.toInt8.toInt32 = x.toInt8.toInt32; simp
theorem own_nm (x : Int32) : nar .char (x &&& (255 : Int32)) = (x &&& (255 : Int32)) := i2c_mask x
theorem own_i2c {x : Int32} (h0 : ¬ x < (0 : Int32)) (h1 : ¬ (255 : Int32) < x) : x.toUInt32.toUInt16.toUInt32.toInt32 = x := by
  have a := c_i2c x
  have z0 : (0 : Int32).toInt = 0 := rfl
  have z1 : (255 : Int32).toInt = 255 := rfl
  rw [Int32.lt_iff_toInt_lt] at h0 h1
  rw [← Int32.toInt_inj]; omega
theorem own_nc {x : Int32} (h0 : ¬ x < (0 : Int32)) (h1 : ¬ (255 : Int32) < x) : nar .char x = x := own_i2c h0 h1
theorem own_b8 {x y : Int32} (h0 : ¬ x < (0 : Int32)) (h1 : ¬ (255 : Int32) < x) (h2 : ¬ y < (0 : Int32)) (h3 : ¬ (255 : Int32) < y) : (x.toInt8.toInt32) = (y.toInt8.toInt32) ↔ x = y := by
  have a := c_i2b x
  have b := c_i2b y
  have z0 : (0 : Int32).toInt = 0 := rfl
  have z1 : (255 : Int32).toInt = 255 := rfl
  rw [Int32.lt_iff_toInt_lt] at h0 h1 h2 h3
  rw [← Int32.toInt_inj, ← Int32.toInt_inj]; omega
theorem own_m (x : Int32) : ¬ (x &&& (255 : Int32)) < (0 : Int32) ∧ ¬ (255 : Int32) < (x &&& (255 : Int32)) := by
  have h := c_mask x 255 8 (by decide) (by decide)
  have z0 : (0 : Int32).toInt = 0 := rfl
  have z1 : (255 : Int32).toInt = 255 := rfl
  rw [Int32.lt_iff_toInt_lt, Int32.lt_iff_toInt_lt]; omega
theorem own_le {Z : State} {n0 : Nat} {h : Heap} (X : Old Z n0 h) : n0 ≤ h.size := X.1 ▸ X.2.1
def Gh (Z : State) (wE : Addr) (wB : Addr) (wA : Addr) : Prop := (Sta Z Z.heap "com/example/libfnseq/libfnseq/NumericValue$Relation" "EQUAL" "Lcom/example/libfnseq/libfnseq/NumericValue$Relation;" (.ref wE)) ∧ (Exa Z Z.heap wE "com/example/libfnseq/libfnseq/NumericValue$Relation") ∧ (Sta Z Z.heap "com/example/libfnseq/libfnseq/NumericValue$Relation" "BELOW" "Lcom/example/libfnseq/libfnseq/NumericValue$Relation;" (.ref wB)) ∧ (Exa Z Z.heap wB "com/example/libfnseq/libfnseq/NumericValue$Relation") ∧ (Sta Z Z.heap "com/example/libfnseq/libfnseq/NumericValue$Relation" "ABOVE" "Lcom/example/libfnseq/libfnseq/NumericValue$Relation;" (.ref wA)) ∧ (Exa Z Z.heap wA "com/example/libfnseq/libfnseq/NumericValue$Relation") ∧ (wE ≠ wB) ∧ (wE ≠ wA) ∧ (wB ≠ wA)
theorem own_i0 : (0 : Int32).toInt = 0 := rfl
theorem own_i1 : (1 : Int32).toInt = 1 := rfl
theorem own_im : (-1 : Int32).toInt = -1 := rfl
theorem own_b53 (x : Int32) : B53 x.toInt64 := by
  unfold B53; rw [Int32.toInt_toInt64]; have := x.le_toInt; have := x.toInt_lt; omega
theorem own_dc (x y : Int32) (o : CmpOp) : cmpValue (FP.dcmp (FP.i2d x) (FP.i2d y)) o = lcmpW x.toInt64 y.toInt64 := by
  rw [i2d_w, i2d_w]; exact dcmpV_w (own_b53 x) (own_b53 y) o
theorem own_lt (x y : Int32) : x.toInt64 < y.toInt64 ↔ x < y := by rw [Int64.lt_iff_toInt_lt, Int32.lt_iff_toInt_lt, Int32.toInt_toInt64, Int32.toInt_toInt64]
theorem own_eq (x y : Int32) : x.toInt64 = y.toInt64 ↔ x = y := by rw [← Int64.toInt_inj, ← Int32.toInt_inj, Int32.toInt_toInt64, Int32.toInt_toInt64]
theorem d1_0 : decode prog_65_method_6_code 0 = .ok (.aload_n 0, 1) := by decide +kernel
theorem d1_1 : decode prog_65_method_6_code 1 = .ok (.getstatic 3, 3) := by decide +kernel
theorem d1_4 : decode prog_65_method_6_code 4 = .ok (.if_acmp .ne 19, 3) := by decide +kernel
theorem d1_7 : decode prog_65_method_6_code 7 = .ok (.dload_n 1, 1) := by decide +kernel
theorem d1_8 : decode prog_65_method_6_code 8 = .ok (.dload_n 3, 1) := by decide +kernel
theorem d1_9 : decode prog_65_method_6_code 9 = .ok (.dcmp .l, 1) := by decide +kernel
theorem d1_10 : decode prog_65_method_6_code 10 = .ok (.ifCond .ne 7, 3) := by decide +kernel
theorem d1_13 : decode prog_65_method_6_code 13 = .ok (.iconst 1, 1) := by decide +kernel
theorem d1_14 : decode prog_65_method_6_code 14 = .ok (.goto 4, 3) := by decide +kernel
theorem d1_17 : decode prog_65_method_6_code 17 = .ok (.iconst 0, 1) := by decide +kernel
theorem d1_18 : decode prog_65_method_6_code 18 = .ok (.istore 5, 2) := by decide +kernel
theorem d1_20 : decode prog_65_method_6_code 20 = .ok (.goto 39, 3) := by decide +kernel
theorem d1_59 : decode prog_65_method_6_code 59 = .ok (.iload 5, 2) := by decide +kernel
theorem d1_61 : decode prog_65_method_6_code 61 = .ok (.ireturn, 1) := by decide +kernel
theorem pn_1 : plainName "com/example/libfnseq/libfnseq/NumericValue$Relation" = true := by first | (simp [plainName, overriddenIn]; done) | decide +kernel
set_option maxHeartbeats 4000000 in
theorem ef_rmDE (m : MethodId) {wE : Addr} {da : UInt64} {db : UInt64} : entryFrame m #[(.ref wE), (.double da), (.double db)] 6 = mkF m 0 #[.val (.ref wE), .val (.double da), .second, .val (.double db), .second, .unset] [] := by first | (simp [entryFrame, mkF, argsToLocals, Value.category]; done) | rfl
def QrmDE (Z : State) (wE : Addr) (wB : Addr) (wA : Addr) (da : UInt64) (db : UInt64) (h0 : Heap) (n0 : Nat) (v : Option Value) (h : Heap) (L : List Loc) : Prop := ∃ (r : Int32), (v = some (.int r)) ∧ (L = []) ∧ (h = h0) ∧ (((cmpValue (FP.dcmp da db) .l) = (0 : Int32) ∧ r = (1 : Int32)) ∨ (¬ ((cmpValue (FP.dcmp da db) .l) = (0 : Int32)) ∧ r = (0 : Int32)))
set_option maxRecDepth 65536 in
set_option maxHeartbeats 40000000 in
theorem rmDE (l : Launch) (Z : State) (a0 : Array Value) (hw : ∀ d ∈ tables_1, d.before a0 Z = true) (ws : List Jvm.Cond) (wE : Addr) (wB : Addr) (wA : Addr) (G : Gh Z wE wB wA) (da : UInt64) (db : UInt64) (h0 : Heap) (n0 : Nat) (O0 : Old Z n0 h0) :
    MetFree l (⟨"com/example/libfnseq/libfnseq/NumericValue$Relation", "holds", "(DD)Z"⟩ : MethodName) (head1 (Jvm.Cond.code (⟨"com/example/libfnseq/libfnseq/NumericValue$Relation", "holds", "(DD)Z"⟩ : MethodName) prog_65_method_6_code 6 (some .boolean) :: ws) ({ frames := 0, cells := 0, slots := 0, locals := 0 } : Room)) (fun aa' UU' => aa' = #[(.ref wE), (.double da), (.double db)] ∧ Z.Warmed39 UU'.vm ∧ UU'.heap = h0) (fun _ _ _ _ _ => True) (fun _ UU' oo' VV' => ∃ v' L', oo' = .returned v' ∧ QrmDE Z wE wB wA da db h0 n0 v' VV'.heap L' ∧ FrameEnd UU' oo' VV' L' ({ frames := 0, cells := 0, slots := 0, locals := 0 } : Room).cells ({ frames := 0, cells := 0, slots := 0, locals := 0 } : Room).slots) := by
  refine MetFree.of_bodySF (plainFor_of_name pn_1) hisR ?_
  intro p e s m args below meth c s₁ Bd hml0 hP hK
  obtain ⟨rfl, hZ, hh⟩ := hP
  have hx := Bd.exec
  have hby := Bd.bytes
  have hlk := Bd.notSynchronized
  have hml : c.maxLocals = 6 := hml0
  have hown : s.vm.findClass "com/example/libfnseq/libfnseq/NumericValue$Relation" = some m.cls := findClass_of_methodNamed Bd.named
  have hnm := (name_of_methodNamed Bd.named Bd.method).1
  have hret := Bd.returns
  have X0 : Stand p l e ({ frames := 0, cells := 0, slots := 0, locals := 0 } : Room) s m #[(.ref wE), (.double da), (.double db)] below meth c s₁ [] 0 0 := Stand.of_body Bd
  have e0 : s₁.heap = h0 := by rw [← hh, Bd.state]; rfl
  have N0 := Fr.nil n0
  refine Go.body ?_
  obtain ⟨Pf, hPf⟩ : ∃ P, P = Fin' s below ({ frames := 0, cells := 0, slots := 0, locals := 0 } : Room).cells ({ frames := 0, cells := 0, slots := 0, locals := 0 } : Room).slots (QrmDE Z wE wB wA da db h0 n0) := ⟨_, rfl⟩
  rw [← hPf]
  refine Go.cast (ef_rmDE m) ?_
  have hw8 := (hw _ (List.mem_of_getElem? (i := 8) rfl))
  show Go p.tables e below Pf (s₁.setTop (mkF m 0 #[.val (.ref wE), .val (.double da), .second, .val (.double db), .second, .unset] []))
  refine Go.by' (fun t k => (XS.aloadN X0.here hx rfl (hb hby d1_0) rfl rfl k)) ?_
  show Go p.tables e below Pf (s₁.setTop (mkF m 1 #[.val (.ref wE), .val (.double da), .second, .val (.double db), .second, .unset] [(.ref wE)]))
  obtain ⟨T1, X1, e1, st1⟩ := getS2 X0 hx hZ hown (host := "") (Or.inl hw8) Via.refl e0 (G.1.ext O0.2) (g := (mkF m 1 #[.val (.ref wE), .val (.double da), .second, .val (.double db), .second, .unset] [(.ref wE)])) rfl (hb hby d1_1)
  refine Go.by' st1 ?_
  show Go p.tables e below Pf (T1.setTop (mkF m 4 #[.val (.ref wE), .val (.double da), .second, .val (.double db), .second, .unset] [(.ref wE), (.ref wE)]))
  refine Go.by' (fun t k => Jvm.RoadKit.acmp (g := (mkF m 4 #[.val (.ref wE), .val (.double da), .second, .val (.double db), .second, .unset] [(.ref wE), (.ref wE)])) X1 hx rfl rfl rfl (pc0 := 4) (pc' := 7) (same := true) rfl (hb hby d1_4) rfl (decide_eq_true rfl) (by decide) (by decide) k) ?_
  show Go p.tables e below Pf (T1.setTop (mkF m 7 #[.val (.ref wE), .val (.double da), .second, .val (.double db), .second, .unset] []))
  refine Go.by' (fun t k => (XS.dloadN X1.here hx rfl (hb hby d1_7) rfl (XS.dloadN X1.here hx rfl (hb hby d1_8) rfl (XS.dcmpS X1.here hx rfl (hb hby d1_9) rfl rfl k)))) ?_
  show Go p.tables e below Pf (T1.setTop (mkF m 10 #[.val (.ref wE), .val (.double da), .second, .val (.double db), .second, .unset] [(.int (cmpValue (FP.dcmp da db) .l))]))
  have jn3 : ∀ (T' : State) (w3_0 : Int32), Like X1 T' → T'.heap = h0 → (((cmpValue (FP.dcmp da db) .l) = (0 : Int32) ∧ w3_0 = (1 : Int32)) ∨ (¬ ((cmpValue (FP.dcmp da db) .l) = (0 : Int32)) ∧ w3_0 = (0 : Int32))) → Go p.tables e below Pf (T'.setTop (mkF m 18 #[.val (.ref wE), .val (.double da), .second, .val (.double db), .second, .unset] [(.int w3_0)])) := by
    intro T3 w3_0 X3 e3 hm3
    unfold Like at X3
    have bw3_0 : w3_0 = 0 ∨ w3_0 = 1 := by rcases hm3 with ⟨_, h⟩ | ⟨_, h⟩ <;> first | exact Or.inl h | exact Or.inr h
    show Go p.tables e below Pf (T3.setTop (mkF m 18 #[.val (.ref wE), .val (.double da), .second, .val (.double db), .second, .unset] [(.int w3_0)]))
    refine Go.by' (fun t k => (XS.istore X3.here hx rfl (hb hby d1_18) rfl (l' := #[.val (.ref wE), .val (.double da), .second, .val (.double db), .second, .val (.int w3_0)]) rfl (XS.goto X3.here hx rfl (pc0 := 20) (pc' := 59) rfl (hb hby d1_20) (by decide) (by decide) (XS.iload X3.here hx rfl (hb hby d1_59) rfl k)))) ?_
    show Go p.tables e below Pf (T3.setTop (mkF m 61 #[.val (.ref wE), .val (.double da), .second, .val (.double db), .second, .val (.int w3_0)] [(.int w3_0)]))
    rw [hPf]
    exact Go.retI' X3 hx hret hlk (by simp) (by rcases hm3 with ⟨_, rfl⟩ | ⟨_, rfl⟩ <;> rfl) (hb hby d1_61) (by decide) (by decide) ⟨w3_0, rfl, rfl, e3, hm3⟩
  by_cases hc4 : (cmpValue (FP.dcmp da db) .l) = (0 : Int32)
  · refine Go.by' (fun t k => (XS.ifNo X1.here hx rfl (hb hby d1_10) rfl ((if0 _ _).trans (teq hc4).2) (XS.iconst X1.here hx rfl (hb hby d1_13) (XS.goto X1.here hx rfl (pc0 := 14) (pc' := 18) rfl (hb hby d1_14) (by decide) (by decide) k)))) ?_
    show Go p.tables e below Pf (T1.setTop (mkF m 18 #[.val (.ref wE), .val (.double da), .second, .val (.double db), .second, .unset] [(.int (1 : Int32))]))
    exact jn3 T1 ((1 : Int32)) X1 e1  (Or.inl ⟨hc4, rfl⟩)
  · refine Go.by' (fun t k => (XS.ifYes X1.here hx rfl (pc0 := 10) (pc' := 17) rfl (hb hby d1_10) rfl ((if0 _ _).trans (feq hc4).2) (by decide) (by decide) (XS.iconst X1.here hx rfl (hb hby d1_17) k))) ?_
    show Go p.tables e below Pf (T1.setTop (mkF m 18 #[.val (.ref wE), .val (.double da), .second, .val (.double db), .second, .unset] [(.int (0 : Int32))]))
    exact jn3 T1 ((0 : Int32)) X1 e1  (Or.inr ⟨hc4, rfl⟩)
theorem d1_23 : decode prog_65_method_6_code 23 = .ok (.aload_n 0, 1) := by decide +kernel
theorem d1_24 : decode prog_65_method_6_code 24 = .ok (.getstatic 7, 3) := by decide +kernel
theorem d1_27 : decode prog_65_method_6_code 27 = .ok (.if_acmp .ne 19, 3) := by decide +kernel
theorem d1_30 : decode prog_65_method_6_code 30 = .ok (.dload_n 1, 1) := by decide +kernel
theorem d1_31 : decode prog_65_method_6_code 31 = .ok (.dload_n 3, 1) := by decide +kernel
theorem d1_32 : decode prog_65_method_6_code 32 = .ok (.dcmp .g, 1) := by decide +kernel
theorem d1_33 : decode prog_65_method_6_code 33 = .ok (.ifCond .ge 7, 3) := by decide +kernel
theorem d1_36 : decode prog_65_method_6_code 36 = .ok (.iconst 1, 1) := by decide +kernel
theorem d1_37 : decode prog_65_method_6_code 37 = .ok (.goto 4, 3) := by decide +kernel
theorem d1_40 : decode prog_65_method_6_code 40 = .ok (.iconst 0, 1) := by decide +kernel
theorem d1_41 : decode prog_65_method_6_code 41 = .ok (.istore 5, 2) := by decide +kernel
theorem d1_43 : decode prog_65_method_6_code 43 = .ok (.goto 16, 3) := by decide +kernel
set_option maxHeartbeats 4000000 in
theorem ef_rmDB (m : MethodId) {wB : Addr} {da : UInt64} {db : UInt64} : entryFrame m #[(.ref wB), (.double da), (.double db)] 6 = mkF m 0 #[.val (.ref wB), .val (.double da), .second, .val (.double db), .second, .unset] [] := by first | (simp [entryFrame, mkF, argsToLocals, Value.category]; done) | rfl
def QrmDB (Z : State) (wE : Addr) (wB : Addr) (wA : Addr) (da : UInt64) (db : UInt64) (h0 : Heap) (n0 : Nat) (v : Option Value) (h : Heap) (L : List Loc) : Prop := ∃ (r : Int32), (v = some (.int r)) ∧ (L = []) ∧ (h = h0) ∧ (((cmpValue (FP.dcmp da db) .g) < (0 : Int32) ∧ r = (1 : Int32)) ∨ (¬ ((cmpValue (FP.dcmp da db) .g) < (0 : Int32)) ∧ r = (0 : Int32)))
set_option maxRecDepth 65536 in
set_option maxHeartbeats 40000000 in
theorem rmDB (l : Launch) (Z : State) (a0 : Array Value) (hw : ∀ d ∈ tables_1, d.before a0 Z = true) (ws : List Jvm.Cond) (wE : Addr) (wB : Addr) (wA : Addr) (G : Gh Z wE wB wA) (da : UInt64) (db : UInt64) (h0 : Heap) (n0 : Nat) (O0 : Old Z n0 h0) :
    MetFree l (⟨"com/example/libfnseq/libfnseq/NumericValue$Relation", "holds", "(DD)Z"⟩ : MethodName) (head1 (Jvm.Cond.code (⟨"com/example/libfnseq/libfnseq/NumericValue$Relation", "holds", "(DD)Z"⟩ : MethodName) prog_65_method_6_code 6 (some .boolean) :: ws) ({ frames := 0, cells := 0, slots := 0, locals := 0 } : Room)) (fun aa' UU' => aa' = #[(.ref wB), (.double da), (.double db)] ∧ Z.Warmed39 UU'.vm ∧ UU'.heap = h0) (fun _ _ _ _ _ => True) (fun _ UU' oo' VV' => ∃ v' L', oo' = .returned v' ∧ QrmDB Z wE wB wA da db h0 n0 v' VV'.heap L' ∧ FrameEnd UU' oo' VV' L' ({ frames := 0, cells := 0, slots := 0, locals := 0 } : Room).cells ({ frames := 0, cells := 0, slots := 0, locals := 0 } : Room).slots) := by
  refine MetFree.of_bodySF (plainFor_of_name pn_1) hisR ?_
  intro p e s m args below meth c s₁ Bd hml0 hP hK
  obtain ⟨rfl, hZ, hh⟩ := hP
  have hx := Bd.exec
  have hby := Bd.bytes
  have hlk := Bd.notSynchronized
  have hml : c.maxLocals = 6 := hml0
  have hown : s.vm.findClass "com/example/libfnseq/libfnseq/NumericValue$Relation" = some m.cls := findClass_of_methodNamed Bd.named
  have hnm := (name_of_methodNamed Bd.named Bd.method).1
  have hret := Bd.returns
  have X0 : Stand p l e ({ frames := 0, cells := 0, slots := 0, locals := 0 } : Room) s m #[(.ref wB), (.double da), (.double db)] below meth c s₁ [] 0 0 := Stand.of_body Bd
  have e0 : s₁.heap = h0 := by rw [← hh, Bd.state]; rfl
  have N0 := Fr.nil n0
  refine Go.body ?_
  obtain ⟨Pf, hPf⟩ : ∃ P, P = Fin' s below ({ frames := 0, cells := 0, slots := 0, locals := 0 } : Room).cells ({ frames := 0, cells := 0, slots := 0, locals := 0 } : Room).slots (QrmDB Z wE wB wA da db h0 n0) := ⟨_, rfl⟩
  rw [← hPf]
  refine Go.cast (ef_rmDB m) ?_
  have hw8 := (hw _ (List.mem_of_getElem? (i := 8) rfl))
  have hw11 := (hw _ (List.mem_of_getElem? (i := 11) rfl))
  show Go p.tables e below Pf (s₁.setTop (mkF m 0 #[.val (.ref wB), .val (.double da), .second, .val (.double db), .second, .unset] []))
  refine Go.by' (fun t k => (XS.aloadN X0.here hx rfl (hb hby d1_0) rfl rfl k)) ?_
  show Go p.tables e below Pf (s₁.setTop (mkF m 1 #[.val (.ref wB), .val (.double da), .second, .val (.double db), .second, .unset] [(.ref wB)]))
  obtain ⟨T5, X5, e5, st5⟩ := getS2 X0 hx hZ hown (host := "") (Or.inl hw8) Via.refl e0 (G.1.ext O0.2) (g := (mkF m 1 #[.val (.ref wB), .val (.double da), .second, .val (.double db), .second, .unset] [(.ref wB)])) rfl (hb hby d1_1)
  refine Go.by' st5 ?_
  show Go p.tables e below Pf (T5.setTop (mkF m 4 #[.val (.ref wB), .val (.double da), .second, .val (.double db), .second, .unset] [(.ref wE), (.ref wB)]))
  refine Go.by' (fun t k => Jvm.RoadKit.acmp (g := (mkF m 4 #[.val (.ref wB), .val (.double da), .second, .val (.double db), .second, .unset] [(.ref wE), (.ref wB)])) X5 hx rfl rfl rfl (pc0 := 4) (pc' := 23) (same := false) rfl (hb hby d1_4) rfl (decide_eq_false (fun q => (Ne.symm G.2.2.2.2.2.2.1) (Value.ref.inj q))) (by decide) (by decide) k) ?_
  show Go p.tables e below Pf (T5.setTop (mkF m 23 #[.val (.ref wB), .val (.double da), .second, .val (.double db), .second, .unset] []))
  refine Go.by' (fun t k => (XS.aloadN X5.here hx rfl (hb hby d1_23) rfl rfl k)) ?_
  show Go p.tables e below Pf (T5.setTop (mkF m 24 #[.val (.ref wB), .val (.double da), .second, .val (.double db), .second, .unset] [(.ref wB)]))
  obtain ⟨T6, X6, e6, st6⟩ := getS2 X5 hx hZ hown (host := "") (Or.inl hw11) Via.refl e5 (G.2.2.1.ext O0.2) (g := (mkF m 24 #[.val (.ref wB), .val (.double da), .second, .val (.double db), .second, .unset] [(.ref wB)])) rfl (hb hby d1_24)
  refine Go.by' st6 ?_
  show Go p.tables e below Pf (T6.setTop (mkF m 27 #[.val (.ref wB), .val (.double da), .second, .val (.double db), .second, .unset] [(.ref wB), (.ref wB)]))
  refine Go.by' (fun t k => Jvm.RoadKit.acmp (g := (mkF m 27 #[.val (.ref wB), .val (.double da), .second, .val (.double db), .second, .unset] [(.ref wB), (.ref wB)])) X6 hx rfl rfl rfl (pc0 := 27) (pc' := 30) (same := true) rfl (hb hby d1_27) rfl (decide_eq_true rfl) (by decide) (by decide) k) ?_
  show Go p.tables e below Pf (T6.setTop (mkF m 30 #[.val (.ref wB), .val (.double da), .second, .val (.double db), .second, .unset] []))
  refine Go.by' (fun t k => (XS.dloadN X6.here hx rfl (hb hby d1_30) rfl (XS.dloadN X6.here hx rfl (hb hby d1_31) rfl (XS.dcmpS X6.here hx rfl (hb hby d1_32) rfl rfl k)))) ?_
  show Go p.tables e below Pf (T6.setTop (mkF m 33 #[.val (.ref wB), .val (.double da), .second, .val (.double db), .second, .unset] [(.int (cmpValue (FP.dcmp da db) .g))]))
  have jn8 : ∀ (T' : State) (w8_0 : Int32), Like X6 T' → T'.heap = h0 → (((cmpValue (FP.dcmp da db) .g) < (0 : Int32) ∧ w8_0 = (1 : Int32)) ∨ (¬ ((cmpValue (FP.dcmp da db) .g) < (0 : Int32)) ∧ w8_0 = (0 : Int32))) → Go p.tables e below Pf (T'.setTop (mkF m 41 #[.val (.ref wB), .val (.double da), .second, .val (.double db), .second, .unset] [(.int w8_0)])) := by
    intro T8 w8_0 X8 e8 hm8
    unfold Like at X8
    have bw8_0 : w8_0 = 0 ∨ w8_0 = 1 := by rcases hm8 with ⟨_, h⟩ | ⟨_, h⟩ <;> first | exact Or.inl h | exact Or.inr h
    show Go p.tables e below Pf (T8.setTop (mkF m 41 #[.val (.ref wB), .val (.double da), .second, .val (.double db), .second, .unset] [(.int w8_0)]))
    refine Go.by' (fun t k => (XS.istore X8.here hx rfl (hb hby d1_41) rfl (l' := #[.val (.ref wB), .val (.double da), .second, .val (.double db), .second, .val (.int w8_0)]) rfl (XS.goto X8.here hx rfl (pc0 := 43) (pc' := 59) rfl (hb hby d1_43) (by decide) (by decide) (XS.iload X8.here hx rfl (hb hby d1_59) rfl k)))) ?_
    show Go p.tables e below Pf (T8.setTop (mkF m 61 #[.val (.ref wB), .val (.double da), .second, .val (.double db), .second, .val (.int w8_0)] [(.int w8_0)]))
    rw [hPf]
    exact Go.retI' X8 hx hret hlk (by simp) (by rcases hm8 with ⟨_, rfl⟩ | ⟨_, rfl⟩ <;> rfl) (hb hby d1_61) (by decide) (by decide) ⟨w8_0, rfl, rfl, e8, hm8⟩
  by_cases hc9 : (cmpValue (FP.dcmp da db) .g) < (0 : Int32)
  · refine Go.by' (fun t k => (XS.ifNo X6.here hx rfl (hb hby d1_33) rfl ((if0 _ _).trans (tlt hc9).2.1) (XS.iconst X6.here hx rfl (hb hby d1_36) (XS.goto X6.here hx rfl (pc0 := 37) (pc' := 41) rfl (hb hby d1_37) (by decide) (by decide) k)))) ?_
    show Go p.tables e below Pf (T6.setTop (mkF m 41 #[.val (.ref wB), .val (.double da), .second, .val (.double db), .second, .unset] [(.int (1 : Int32))]))
    exact jn8 T6 ((1 : Int32)) X6 e6  (Or.inl ⟨hc9, rfl⟩)
  · refine Go.by' (fun t k => (XS.ifYes X6.here hx rfl (pc0 := 33) (pc' := 40) rfl (hb hby d1_33) rfl ((if0 _ _).trans (flt hc9).2.1) (by decide) (by decide) (XS.iconst X6.here hx rfl (hb hby d1_40) k))) ?_
    show Go p.tables e below Pf (T6.setTop (mkF m 41 #[.val (.ref wB), .val (.double da), .second, .val (.double db), .second, .unset] [(.int (0 : Int32))]))
    exact jn8 T6 ((0 : Int32)) X6 e6  (Or.inr ⟨hc9, rfl⟩)
theorem d1_46 : decode prog_65_method_6_code 46 = .ok (.dload_n 1, 1) := by decide +kernel
theorem d1_47 : decode prog_65_method_6_code 47 = .ok (.dload_n 3, 1) := by decide +kernel
theorem d1_48 : decode prog_65_method_6_code 48 = .ok (.dcmp .l, 1) := by decide +kernel
theorem d1_49 : decode prog_65_method_6_code 49 = .ok (.ifCond .le 7, 3) := by decide +kernel
theorem d1_52 : decode prog_65_method_6_code 52 = .ok (.iconst 1, 1) := by decide +kernel
theorem d1_53 : decode prog_65_method_6_code 53 = .ok (.goto 4, 3) := by decide +kernel
theorem d1_56 : decode prog_65_method_6_code 56 = .ok (.iconst 0, 1) := by decide +kernel
theorem d1_57 : decode prog_65_method_6_code 57 = .ok (.istore 5, 2) := by decide +kernel
set_option maxHeartbeats 4000000 in
theorem ef_rmDA (m : MethodId) {wA : Addr} {da : UInt64} {db : UInt64} : entryFrame m #[(.ref wA), (.double da), (.double db)] 6 = mkF m 0 #[.val (.ref wA), .val (.double da), .second, .val (.double db), .second, .unset] [] := by first | (simp [entryFrame, mkF, argsToLocals, Value.category]; done) | rfl
def QrmDA (Z : State) (wE : Addr) (wB : Addr) (wA : Addr) (da : UInt64) (db : UInt64) (h0 : Heap) (n0 : Nat) (v : Option Value) (h : Heap) (L : List Loc) : Prop := ∃ (r : Int32), (v = some (.int r)) ∧ (L = []) ∧ (h = h0) ∧ (((0 : Int32) < (cmpValue (FP.dcmp da db) .l) ∧ r = (1 : Int32)) ∨ (¬ ((0 : Int32) < (cmpValue (FP.dcmp da db) .l)) ∧ r = (0 : Int32)))
set_option maxRecDepth 65536 in
set_option maxHeartbeats 40000000 in
theorem rmDA (l : Launch) (Z : State) (a0 : Array Value) (hw : ∀ d ∈ tables_1, d.before a0 Z = true) (ws : List Jvm.Cond) (wE : Addr) (wB : Addr) (wA : Addr) (G : Gh Z wE wB wA) (da : UInt64) (db : UInt64) (h0 : Heap) (n0 : Nat) (O0 : Old Z n0 h0) :
    MetFree l (⟨"com/example/libfnseq/libfnseq/NumericValue$Relation", "holds", "(DD)Z"⟩ : MethodName) (head1 (Jvm.Cond.code (⟨"com/example/libfnseq/libfnseq/NumericValue$Relation", "holds", "(DD)Z"⟩ : MethodName) prog_65_method_6_code 6 (some .boolean) :: ws) ({ frames := 0, cells := 0, slots := 0, locals := 0 } : Room)) (fun aa' UU' => aa' = #[(.ref wA), (.double da), (.double db)] ∧ Z.Warmed39 UU'.vm ∧ UU'.heap = h0) (fun _ _ _ _ _ => True) (fun _ UU' oo' VV' => ∃ v' L', oo' = .returned v' ∧ QrmDA Z wE wB wA da db h0 n0 v' VV'.heap L' ∧ FrameEnd UU' oo' VV' L' ({ frames := 0, cells := 0, slots := 0, locals := 0 } : Room).cells ({ frames := 0, cells := 0, slots := 0, locals := 0 } : Room).slots) := by
  refine MetFree.of_bodySF (plainFor_of_name pn_1) hisR ?_
  intro p e s m args below meth c s₁ Bd hml0 hP hK
  obtain ⟨rfl, hZ, hh⟩ := hP
  have hx := Bd.exec
  have hby := Bd.bytes
  have hlk := Bd.notSynchronized
  have hml : c.maxLocals = 6 := hml0
  have hown : s.vm.findClass "com/example/libfnseq/libfnseq/NumericValue$Relation" = some m.cls := findClass_of_methodNamed Bd.named
  have hnm := (name_of_methodNamed Bd.named Bd.method).1
  have hret := Bd.returns
  have X0 : Stand p l e ({ frames := 0, cells := 0, slots := 0, locals := 0 } : Room) s m #[(.ref wA), (.double da), (.double db)] below meth c s₁ [] 0 0 := Stand.of_body Bd
  have e0 : s₁.heap = h0 := by rw [← hh, Bd.state]; rfl
  have N0 := Fr.nil n0
  refine Go.body ?_
  obtain ⟨Pf, hPf⟩ : ∃ P, P = Fin' s below ({ frames := 0, cells := 0, slots := 0, locals := 0 } : Room).cells ({ frames := 0, cells := 0, slots := 0, locals := 0 } : Room).slots (QrmDA Z wE wB wA da db h0 n0) := ⟨_, rfl⟩
  rw [← hPf]
  refine Go.cast (ef_rmDA m) ?_
  have hw8 := (hw _ (List.mem_of_getElem? (i := 8) rfl))
  have hw11 := (hw _ (List.mem_of_getElem? (i := 11) rfl))
  show Go p.tables e below Pf (s₁.setTop (mkF m 0 #[.val (.ref wA), .val (.double da), .second, .val (.double db), .second, .unset] []))
  refine Go.by' (fun t k => (XS.aloadN X0.here hx rfl (hb hby d1_0) rfl rfl k)) ?_
  show Go p.tables e below Pf (s₁.setTop (mkF m 1 #[.val (.ref wA), .val (.double da), .second, .val (.double db), .second, .unset] [(.ref wA)]))
  obtain ⟨T10, X10, e10, st10⟩ := getS2 X0 hx hZ hown (host := "") (Or.inl hw8) Via.refl e0 (G.1.ext O0.2) (g := (mkF m 1 #[.val (.ref wA), .val (.double da), .second, .val (.double db), .second, .unset] [(.ref wA)])) rfl (hb hby d1_1)
  refine Go.by' st10 ?_
  show Go p.tables e below Pf (T10.setTop (mkF m 4 #[.val (.ref wA), .val (.double da), .second, .val (.double db), .second, .unset] [(.ref wE), (.ref wA)]))
  refine Go.by' (fun t k => Jvm.RoadKit.acmp (g := (mkF m 4 #[.val (.ref wA), .val (.double da), .second, .val (.double db), .second, .unset] [(.ref wE), (.ref wA)])) X10 hx rfl rfl rfl (pc0 := 4) (pc' := 23) (same := false) rfl (hb hby d1_4) rfl (decide_eq_false (fun q => (Ne.symm G.2.2.2.2.2.2.2.1) (Value.ref.inj q))) (by decide) (by decide) k) ?_
  show Go p.tables e below Pf (T10.setTop (mkF m 23 #[.val (.ref wA), .val (.double da), .second, .val (.double db), .second, .unset] []))
  refine Go.by' (fun t k => (XS.aloadN X10.here hx rfl (hb hby d1_23) rfl rfl k)) ?_
  show Go p.tables e below Pf (T10.setTop (mkF m 24 #[.val (.ref wA), .val (.double da), .second, .val (.double db), .second, .unset] [(.ref wA)]))
  obtain ⟨T11, X11, e11, st11⟩ := getS2 X10 hx hZ hown (host := "") (Or.inl hw11) Via.refl e10 (G.2.2.1.ext O0.2) (g := (mkF m 24 #[.val (.ref wA), .val (.double da), .second, .val (.double db), .second, .unset] [(.ref wA)])) rfl (hb hby d1_24)
  refine Go.by' st11 ?_
  show Go p.tables e below Pf (T11.setTop (mkF m 27 #[.val (.ref wA), .val (.double da), .second, .val (.double db), .second, .unset] [(.ref wB), (.ref wA)]))
  refine Go.by' (fun t k => Jvm.RoadKit.acmp (g := (mkF m 27 #[.val (.ref wA), .val (.double da), .second, .val (.double db), .second, .unset] [(.ref wB), (.ref wA)])) X11 hx rfl rfl rfl (pc0 := 27) (pc' := 46) (same := false) rfl (hb hby d1_27) rfl (decide_eq_false (fun q => (Ne.symm G.2.2.2.2.2.2.2.2) (Value.ref.inj q))) (by decide) (by decide) k) ?_
  show Go p.tables e below Pf (T11.setTop (mkF m 46 #[.val (.ref wA), .val (.double da), .second, .val (.double db), .second, .unset] []))
  refine Go.by' (fun t k => (XS.dloadN X11.here hx rfl (hb hby d1_46) rfl (XS.dloadN X11.here hx rfl (hb hby d1_47) rfl (XS.dcmpS X11.here hx rfl (hb hby d1_48) rfl rfl k)))) ?_
  show Go p.tables e below Pf (T11.setTop (mkF m 49 #[.val (.ref wA), .val (.double da), .second, .val (.double db), .second, .unset] [(.int (cmpValue (FP.dcmp da db) .l))]))
  have jn13 : ∀ (T' : State) (w13_0 : Int32), Like X11 T' → T'.heap = h0 → (((0 : Int32) < (cmpValue (FP.dcmp da db) .l) ∧ w13_0 = (1 : Int32)) ∨ (¬ ((0 : Int32) < (cmpValue (FP.dcmp da db) .l)) ∧ w13_0 = (0 : Int32))) → Go p.tables e below Pf (T'.setTop (mkF m 57 #[.val (.ref wA), .val (.double da), .second, .val (.double db), .second, .unset] [(.int w13_0)])) := by
    intro T13 w13_0 X13 e13 hm13
    unfold Like at X13
    have bw13_0 : w13_0 = 0 ∨ w13_0 = 1 := by rcases hm13 with ⟨_, h⟩ | ⟨_, h⟩ <;> first | exact Or.inl h | exact Or.inr h
    show Go p.tables e below Pf (T13.setTop (mkF m 57 #[.val (.ref wA), .val (.double da), .second, .val (.double db), .second, .unset] [(.int w13_0)]))
    refine Go.by' (fun t k => (XS.istore X13.here hx rfl (hb hby d1_57) rfl (l' := #[.val (.ref wA), .val (.double da), .second, .val (.double db), .second, .val (.int w13_0)]) rfl (XS.iload X13.here hx rfl (hb hby d1_59) rfl k))) ?_
    show Go p.tables e below Pf (T13.setTop (mkF m 61 #[.val (.ref wA), .val (.double da), .second, .val (.double db), .second, .val (.int w13_0)] [(.int w13_0)]))
    rw [hPf]
    exact Go.retI' X13 hx hret hlk (by simp) (by rcases hm13 with ⟨_, rfl⟩ | ⟨_, rfl⟩ <;> rfl) (hb hby d1_61) (by decide) (by decide) ⟨w13_0, rfl, rfl, e13, hm13⟩
  by_cases hc14 : (0 : Int32) < (cmpValue (FP.dcmp da db) .l)
  · refine Go.by' (fun t k => (XS.ifNo X11.here hx rfl (hb hby d1_49) rfl ((if0 _ _).trans (tlt hc14).2.2.2) (XS.iconst X11.here hx rfl (hb hby d1_52) (XS.goto X11.here hx rfl (pc0 := 53) (pc' := 57) rfl (hb hby d1_53) (by decide) (by decide) k)))) ?_
    show Go p.tables e below Pf (T11.setTop (mkF m 57 #[.val (.ref wA), .val (.double da), .second, .val (.double db), .second, .unset] [(.int (1 : Int32))]))
    exact jn13 T11 ((1 : Int32)) X11 e11  (Or.inl ⟨hc14, rfl⟩)
  · refine Go.by' (fun t k => (XS.ifYes X11.here hx rfl (pc0 := 49) (pc' := 56) rfl (hb hby d1_49) rfl ((if0 _ _).trans (flt hc14).2.2.2) (by decide) (by decide) (XS.iconst X11.here hx rfl (hb hby d1_56) k))) ?_
    show Go p.tables e below Pf (T11.setTop (mkF m 57 #[.val (.ref wA), .val (.double da), .second, .val (.double db), .second, .unset] [(.int (0 : Int32))]))
    exact jn13 T11 ((0 : Int32)) X11 e11  (Or.inr ⟨hc14, rfl⟩)
theorem pd_0 : parseMethodDescriptor "(DD)Z" = some ⟨[.double, .double], some .boolean⟩ := by decide +kernel
theorem pn_0 : plainName "com/example/libfnseq/libfnseq/RelationHoldsPinLaw" = true := by first | (simp [plainName, overriddenIn]; done) | decide +kernel
set_option maxHeartbeats 4000000 in
theorem ef_rm0 (m : MethodId) {ix : Int32} {iy : Int32} : entryFrame m #[(.int ix), (.int iy)] maxLocals = mkF m 0 #[.val (.int ix), .val (.int iy), .unset, .unset, .unset, .unset, .unset, .unset, .unset, .unset] [] := by first | (simp [entryFrame, mkF, argsToLocals, Value.category, maxLocals]; done) | rfl
def Qrm0 (Z : State) (wE : Addr) (wB : Addr) (wA : Addr) (ix : Int32) (iy : Int32) (h0 : Heap) (n0 : Nat) (v : Option Value) (h : Heap) (L : List Loc) : Prop := (v = some (.int (1 : Int32))) ∧ (L = []) ∧ (h = h0)
set_option maxRecDepth 65536 in
set_option maxHeartbeats 40000000 in
theorem rm0 (l : Launch) (Z : State) (a0 : Array Value) (hw : ∀ d ∈ tables_1, d.before a0 Z = true) (ws : List Jvm.Cond) (wE : Addr) (wB : Addr) (wA : Addr) (G : Gh Z wE wB wA) (ix : Int32) (iy : Int32) (h0 : Heap) (n0 : Nat) (O0 : Old Z n0 h0) :
    MetFree l x (head1 (Jvm.Cond.code x code maxLocals ret :: ws) room_1) (fun aa' UU' => aa' = #[(.int ix), (.int iy)] ∧ Z.Warmed39 UU'.vm ∧ UU'.heap = h0) (fun _ _ _ _ _ => True) (fun _ UU' oo' VV' => ∃ v' L', oo' = .returned v' ∧ Qrm0 Z wE wB wA ix iy h0 n0 v' VV'.heap L' ∧ FrameEnd UU' oo' VV' L' 0 0) := by
  refine MetFree.of_bodySF (plainFor_of_name pn_0) hisR ?_
  intro p e s m args below meth c s₁ Bd hml0 hP hK
  obtain ⟨rfl, hZ, hh⟩ := hP
  have hx := Bd.exec
  have hby := Bd.bytes
  have hlk := Bd.notSynchronized
  have hml : c.maxLocals = 10 := hml0
  have hown : s.vm.findClass "com/example/libfnseq/libfnseq/RelationHoldsPinLaw" = some m.cls := findClass_of_methodNamed Bd.named
  have hnm := (name_of_methodNamed Bd.named Bd.method).1
  have hret := Bd.returns
  have X0 : Stand p l e room_1 s m #[(.int ix), (.int iy)] below meth c s₁ [] 0 0 := Stand.of_body Bd
  have e0 : s₁.heap = h0 := by rw [← hh, Bd.state]; rfl
  have N0 := Fr.nil n0
  refine Go.body ?_
  obtain ⟨Pf, hPf⟩ : ∃ P, P = Fin' s below 0 0 (Qrm0 Z wE wB wA ix iy h0 n0) := ⟨_, rfl⟩
  rw [← hPf]
  refine Go.cast (ef_rm0 m) ?_
  have hw0 := (hw _ (List.mem_of_getElem? (i := 0) rfl))
  have hw1 := (hw _ (List.mem_of_getElem? (i := 1) rfl))
  have hw3 := (hw _ (List.mem_of_getElem? (i := 3) rfl))
  have hw4 := (hw _ (List.mem_of_getElem? (i := 4) rfl))
  have hw5 := (hw _ (List.mem_of_getElem? (i := 5) rfl))
  have hw6 := (hw _ (List.mem_of_getElem? (i := 6) rfl))
  have hw7 := (hw _ (List.mem_of_getElem? (i := 7) rfl))
  have hw9 := (hw _ (List.mem_of_getElem? (i := 9) rfl))
  have hw12 := (hw _ (List.mem_of_getElem? (i := 12) rfl))
  show Go p.tables e below Pf (s₁.setTop (mkF m 0 #[.val (.int ix), .val (.int iy), .unset, .unset, .unset, .unset, .unset, .unset, .unset, .unset] []))
  have tri : ix < iy ∨ ix = iy ∨ iy < ix := by simp only [Int32.lt_iff_toInt_lt, ← Int32.toInt_inj]; omega
  rcases tri with hp | hp | hp
  · show Go p.tables e below Pf (s₁.setTop (mkF m 0 #[.val (.int ix), .val (.int iy), .unset, .unset, .unset, .unset, .unset, .unset, .unset, .unset] []))
    refine Go.by' (fun t k => (XS.iloadN X0.here hx rfl (hb hby at_0) rfl (XS.i2dS X0.here hx rfl (hb hby at_1) rfl rfl (XS.dstoreN X0.here hx rfl (hb hby at_2) rfl (l' := #[.val (.int ix), .val (.int iy), .val (.double (FP.i2d ix)), .second, .unset, .unset, .unset, .unset, .unset, .unset]) rfl (XS.iloadN X0.here hx rfl (hb hby at_3) rfl (XS.i2dS X0.here hx rfl (hb hby at_4) rfl rfl (XS.dstore X0.here hx rfl (hb hby at_5) rfl (l' := #[.val (.int ix), .val (.int iy), .val (.double (FP.i2d ix)), .second, .val (.double (FP.i2d iy)), .second, .unset, .unset, .unset, .unset]) rfl k))))))) ?_
    show Go p.tables e below Pf (s₁.setTop (mkF m 7 #[.val (.int ix), .val (.int iy), .val (.double (FP.i2d ix)), .second, .val (.double (FP.i2d iy)), .second, .unset, .unset, .unset, .unset] []))
    obtain ⟨T15, X15, e15, st15⟩ := getS2 X0 hx hZ hown (host := "") (Or.inl hw0) Via.refl e0 (G.1.ext O0.2) (g := (mkF m 7 #[.val (.int ix), .val (.int iy), .val (.double (FP.i2d ix)), .second, .val (.double (FP.i2d iy)), .second, .unset, .unset, .unset, .unset] [])) rfl (hb hby at_7)
    refine Go.by' st15 ?_
    show Go p.tables e below Pf (T15.setTop (mkF m 10 #[.val (.int ix), .val (.int iy), .val (.double (FP.i2d ix)), .second, .val (.double (FP.i2d iy)), .second, .unset, .unset, .unset, .unset] [(.ref wE)]))
    refine Go.by' (fun t k => (XS.dloadN X15.here hx rfl (hb hby at_10) rfl (XS.dload X15.here hx rfl (hb hby at_11) rfl k))) ?_
    show Go p.tables e below Pf (T15.setTop (mkF m 13 #[.val (.int ix), .val (.int iy), .val (.double (FP.i2d ix)), .second, .val (.double (FP.i2d iy)), .second, .unset, .unset, .unset, .unset] [(.double (FP.i2d iy)), (.double (FP.i2d ix)), (.ref wE)]))
    obtain ⟨cq16, kq16, q16a, q16b, q16c⟩ := isOf hZ e15 (G.2.1.ext O0.2)
    obtain ⟨_, _, ⟨T16, L16, k16, n16⟩, -, X16, ⟨Lc16, hQ16, l16, y16, z16⟩, st16⟩ := X15.virtualBack hx (y := (⟨"com/example/libfnseq/libfnseq/NumericValue$Relation", "holds", "(DD)Z"⟩ : MethodName)) (z := (⟨"com/example/libfnseq/libfnseq/NumericValue$Relation", "holds", "(DD)Z"⟩ : MethodName)) hown (mvT hZ hw3) (mvT hZ hw4) (notFace_of_selects (args := #[]) (mvT hZ hw6)) (mvT hZ hw6) (mvT hZ hw5) (by decide) (backOf (W := 0) (rmDE l Z a0 hw [] wE wB wA G ((FP.i2d ix)) ((FP.i2d iy)) h0 n0 O0 ) hZ hw7 hw1 (by decide) (by decide)) q16a q16c (g := (mkF m 13 #[.val (.int ix), .val (.int iy), .val (.double (FP.i2d ix)), .second, .val (.double (FP.i2d iy)), .second, .unset, .unset, .unset, .unset] [(.double (FP.i2d iy)), (.double (FP.i2d ix)), (.ref wE)])) rfl (by rw [hml]; rfl) (Steps.refl _) (argsL := [(.double (FP.i2d ix)), (.double (FP.i2d iy))]) (rest := []) (lenOf pd_0 rfl) rfl (by show 2 * 0 + _ ≤ _; exact Nat.le_of_eq rfl) (hb hby at_13) (fun _ _ => ⟨rfl, e15, (by decide : 0 + 0 ≤ _), (by decide : 0 + 0 ≤ _)⟩)
    dsimp only [Pt.U, Pt.locs, Pt.cells, Pt.slots] at X16 l16 y16 z16 st16 hQ16
    subst l16 y16 z16
    obtain ⟨r_16, rfl, rfl, e16, r16_0⟩ := hQ16
    try rw [List.append_nil] at X16
    refine Go.by' (fun t k => st16.trans k) ?_
    obtain rfl : r_16 = (0 : Int32) := by
      simp only [own_dc, lw_lt, lw_gt, lw_eq, own_lt, own_eq] at r16_0
      rcases r16_0 with ⟨h1, h2⟩ | ⟨h1, h2⟩ <;> first | exact h2 | (exfalso; simp only [Int32.lt_iff_toInt_lt, ← Int32.toInt_inj] at h1 hp; omega)
    show Go p.tables e below Pf (T16.setTop (mkF m 16 #[.val (.int ix), .val (.int iy), .val (.double (FP.i2d ix)), .second, .val (.double (FP.i2d iy)), .second, .unset, .unset, .unset, .unset] [(.int (0 : Int32))]))
    refine Go.by' (fun t k => (XS.istore X16.here hx rfl (hb hby at_16) rfl (l' := #[.val (.int ix), .val (.int iy), .val (.double (FP.i2d ix)), .second, .val (.double (FP.i2d iy)), .second, .val (.int (0 : Int32)), .unset, .unset, .unset]) rfl k)) ?_
    show Go p.tables e below Pf (T16.setTop (mkF m 18 #[.val (.int ix), .val (.int iy), .val (.double (FP.i2d ix)), .second, .val (.double (FP.i2d iy)), .second, .val (.int (0 : Int32)), .unset, .unset, .unset] []))
    obtain ⟨T17, X17, e17, st17⟩ := getS2 X16 hx hZ hown (host := "") (Or.inl hw9) Via.refl e16 (G.2.2.1.ext O0.2) (g := (mkF m 18 #[.val (.int ix), .val (.int iy), .val (.double (FP.i2d ix)), .second, .val (.double (FP.i2d iy)), .second, .val (.int (0 : Int32)), .unset, .unset, .unset] [])) rfl (hb hby at_18)
    refine Go.by' st17 ?_
    show Go p.tables e below Pf (T17.setTop (mkF m 21 #[.val (.int ix), .val (.int iy), .val (.double (FP.i2d ix)), .second, .val (.double (FP.i2d iy)), .second, .val (.int (0 : Int32)), .unset, .unset, .unset] [(.ref wB)]))
    refine Go.by' (fun t k => (XS.dloadN X17.here hx rfl (hb hby at_21) rfl (XS.dload X17.here hx rfl (hb hby at_22) rfl k))) ?_
    show Go p.tables e below Pf (T17.setTop (mkF m 24 #[.val (.int ix), .val (.int iy), .val (.double (FP.i2d ix)), .second, .val (.double (FP.i2d iy)), .second, .val (.int (0 : Int32)), .unset, .unset, .unset] [(.double (FP.i2d iy)), (.double (FP.i2d ix)), (.ref wB)]))
    obtain ⟨cq18, kq18, q18a, q18b, q18c⟩ := isOf hZ e17 (G.2.2.2.1.ext O0.2)
    obtain ⟨_, _, ⟨T18, L18, k18, n18⟩, -, X18, ⟨Lc18, hQ18, l18, y18, z18⟩, st18⟩ := X17.virtualBack hx (y := (⟨"com/example/libfnseq/libfnseq/NumericValue$Relation", "holds", "(DD)Z"⟩ : MethodName)) (z := (⟨"com/example/libfnseq/libfnseq/NumericValue$Relation", "holds", "(DD)Z"⟩ : MethodName)) hown (mvT hZ hw3) (mvT hZ hw4) (notFace_of_selects (args := #[]) (mvT hZ hw6)) (mvT hZ hw6) (mvT hZ hw5) (by decide) (backOf (W := 0) (rmDB l Z a0 hw [] wE wB wA G ((FP.i2d ix)) ((FP.i2d iy)) h0 n0 O0 ) hZ hw7 hw1 (by decide) (by decide)) q18a q18c (g := (mkF m 24 #[.val (.int ix), .val (.int iy), .val (.double (FP.i2d ix)), .second, .val (.double (FP.i2d iy)), .second, .val (.int (0 : Int32)), .unset, .unset, .unset] [(.double (FP.i2d iy)), (.double (FP.i2d ix)), (.ref wB)])) rfl (by rw [hml]; rfl) (Steps.refl _) (argsL := [(.double (FP.i2d ix)), (.double (FP.i2d iy))]) (rest := []) (lenOf pd_0 rfl) rfl (by show 2 * 0 + _ ≤ _; exact Nat.le_of_eq rfl) (hb hby at_24) (fun _ _ => ⟨rfl, e17, (by decide : 0 + 0 ≤ _), (by decide : 0 + 0 ≤ _)⟩)
    dsimp only [Pt.U, Pt.locs, Pt.cells, Pt.slots] at X18 l18 y18 z18 st18 hQ18
    subst l18 y18 z18
    obtain ⟨r_18, rfl, rfl, e18, r18_0⟩ := hQ18
    try rw [List.append_nil] at X18
    refine Go.by' (fun t k => st18.trans k) ?_
    obtain rfl : r_18 = (1 : Int32) := by
      simp only [own_dc, lw_lt, lw_gt, lw_eq, own_lt, own_eq] at r18_0
      rcases r18_0 with ⟨h1, h2⟩ | ⟨h1, h2⟩ <;> first | exact h2 | (exfalso; simp only [Int32.lt_iff_toInt_lt, ← Int32.toInt_inj] at h1 hp; omega)
    show Go p.tables e below Pf (T18.setTop (mkF m 27 #[.val (.int ix), .val (.int iy), .val (.double (FP.i2d ix)), .second, .val (.double (FP.i2d iy)), .second, .val (.int (0 : Int32)), .unset, .unset, .unset] [(.int (1 : Int32))]))
    refine Go.by' (fun t k => (XS.istore X18.here hx rfl (hb hby at_27) rfl (l' := #[.val (.int ix), .val (.int iy), .val (.double (FP.i2d ix)), .second, .val (.double (FP.i2d iy)), .second, .val (.int (0 : Int32)), .val (.int (1 : Int32)), .unset, .unset]) rfl k)) ?_
    show Go p.tables e below Pf (T18.setTop (mkF m 29 #[.val (.int ix), .val (.int iy), .val (.double (FP.i2d ix)), .second, .val (.double (FP.i2d iy)), .second, .val (.int (0 : Int32)), .val (.int (1 : Int32)), .unset, .unset] []))
    obtain ⟨T19, X19, e19, st19⟩ := getS2 X18 hx hZ hown (host := "") (Or.inl hw12) Via.refl e18 (G.2.2.2.2.1.ext O0.2) (g := (mkF m 29 #[.val (.int ix), .val (.int iy), .val (.double (FP.i2d ix)), .second, .val (.double (FP.i2d iy)), .second, .val (.int (0 : Int32)), .val (.int (1 : Int32)), .unset, .unset] [])) rfl (hb hby at_29)
    refine Go.by' st19 ?_
    show Go p.tables e below Pf (T19.setTop (mkF m 32 #[.val (.int ix), .val (.int iy), .val (.double (FP.i2d ix)), .second, .val (.double (FP.i2d iy)), .second, .val (.int (0 : Int32)), .val (.int (1 : Int32)), .unset, .unset] [(.ref wA)]))
    refine Go.by' (fun t k => (XS.dloadN X19.here hx rfl (hb hby at_32) rfl (XS.dload X19.here hx rfl (hb hby at_33) rfl k))) ?_
    show Go p.tables e below Pf (T19.setTop (mkF m 35 #[.val (.int ix), .val (.int iy), .val (.double (FP.i2d ix)), .second, .val (.double (FP.i2d iy)), .second, .val (.int (0 : Int32)), .val (.int (1 : Int32)), .unset, .unset] [(.double (FP.i2d iy)), (.double (FP.i2d ix)), (.ref wA)]))
    obtain ⟨cq20, kq20, q20a, q20b, q20c⟩ := isOf hZ e19 (G.2.2.2.2.2.1.ext O0.2)
    obtain ⟨_, _, ⟨T20, L20, k20, n20⟩, -, X20, ⟨Lc20, hQ20, l20, y20, z20⟩, st20⟩ := X19.virtualBack hx (y := (⟨"com/example/libfnseq/libfnseq/NumericValue$Relation", "holds", "(DD)Z"⟩ : MethodName)) (z := (⟨"com/example/libfnseq/libfnseq/NumericValue$Relation", "holds", "(DD)Z"⟩ : MethodName)) hown (mvT hZ hw3) (mvT hZ hw4) (notFace_of_selects (args := #[]) (mvT hZ hw6)) (mvT hZ hw6) (mvT hZ hw5) (by decide) (backOf (W := 0) (rmDA l Z a0 hw [] wE wB wA G ((FP.i2d ix)) ((FP.i2d iy)) h0 n0 O0 ) hZ hw7 hw1 (by decide) (by decide)) q20a q20c (g := (mkF m 35 #[.val (.int ix), .val (.int iy), .val (.double (FP.i2d ix)), .second, .val (.double (FP.i2d iy)), .second, .val (.int (0 : Int32)), .val (.int (1 : Int32)), .unset, .unset] [(.double (FP.i2d iy)), (.double (FP.i2d ix)), (.ref wA)])) rfl (by rw [hml]; rfl) (Steps.refl _) (argsL := [(.double (FP.i2d ix)), (.double (FP.i2d iy))]) (rest := []) (lenOf pd_0 rfl) rfl (by show 2 * 0 + _ ≤ _; exact Nat.le_of_eq rfl) (hb hby at_35) (fun _ _ => ⟨rfl, e19, (by decide : 0 + 0 ≤ _), (by decide : 0 + 0 ≤ _)⟩)
    dsimp only [Pt.U, Pt.locs, Pt.cells, Pt.slots] at X20 l20 y20 z20 st20 hQ20
    subst l20 y20 z20
    obtain ⟨r_20, rfl, rfl, e20, r20_0⟩ := hQ20
    try rw [List.append_nil] at X20
    refine Go.by' (fun t k => st20.trans k) ?_
    obtain rfl : r_20 = (0 : Int32) := by
      simp only [own_dc, lw_lt, lw_gt, lw_eq, own_lt, own_eq] at r20_0
      rcases r20_0 with ⟨h1, h2⟩ | ⟨h1, h2⟩ <;> first | exact h2 | (exfalso; simp only [Int32.lt_iff_toInt_lt, ← Int32.toInt_inj] at h1 hp; omega)
    show Go p.tables e below Pf (T20.setTop (mkF m 38 #[.val (.int ix), .val (.int iy), .val (.double (FP.i2d ix)), .second, .val (.double (FP.i2d iy)), .second, .val (.int (0 : Int32)), .val (.int (1 : Int32)), .unset, .unset] [(.int (0 : Int32))]))
    refine Go.by' (fun t k => (XS.istore X20.here hx rfl (hb hby at_38) rfl (l' := #[.val (.int ix), .val (.int iy), .val (.double (FP.i2d ix)), .second, .val (.double (FP.i2d iy)), .second, .val (.int (0 : Int32)), .val (.int (1 : Int32)), .val (.int (0 : Int32)), .unset]) rfl k)) ?_
    show Go p.tables e below Pf (T20.setTop (mkF m 40 #[.val (.int ix), .val (.int iy), .val (.double (FP.i2d ix)), .second, .val (.double (FP.i2d iy)), .second, .val (.int (0 : Int32)), .val (.int (1 : Int32)), .val (.int (0 : Int32)), .unset] []))
    obtain ⟨T21, X21, e21, st21⟩ := getS2 X20 hx hZ hown (host := "") (Or.inl hw9) Via.refl e20 (G.2.2.1.ext O0.2) (g := (mkF m 40 #[.val (.int ix), .val (.int iy), .val (.double (FP.i2d ix)), .second, .val (.double (FP.i2d iy)), .second, .val (.int (0 : Int32)), .val (.int (1 : Int32)), .val (.int (0 : Int32)), .unset] [])) rfl (hb hby at_40)
    refine Go.by' st21 ?_
    show Go p.tables e below Pf (T21.setTop (mkF m 43 #[.val (.int ix), .val (.int iy), .val (.double (FP.i2d ix)), .second, .val (.double (FP.i2d iy)), .second, .val (.int (0 : Int32)), .val (.int (1 : Int32)), .val (.int (0 : Int32)), .unset] [(.ref wB)]))
    refine Go.by' (fun t k => (XS.dload X21.here hx rfl (hb hby at_43) rfl (XS.dloadN X21.here hx rfl (hb hby at_45) rfl k))) ?_
    show Go p.tables e below Pf (T21.setTop (mkF m 46 #[.val (.int ix), .val (.int iy), .val (.double (FP.i2d ix)), .second, .val (.double (FP.i2d iy)), .second, .val (.int (0 : Int32)), .val (.int (1 : Int32)), .val (.int (0 : Int32)), .unset] [(.double (FP.i2d ix)), (.double (FP.i2d iy)), (.ref wB)]))
    obtain ⟨cq22, kq22, q22a, q22b, q22c⟩ := isOf hZ e21 (G.2.2.2.1.ext O0.2)
    obtain ⟨_, _, ⟨T22, L22, k22, n22⟩, -, X22, ⟨Lc22, hQ22, l22, y22, z22⟩, st22⟩ := X21.virtualBack hx (y := (⟨"com/example/libfnseq/libfnseq/NumericValue$Relation", "holds", "(DD)Z"⟩ : MethodName)) (z := (⟨"com/example/libfnseq/libfnseq/NumericValue$Relation", "holds", "(DD)Z"⟩ : MethodName)) hown (mvT hZ hw3) (mvT hZ hw4) (notFace_of_selects (args := #[]) (mvT hZ hw6)) (mvT hZ hw6) (mvT hZ hw5) (by decide) (backOf (W := 0) (rmDB l Z a0 hw [] wE wB wA G ((FP.i2d iy)) ((FP.i2d ix)) h0 n0 O0 ) hZ hw7 hw1 (by decide) (by decide)) q22a q22c (g := (mkF m 46 #[.val (.int ix), .val (.int iy), .val (.double (FP.i2d ix)), .second, .val (.double (FP.i2d iy)), .second, .val (.int (0 : Int32)), .val (.int (1 : Int32)), .val (.int (0 : Int32)), .unset] [(.double (FP.i2d ix)), (.double (FP.i2d iy)), (.ref wB)])) rfl (by rw [hml]; rfl) (Steps.refl _) (argsL := [(.double (FP.i2d iy)), (.double (FP.i2d ix))]) (rest := []) (lenOf pd_0 rfl) rfl (by show 2 * 0 + _ ≤ _; exact Nat.le_of_eq rfl) (hb hby at_46) (fun _ _ => ⟨rfl, e21, (by decide : 0 + 0 ≤ _), (by decide : 0 + 0 ≤ _)⟩)
    dsimp only [Pt.U, Pt.locs, Pt.cells, Pt.slots] at X22 l22 y22 z22 st22 hQ22
    subst l22 y22 z22
    obtain ⟨r_22, rfl, rfl, e22, r22_0⟩ := hQ22
    try rw [List.append_nil] at X22
    refine Go.by' (fun t k => st22.trans k) ?_
    obtain rfl : r_22 = (0 : Int32) := by
      simp only [own_dc, lw_lt, lw_gt, lw_eq, own_lt, own_eq] at r22_0
      rcases r22_0 with ⟨h1, h2⟩ | ⟨h1, h2⟩ <;> first | exact h2 | (exfalso; simp only [Int32.lt_iff_toInt_lt, ← Int32.toInt_inj] at h1 hp; omega)
    show Go p.tables e below Pf (T22.setTop (mkF m 49 #[.val (.int ix), .val (.int iy), .val (.double (FP.i2d ix)), .second, .val (.double (FP.i2d iy)), .second, .val (.int (0 : Int32)), .val (.int (1 : Int32)), .val (.int (0 : Int32)), .unset] [(.int (0 : Int32))]))
    refine Go.by' (fun t k => (XS.istore X22.here hx rfl (hb hby at_49) rfl (l' := #[.val (.int ix), .val (.int iy), .val (.double (FP.i2d ix)), .second, .val (.double (FP.i2d iy)), .second, .val (.int (0 : Int32)), .val (.int (1 : Int32)), .val (.int (0 : Int32)), .val (.int (0 : Int32))]) rfl (XS.iload X22.here hx rfl (hb hby at_51) rfl (XS.iloadN X22.here hx rfl (hb hby at_53) rfl (XS.iloadN X22.here hx rfl (hb hby at_54) rfl (XS.icmpYes X22.here hx rfl (pc0 := 55) (pc' := 62) rfl (hb hby at_55) rfl (feq (by simp only [Int32.lt_iff_toInt_lt, ← Int32.toInt_inj] at hp ⊢; omega)).2 (by decide) (by decide) (XS.iconst X22.here hx rfl (hb hby at_62) k))))))) ?_
    show Go p.tables e below Pf (T22.setTop (mkF m 63 #[.val (.int ix), .val (.int iy), .val (.double (FP.i2d ix)), .second, .val (.double (FP.i2d iy)), .second, .val (.int (0 : Int32)), .val (.int (1 : Int32)), .val (.int (0 : Int32)), .val (.int (0 : Int32))] [(.int (0 : Int32)), (.int (0 : Int32))]))
    refine Go.by' (fun t k => (XS.icmpNo X22.here hx rfl (hb hby at_63) rfl (teq (by decide)).2 (XS.iload X22.here hx rfl (hb hby at_66) rfl (XS.iloadN X22.here hx rfl (hb hby at_68) rfl (XS.iloadN X22.here hx rfl (hb hby at_69) rfl (XS.icmpNo X22.here hx rfl (hb hby at_70) rfl (tlt hp).2.1 (XS.iconst X22.here hx rfl (hb hby at_73) k))))))) ?_
    show Go p.tables e below Pf (T22.setTop (mkF m 74 #[.val (.int ix), .val (.int iy), .val (.double (FP.i2d ix)), .second, .val (.double (FP.i2d iy)), .second, .val (.int (0 : Int32)), .val (.int (1 : Int32)), .val (.int (0 : Int32)), .val (.int (0 : Int32))] [(.int (1 : Int32)), (.int (1 : Int32))]))
    refine Go.by' (fun t k => (XS.goto X22.here hx rfl (pc0 := 74) (pc' := 78) rfl (hb hby at_74) (by decide) (by decide) (XS.icmpNo X22.here hx rfl (hb hby at_78) rfl (teq (by decide)).2 (XS.iload X22.here hx rfl (hb hby at_81) rfl (XS.iloadN X22.here hx rfl (hb hby at_83) rfl (XS.iloadN X22.here hx rfl (hb hby at_84) rfl (XS.icmpYes X22.here hx rfl (pc0 := 85) (pc' := 92) rfl (hb hby at_85) rfl (flt (by simp only [Int32.lt_iff_toInt_lt, ← Int32.toInt_inj] at hp ⊢; omega)).2.2.2 (by decide) (by decide) k))))))) ?_
    show Go p.tables e below Pf (T22.setTop (mkF m 92 #[.val (.int ix), .val (.int iy), .val (.double (FP.i2d ix)), .second, .val (.double (FP.i2d iy)), .second, .val (.int (0 : Int32)), .val (.int (1 : Int32)), .val (.int (0 : Int32)), .val (.int (0 : Int32))] [(.int (0 : Int32))]))
    refine Go.by' (fun t k => (XS.iconst X22.here hx rfl (hb hby at_92) (XS.icmpNo X22.here hx rfl (hb hby at_93) rfl (teq (by decide)).2 (XS.iload X22.here hx rfl (hb hby at_96) rfl (XS.iload X22.here hx rfl (hb hby at_98) rfl (XS.icmpNo X22.here hx rfl (hb hby at_100) rfl (teq (by decide)).2 (XS.iconst X22.here hx rfl (hb hby at_103) k))))))) ?_
    show Go p.tables e below Pf (T22.setTop (mkF m 104 #[.val (.int ix), .val (.int iy), .val (.double (FP.i2d ix)), .second, .val (.double (FP.i2d iy)), .second, .val (.int (0 : Int32)), .val (.int (1 : Int32)), .val (.int (0 : Int32)), .val (.int (0 : Int32))] [(.int (1 : Int32))]))
    refine Go.by' (fun t k => (XS.goto X22.here hx rfl (pc0 := 104) (pc' := 108) rfl (hb hby at_104) (by decide) (by decide) k)) ?_
    show Go p.tables e below Pf (T22.setTop (mkF m 108 #[.val (.int ix), .val (.int iy), .val (.double (FP.i2d ix)), .second, .val (.double (FP.i2d iy)), .second, .val (.int (0 : Int32)), .val (.int (1 : Int32)), .val (.int (0 : Int32)), .val (.int (0 : Int32))] [(.int (1 : Int32))]))
    rw [hPf]
    exact Go.retI' X22 hx hret hlk (by simp) rfl (hb hby at_108) (by decide) (by decide) ⟨rfl, rfl, e22⟩
  · show Go p.tables e below Pf (s₁.setTop (mkF m 0 #[.val (.int ix), .val (.int iy), .unset, .unset, .unset, .unset, .unset, .unset, .unset, .unset] []))
    refine Go.by' (fun t k => (XS.iloadN X0.here hx rfl (hb hby at_0) rfl (XS.i2dS X0.here hx rfl (hb hby at_1) rfl rfl (XS.dstoreN X0.here hx rfl (hb hby at_2) rfl (l' := #[.val (.int ix), .val (.int iy), .val (.double (FP.i2d ix)), .second, .unset, .unset, .unset, .unset, .unset, .unset]) rfl (XS.iloadN X0.here hx rfl (hb hby at_3) rfl (XS.i2dS X0.here hx rfl (hb hby at_4) rfl rfl (XS.dstore X0.here hx rfl (hb hby at_5) rfl (l' := #[.val (.int ix), .val (.int iy), .val (.double (FP.i2d ix)), .second, .val (.double (FP.i2d iy)), .second, .unset, .unset, .unset, .unset]) rfl k))))))) ?_
    show Go p.tables e below Pf (s₁.setTop (mkF m 7 #[.val (.int ix), .val (.int iy), .val (.double (FP.i2d ix)), .second, .val (.double (FP.i2d iy)), .second, .unset, .unset, .unset, .unset] []))
    obtain ⟨T23, X23, e23, st23⟩ := getS2 X0 hx hZ hown (host := "") (Or.inl hw0) Via.refl e0 (G.1.ext O0.2) (g := (mkF m 7 #[.val (.int ix), .val (.int iy), .val (.double (FP.i2d ix)), .second, .val (.double (FP.i2d iy)), .second, .unset, .unset, .unset, .unset] [])) rfl (hb hby at_7)
    refine Go.by' st23 ?_
    show Go p.tables e below Pf (T23.setTop (mkF m 10 #[.val (.int ix), .val (.int iy), .val (.double (FP.i2d ix)), .second, .val (.double (FP.i2d iy)), .second, .unset, .unset, .unset, .unset] [(.ref wE)]))
    refine Go.by' (fun t k => (XS.dloadN X23.here hx rfl (hb hby at_10) rfl (XS.dload X23.here hx rfl (hb hby at_11) rfl k))) ?_
    show Go p.tables e below Pf (T23.setTop (mkF m 13 #[.val (.int ix), .val (.int iy), .val (.double (FP.i2d ix)), .second, .val (.double (FP.i2d iy)), .second, .unset, .unset, .unset, .unset] [(.double (FP.i2d iy)), (.double (FP.i2d ix)), (.ref wE)]))
    obtain ⟨cq24, kq24, q24a, q24b, q24c⟩ := isOf hZ e23 (G.2.1.ext O0.2)
    obtain ⟨_, _, ⟨T24, L24, k24, n24⟩, -, X24, ⟨Lc24, hQ24, l24, y24, z24⟩, st24⟩ := X23.virtualBack hx (y := (⟨"com/example/libfnseq/libfnseq/NumericValue$Relation", "holds", "(DD)Z"⟩ : MethodName)) (z := (⟨"com/example/libfnseq/libfnseq/NumericValue$Relation", "holds", "(DD)Z"⟩ : MethodName)) hown (mvT hZ hw3) (mvT hZ hw4) (notFace_of_selects (args := #[]) (mvT hZ hw6)) (mvT hZ hw6) (mvT hZ hw5) (by decide) (backOf (W := 0) (rmDE l Z a0 hw [] wE wB wA G ((FP.i2d ix)) ((FP.i2d iy)) h0 n0 O0 ) hZ hw7 hw1 (by decide) (by decide)) q24a q24c (g := (mkF m 13 #[.val (.int ix), .val (.int iy), .val (.double (FP.i2d ix)), .second, .val (.double (FP.i2d iy)), .second, .unset, .unset, .unset, .unset] [(.double (FP.i2d iy)), (.double (FP.i2d ix)), (.ref wE)])) rfl (by rw [hml]; rfl) (Steps.refl _) (argsL := [(.double (FP.i2d ix)), (.double (FP.i2d iy))]) (rest := []) (lenOf pd_0 rfl) rfl (by show 2 * 0 + _ ≤ _; exact Nat.le_of_eq rfl) (hb hby at_13) (fun _ _ => ⟨rfl, e23, (by decide : 0 + 0 ≤ _), (by decide : 0 + 0 ≤ _)⟩)
    dsimp only [Pt.U, Pt.locs, Pt.cells, Pt.slots] at X24 l24 y24 z24 st24 hQ24
    subst l24 y24 z24
    obtain ⟨r_24, rfl, rfl, e24, r24_0⟩ := hQ24
    try rw [List.append_nil] at X24
    refine Go.by' (fun t k => st24.trans k) ?_
    obtain rfl : r_24 = (1 : Int32) := by
      simp only [own_dc, lw_lt, lw_gt, lw_eq, own_lt, own_eq] at r24_0
      rcases r24_0 with ⟨h1, h2⟩ | ⟨h1, h2⟩ <;> first | exact h2 | (exfalso; simp only [Int32.lt_iff_toInt_lt, ← Int32.toInt_inj] at h1 hp; omega)
    show Go p.tables e below Pf (T24.setTop (mkF m 16 #[.val (.int ix), .val (.int iy), .val (.double (FP.i2d ix)), .second, .val (.double (FP.i2d iy)), .second, .unset, .unset, .unset, .unset] [(.int (1 : Int32))]))
    refine Go.by' (fun t k => (XS.istore X24.here hx rfl (hb hby at_16) rfl (l' := #[.val (.int ix), .val (.int iy), .val (.double (FP.i2d ix)), .second, .val (.double (FP.i2d iy)), .second, .val (.int (1 : Int32)), .unset, .unset, .unset]) rfl k)) ?_
    show Go p.tables e below Pf (T24.setTop (mkF m 18 #[.val (.int ix), .val (.int iy), .val (.double (FP.i2d ix)), .second, .val (.double (FP.i2d iy)), .second, .val (.int (1 : Int32)), .unset, .unset, .unset] []))
    obtain ⟨T25, X25, e25, st25⟩ := getS2 X24 hx hZ hown (host := "") (Or.inl hw9) Via.refl e24 (G.2.2.1.ext O0.2) (g := (mkF m 18 #[.val (.int ix), .val (.int iy), .val (.double (FP.i2d ix)), .second, .val (.double (FP.i2d iy)), .second, .val (.int (1 : Int32)), .unset, .unset, .unset] [])) rfl (hb hby at_18)
    refine Go.by' st25 ?_
    show Go p.tables e below Pf (T25.setTop (mkF m 21 #[.val (.int ix), .val (.int iy), .val (.double (FP.i2d ix)), .second, .val (.double (FP.i2d iy)), .second, .val (.int (1 : Int32)), .unset, .unset, .unset] [(.ref wB)]))
    refine Go.by' (fun t k => (XS.dloadN X25.here hx rfl (hb hby at_21) rfl (XS.dload X25.here hx rfl (hb hby at_22) rfl k))) ?_
    show Go p.tables e below Pf (T25.setTop (mkF m 24 #[.val (.int ix), .val (.int iy), .val (.double (FP.i2d ix)), .second, .val (.double (FP.i2d iy)), .second, .val (.int (1 : Int32)), .unset, .unset, .unset] [(.double (FP.i2d iy)), (.double (FP.i2d ix)), (.ref wB)]))
    obtain ⟨cq26, kq26, q26a, q26b, q26c⟩ := isOf hZ e25 (G.2.2.2.1.ext O0.2)
    obtain ⟨_, _, ⟨T26, L26, k26, n26⟩, -, X26, ⟨Lc26, hQ26, l26, y26, z26⟩, st26⟩ := X25.virtualBack hx (y := (⟨"com/example/libfnseq/libfnseq/NumericValue$Relation", "holds", "(DD)Z"⟩ : MethodName)) (z := (⟨"com/example/libfnseq/libfnseq/NumericValue$Relation", "holds", "(DD)Z"⟩ : MethodName)) hown (mvT hZ hw3) (mvT hZ hw4) (notFace_of_selects (args := #[]) (mvT hZ hw6)) (mvT hZ hw6) (mvT hZ hw5) (by decide) (backOf (W := 0) (rmDB l Z a0 hw [] wE wB wA G ((FP.i2d ix)) ((FP.i2d iy)) h0 n0 O0 ) hZ hw7 hw1 (by decide) (by decide)) q26a q26c (g := (mkF m 24 #[.val (.int ix), .val (.int iy), .val (.double (FP.i2d ix)), .second, .val (.double (FP.i2d iy)), .second, .val (.int (1 : Int32)), .unset, .unset, .unset] [(.double (FP.i2d iy)), (.double (FP.i2d ix)), (.ref wB)])) rfl (by rw [hml]; rfl) (Steps.refl _) (argsL := [(.double (FP.i2d ix)), (.double (FP.i2d iy))]) (rest := []) (lenOf pd_0 rfl) rfl (by show 2 * 0 + _ ≤ _; exact Nat.le_of_eq rfl) (hb hby at_24) (fun _ _ => ⟨rfl, e25, (by decide : 0 + 0 ≤ _), (by decide : 0 + 0 ≤ _)⟩)
    dsimp only [Pt.U, Pt.locs, Pt.cells, Pt.slots] at X26 l26 y26 z26 st26 hQ26
    subst l26 y26 z26
    obtain ⟨r_26, rfl, rfl, e26, r26_0⟩ := hQ26
    try rw [List.append_nil] at X26
    refine Go.by' (fun t k => st26.trans k) ?_
    obtain rfl : r_26 = (0 : Int32) := by
      simp only [own_dc, lw_lt, lw_gt, lw_eq, own_lt, own_eq] at r26_0
      rcases r26_0 with ⟨h1, h2⟩ | ⟨h1, h2⟩ <;> first | exact h2 | (exfalso; simp only [Int32.lt_iff_toInt_lt, ← Int32.toInt_inj] at h1 hp; omega)
    show Go p.tables e below Pf (T26.setTop (mkF m 27 #[.val (.int ix), .val (.int iy), .val (.double (FP.i2d ix)), .second, .val (.double (FP.i2d iy)), .second, .val (.int (1 : Int32)), .unset, .unset, .unset] [(.int (0 : Int32))]))
    refine Go.by' (fun t k => (XS.istore X26.here hx rfl (hb hby at_27) rfl (l' := #[.val (.int ix), .val (.int iy), .val (.double (FP.i2d ix)), .second, .val (.double (FP.i2d iy)), .second, .val (.int (1 : Int32)), .val (.int (0 : Int32)), .unset, .unset]) rfl k)) ?_
    show Go p.tables e below Pf (T26.setTop (mkF m 29 #[.val (.int ix), .val (.int iy), .val (.double (FP.i2d ix)), .second, .val (.double (FP.i2d iy)), .second, .val (.int (1 : Int32)), .val (.int (0 : Int32)), .unset, .unset] []))
    obtain ⟨T27, X27, e27, st27⟩ := getS2 X26 hx hZ hown (host := "") (Or.inl hw12) Via.refl e26 (G.2.2.2.2.1.ext O0.2) (g := (mkF m 29 #[.val (.int ix), .val (.int iy), .val (.double (FP.i2d ix)), .second, .val (.double (FP.i2d iy)), .second, .val (.int (1 : Int32)), .val (.int (0 : Int32)), .unset, .unset] [])) rfl (hb hby at_29)
    refine Go.by' st27 ?_
    show Go p.tables e below Pf (T27.setTop (mkF m 32 #[.val (.int ix), .val (.int iy), .val (.double (FP.i2d ix)), .second, .val (.double (FP.i2d iy)), .second, .val (.int (1 : Int32)), .val (.int (0 : Int32)), .unset, .unset] [(.ref wA)]))
    refine Go.by' (fun t k => (XS.dloadN X27.here hx rfl (hb hby at_32) rfl (XS.dload X27.here hx rfl (hb hby at_33) rfl k))) ?_
    show Go p.tables e below Pf (T27.setTop (mkF m 35 #[.val (.int ix), .val (.int iy), .val (.double (FP.i2d ix)), .second, .val (.double (FP.i2d iy)), .second, .val (.int (1 : Int32)), .val (.int (0 : Int32)), .unset, .unset] [(.double (FP.i2d iy)), (.double (FP.i2d ix)), (.ref wA)]))
    obtain ⟨cq28, kq28, q28a, q28b, q28c⟩ := isOf hZ e27 (G.2.2.2.2.2.1.ext O0.2)
    obtain ⟨_, _, ⟨T28, L28, k28, n28⟩, -, X28, ⟨Lc28, hQ28, l28, y28, z28⟩, st28⟩ := X27.virtualBack hx (y := (⟨"com/example/libfnseq/libfnseq/NumericValue$Relation", "holds", "(DD)Z"⟩ : MethodName)) (z := (⟨"com/example/libfnseq/libfnseq/NumericValue$Relation", "holds", "(DD)Z"⟩ : MethodName)) hown (mvT hZ hw3) (mvT hZ hw4) (notFace_of_selects (args := #[]) (mvT hZ hw6)) (mvT hZ hw6) (mvT hZ hw5) (by decide) (backOf (W := 0) (rmDA l Z a0 hw [] wE wB wA G ((FP.i2d ix)) ((FP.i2d iy)) h0 n0 O0 ) hZ hw7 hw1 (by decide) (by decide)) q28a q28c (g := (mkF m 35 #[.val (.int ix), .val (.int iy), .val (.double (FP.i2d ix)), .second, .val (.double (FP.i2d iy)), .second, .val (.int (1 : Int32)), .val (.int (0 : Int32)), .unset, .unset] [(.double (FP.i2d iy)), (.double (FP.i2d ix)), (.ref wA)])) rfl (by rw [hml]; rfl) (Steps.refl _) (argsL := [(.double (FP.i2d ix)), (.double (FP.i2d iy))]) (rest := []) (lenOf pd_0 rfl) rfl (by show 2 * 0 + _ ≤ _; exact Nat.le_of_eq rfl) (hb hby at_35) (fun _ _ => ⟨rfl, e27, (by decide : 0 + 0 ≤ _), (by decide : 0 + 0 ≤ _)⟩)
    dsimp only [Pt.U, Pt.locs, Pt.cells, Pt.slots] at X28 l28 y28 z28 st28 hQ28
    subst l28 y28 z28
    obtain ⟨r_28, rfl, rfl, e28, r28_0⟩ := hQ28
    try rw [List.append_nil] at X28
    refine Go.by' (fun t k => st28.trans k) ?_
    obtain rfl : r_28 = (0 : Int32) := by
      simp only [own_dc, lw_lt, lw_gt, lw_eq, own_lt, own_eq] at r28_0
      rcases r28_0 with ⟨h1, h2⟩ | ⟨h1, h2⟩ <;> first | exact h2 | (exfalso; simp only [Int32.lt_iff_toInt_lt, ← Int32.toInt_inj] at h1 hp; omega)
    show Go p.tables e below Pf (T28.setTop (mkF m 38 #[.val (.int ix), .val (.int iy), .val (.double (FP.i2d ix)), .second, .val (.double (FP.i2d iy)), .second, .val (.int (1 : Int32)), .val (.int (0 : Int32)), .unset, .unset] [(.int (0 : Int32))]))
    refine Go.by' (fun t k => (XS.istore X28.here hx rfl (hb hby at_38) rfl (l' := #[.val (.int ix), .val (.int iy), .val (.double (FP.i2d ix)), .second, .val (.double (FP.i2d iy)), .second, .val (.int (1 : Int32)), .val (.int (0 : Int32)), .val (.int (0 : Int32)), .unset]) rfl k)) ?_
    show Go p.tables e below Pf (T28.setTop (mkF m 40 #[.val (.int ix), .val (.int iy), .val (.double (FP.i2d ix)), .second, .val (.double (FP.i2d iy)), .second, .val (.int (1 : Int32)), .val (.int (0 : Int32)), .val (.int (0 : Int32)), .unset] []))
    obtain ⟨T29, X29, e29, st29⟩ := getS2 X28 hx hZ hown (host := "") (Or.inl hw9) Via.refl e28 (G.2.2.1.ext O0.2) (g := (mkF m 40 #[.val (.int ix), .val (.int iy), .val (.double (FP.i2d ix)), .second, .val (.double (FP.i2d iy)), .second, .val (.int (1 : Int32)), .val (.int (0 : Int32)), .val (.int (0 : Int32)), .unset] [])) rfl (hb hby at_40)
    refine Go.by' st29 ?_
    show Go p.tables e below Pf (T29.setTop (mkF m 43 #[.val (.int ix), .val (.int iy), .val (.double (FP.i2d ix)), .second, .val (.double (FP.i2d iy)), .second, .val (.int (1 : Int32)), .val (.int (0 : Int32)), .val (.int (0 : Int32)), .unset] [(.ref wB)]))
    refine Go.by' (fun t k => (XS.dload X29.here hx rfl (hb hby at_43) rfl (XS.dloadN X29.here hx rfl (hb hby at_45) rfl k))) ?_
    show Go p.tables e below Pf (T29.setTop (mkF m 46 #[.val (.int ix), .val (.int iy), .val (.double (FP.i2d ix)), .second, .val (.double (FP.i2d iy)), .second, .val (.int (1 : Int32)), .val (.int (0 : Int32)), .val (.int (0 : Int32)), .unset] [(.double (FP.i2d ix)), (.double (FP.i2d iy)), (.ref wB)]))
    obtain ⟨cq30, kq30, q30a, q30b, q30c⟩ := isOf hZ e29 (G.2.2.2.1.ext O0.2)
    obtain ⟨_, _, ⟨T30, L30, k30, n30⟩, -, X30, ⟨Lc30, hQ30, l30, y30, z30⟩, st30⟩ := X29.virtualBack hx (y := (⟨"com/example/libfnseq/libfnseq/NumericValue$Relation", "holds", "(DD)Z"⟩ : MethodName)) (z := (⟨"com/example/libfnseq/libfnseq/NumericValue$Relation", "holds", "(DD)Z"⟩ : MethodName)) hown (mvT hZ hw3) (mvT hZ hw4) (notFace_of_selects (args := #[]) (mvT hZ hw6)) (mvT hZ hw6) (mvT hZ hw5) (by decide) (backOf (W := 0) (rmDB l Z a0 hw [] wE wB wA G ((FP.i2d iy)) ((FP.i2d ix)) h0 n0 O0 ) hZ hw7 hw1 (by decide) (by decide)) q30a q30c (g := (mkF m 46 #[.val (.int ix), .val (.int iy), .val (.double (FP.i2d ix)), .second, .val (.double (FP.i2d iy)), .second, .val (.int (1 : Int32)), .val (.int (0 : Int32)), .val (.int (0 : Int32)), .unset] [(.double (FP.i2d ix)), (.double (FP.i2d iy)), (.ref wB)])) rfl (by rw [hml]; rfl) (Steps.refl _) (argsL := [(.double (FP.i2d iy)), (.double (FP.i2d ix))]) (rest := []) (lenOf pd_0 rfl) rfl (by show 2 * 0 + _ ≤ _; exact Nat.le_of_eq rfl) (hb hby at_46) (fun _ _ => ⟨rfl, e29, (by decide : 0 + 0 ≤ _), (by decide : 0 + 0 ≤ _)⟩)
    dsimp only [Pt.U, Pt.locs, Pt.cells, Pt.slots] at X30 l30 y30 z30 st30 hQ30
    subst l30 y30 z30
    obtain ⟨r_30, rfl, rfl, e30, r30_0⟩ := hQ30
    try rw [List.append_nil] at X30
    refine Go.by' (fun t k => st30.trans k) ?_
    obtain rfl : r_30 = (0 : Int32) := by
      simp only [own_dc, lw_lt, lw_gt, lw_eq, own_lt, own_eq] at r30_0
      rcases r30_0 with ⟨h1, h2⟩ | ⟨h1, h2⟩ <;> first | exact h2 | (exfalso; simp only [Int32.lt_iff_toInt_lt, ← Int32.toInt_inj] at h1 hp; omega)
    show Go p.tables e below Pf (T30.setTop (mkF m 49 #[.val (.int ix), .val (.int iy), .val (.double (FP.i2d ix)), .second, .val (.double (FP.i2d iy)), .second, .val (.int (1 : Int32)), .val (.int (0 : Int32)), .val (.int (0 : Int32)), .unset] [(.int (0 : Int32))]))
    refine Go.by' (fun t k => (XS.istore X30.here hx rfl (hb hby at_49) rfl (l' := #[.val (.int ix), .val (.int iy), .val (.double (FP.i2d ix)), .second, .val (.double (FP.i2d iy)), .second, .val (.int (1 : Int32)), .val (.int (0 : Int32)), .val (.int (0 : Int32)), .val (.int (0 : Int32))]) rfl (XS.iload X30.here hx rfl (hb hby at_51) rfl (XS.iloadN X30.here hx rfl (hb hby at_53) rfl (XS.iloadN X30.here hx rfl (hb hby at_54) rfl (XS.icmpNo X30.here hx rfl (hb hby at_55) rfl (teq hp).2 (XS.iconst X30.here hx rfl (hb hby at_58) k))))))) ?_
    show Go p.tables e below Pf (T30.setTop (mkF m 59 #[.val (.int ix), .val (.int iy), .val (.double (FP.i2d ix)), .second, .val (.double (FP.i2d iy)), .second, .val (.int (1 : Int32)), .val (.int (0 : Int32)), .val (.int (0 : Int32)), .val (.int (0 : Int32))] [(.int (1 : Int32)), (.int (1 : Int32))]))
    refine Go.by' (fun t k => (XS.goto X30.here hx rfl (pc0 := 59) (pc' := 63) rfl (hb hby at_59) (by decide) (by decide) (XS.icmpNo X30.here hx rfl (hb hby at_63) rfl (teq (by decide)).2 (XS.iload X30.here hx rfl (hb hby at_66) rfl (XS.iloadN X30.here hx rfl (hb hby at_68) rfl (XS.iloadN X30.here hx rfl (hb hby at_69) rfl (XS.icmpYes X30.here hx rfl (pc0 := 70) (pc' := 77) rfl (hb hby at_70) rfl (flt (by simp only [Int32.lt_iff_toInt_lt, ← Int32.toInt_inj] at hp ⊢; omega)).2.1 (by decide) (by decide) k))))))) ?_
    show Go p.tables e below Pf (T30.setTop (mkF m 77 #[.val (.int ix), .val (.int iy), .val (.double (FP.i2d ix)), .second, .val (.double (FP.i2d iy)), .second, .val (.int (1 : Int32)), .val (.int (0 : Int32)), .val (.int (0 : Int32)), .val (.int (0 : Int32))] [(.int (0 : Int32))]))
    refine Go.by' (fun t k => (XS.iconst X30.here hx rfl (hb hby at_77) (XS.icmpNo X30.here hx rfl (hb hby at_78) rfl (teq (by decide)).2 (XS.iload X30.here hx rfl (hb hby at_81) rfl (XS.iloadN X30.here hx rfl (hb hby at_83) rfl (XS.iloadN X30.here hx rfl (hb hby at_84) rfl (XS.icmpYes X30.here hx rfl (pc0 := 85) (pc' := 92) rfl (hb hby at_85) rfl (flt (by simp only [Int32.lt_iff_toInt_lt, ← Int32.toInt_inj] at hp ⊢; omega)).2.2.2 (by decide) (by decide) k))))))) ?_
    show Go p.tables e below Pf (T30.setTop (mkF m 92 #[.val (.int ix), .val (.int iy), .val (.double (FP.i2d ix)), .second, .val (.double (FP.i2d iy)), .second, .val (.int (1 : Int32)), .val (.int (0 : Int32)), .val (.int (0 : Int32)), .val (.int (0 : Int32))] [(.int (0 : Int32))]))
    refine Go.by' (fun t k => (XS.iconst X30.here hx rfl (hb hby at_92) (XS.icmpNo X30.here hx rfl (hb hby at_93) rfl (teq (by decide)).2 (XS.iload X30.here hx rfl (hb hby at_96) rfl (XS.iload X30.here hx rfl (hb hby at_98) rfl (XS.icmpNo X30.here hx rfl (hb hby at_100) rfl (teq (by decide)).2 (XS.iconst X30.here hx rfl (hb hby at_103) k))))))) ?_
    show Go p.tables e below Pf (T30.setTop (mkF m 104 #[.val (.int ix), .val (.int iy), .val (.double (FP.i2d ix)), .second, .val (.double (FP.i2d iy)), .second, .val (.int (1 : Int32)), .val (.int (0 : Int32)), .val (.int (0 : Int32)), .val (.int (0 : Int32))] [(.int (1 : Int32))]))
    refine Go.by' (fun t k => (XS.goto X30.here hx rfl (pc0 := 104) (pc' := 108) rfl (hb hby at_104) (by decide) (by decide) k)) ?_
    show Go p.tables e below Pf (T30.setTop (mkF m 108 #[.val (.int ix), .val (.int iy), .val (.double (FP.i2d ix)), .second, .val (.double (FP.i2d iy)), .second, .val (.int (1 : Int32)), .val (.int (0 : Int32)), .val (.int (0 : Int32)), .val (.int (0 : Int32))] [(.int (1 : Int32))]))
    rw [hPf]
    exact Go.retI' X30 hx hret hlk (by simp) rfl (hb hby at_108) (by decide) (by decide) ⟨rfl, rfl, e30⟩
  · show Go p.tables e below Pf (s₁.setTop (mkF m 0 #[.val (.int ix), .val (.int iy), .unset, .unset, .unset, .unset, .unset, .unset, .unset, .unset] []))
    refine Go.by' (fun t k => (XS.iloadN X0.here hx rfl (hb hby at_0) rfl (XS.i2dS X0.here hx rfl (hb hby at_1) rfl rfl (XS.dstoreN X0.here hx rfl (hb hby at_2) rfl (l' := #[.val (.int ix), .val (.int iy), .val (.double (FP.i2d ix)), .second, .unset, .unset, .unset, .unset, .unset, .unset]) rfl (XS.iloadN X0.here hx rfl (hb hby at_3) rfl (XS.i2dS X0.here hx rfl (hb hby at_4) rfl rfl (XS.dstore X0.here hx rfl (hb hby at_5) rfl (l' := #[.val (.int ix), .val (.int iy), .val (.double (FP.i2d ix)), .second, .val (.double (FP.i2d iy)), .second, .unset, .unset, .unset, .unset]) rfl k))))))) ?_
    show Go p.tables e below Pf (s₁.setTop (mkF m 7 #[.val (.int ix), .val (.int iy), .val (.double (FP.i2d ix)), .second, .val (.double (FP.i2d iy)), .second, .unset, .unset, .unset, .unset] []))
    obtain ⟨T31, X31, e31, st31⟩ := getS2 X0 hx hZ hown (host := "") (Or.inl hw0) Via.refl e0 (G.1.ext O0.2) (g := (mkF m 7 #[.val (.int ix), .val (.int iy), .val (.double (FP.i2d ix)), .second, .val (.double (FP.i2d iy)), .second, .unset, .unset, .unset, .unset] [])) rfl (hb hby at_7)
    refine Go.by' st31 ?_
    show Go p.tables e below Pf (T31.setTop (mkF m 10 #[.val (.int ix), .val (.int iy), .val (.double (FP.i2d ix)), .second, .val (.double (FP.i2d iy)), .second, .unset, .unset, .unset, .unset] [(.ref wE)]))
    refine Go.by' (fun t k => (XS.dloadN X31.here hx rfl (hb hby at_10) rfl (XS.dload X31.here hx rfl (hb hby at_11) rfl k))) ?_
    show Go p.tables e below Pf (T31.setTop (mkF m 13 #[.val (.int ix), .val (.int iy), .val (.double (FP.i2d ix)), .second, .val (.double (FP.i2d iy)), .second, .unset, .unset, .unset, .unset] [(.double (FP.i2d iy)), (.double (FP.i2d ix)), (.ref wE)]))
    obtain ⟨cq32, kq32, q32a, q32b, q32c⟩ := isOf hZ e31 (G.2.1.ext O0.2)
    obtain ⟨_, _, ⟨T32, L32, k32, n32⟩, -, X32, ⟨Lc32, hQ32, l32, y32, z32⟩, st32⟩ := X31.virtualBack hx (y := (⟨"com/example/libfnseq/libfnseq/NumericValue$Relation", "holds", "(DD)Z"⟩ : MethodName)) (z := (⟨"com/example/libfnseq/libfnseq/NumericValue$Relation", "holds", "(DD)Z"⟩ : MethodName)) hown (mvT hZ hw3) (mvT hZ hw4) (notFace_of_selects (args := #[]) (mvT hZ hw6)) (mvT hZ hw6) (mvT hZ hw5) (by decide) (backOf (W := 0) (rmDE l Z a0 hw [] wE wB wA G ((FP.i2d ix)) ((FP.i2d iy)) h0 n0 O0 ) hZ hw7 hw1 (by decide) (by decide)) q32a q32c (g := (mkF m 13 #[.val (.int ix), .val (.int iy), .val (.double (FP.i2d ix)), .second, .val (.double (FP.i2d iy)), .second, .unset, .unset, .unset, .unset] [(.double (FP.i2d iy)), (.double (FP.i2d ix)), (.ref wE)])) rfl (by rw [hml]; rfl) (Steps.refl _) (argsL := [(.double (FP.i2d ix)), (.double (FP.i2d iy))]) (rest := []) (lenOf pd_0 rfl) rfl (by show 2 * 0 + _ ≤ _; exact Nat.le_of_eq rfl) (hb hby at_13) (fun _ _ => ⟨rfl, e31, (by decide : 0 + 0 ≤ _), (by decide : 0 + 0 ≤ _)⟩)
    dsimp only [Pt.U, Pt.locs, Pt.cells, Pt.slots] at X32 l32 y32 z32 st32 hQ32
    subst l32 y32 z32
    obtain ⟨r_32, rfl, rfl, e32, r32_0⟩ := hQ32
    try rw [List.append_nil] at X32
    refine Go.by' (fun t k => st32.trans k) ?_
    obtain rfl : r_32 = (0 : Int32) := by
      simp only [own_dc, lw_lt, lw_gt, lw_eq, own_lt, own_eq] at r32_0
      rcases r32_0 with ⟨h1, h2⟩ | ⟨h1, h2⟩ <;> first | exact h2 | (exfalso; simp only [Int32.lt_iff_toInt_lt, ← Int32.toInt_inj] at h1 hp; omega)
    show Go p.tables e below Pf (T32.setTop (mkF m 16 #[.val (.int ix), .val (.int iy), .val (.double (FP.i2d ix)), .second, .val (.double (FP.i2d iy)), .second, .unset, .unset, .unset, .unset] [(.int (0 : Int32))]))
    refine Go.by' (fun t k => (XS.istore X32.here hx rfl (hb hby at_16) rfl (l' := #[.val (.int ix), .val (.int iy), .val (.double (FP.i2d ix)), .second, .val (.double (FP.i2d iy)), .second, .val (.int (0 : Int32)), .unset, .unset, .unset]) rfl k)) ?_
    show Go p.tables e below Pf (T32.setTop (mkF m 18 #[.val (.int ix), .val (.int iy), .val (.double (FP.i2d ix)), .second, .val (.double (FP.i2d iy)), .second, .val (.int (0 : Int32)), .unset, .unset, .unset] []))
    obtain ⟨T33, X33, e33, st33⟩ := getS2 X32 hx hZ hown (host := "") (Or.inl hw9) Via.refl e32 (G.2.2.1.ext O0.2) (g := (mkF m 18 #[.val (.int ix), .val (.int iy), .val (.double (FP.i2d ix)), .second, .val (.double (FP.i2d iy)), .second, .val (.int (0 : Int32)), .unset, .unset, .unset] [])) rfl (hb hby at_18)
    refine Go.by' st33 ?_
    show Go p.tables e below Pf (T33.setTop (mkF m 21 #[.val (.int ix), .val (.int iy), .val (.double (FP.i2d ix)), .second, .val (.double (FP.i2d iy)), .second, .val (.int (0 : Int32)), .unset, .unset, .unset] [(.ref wB)]))
    refine Go.by' (fun t k => (XS.dloadN X33.here hx rfl (hb hby at_21) rfl (XS.dload X33.here hx rfl (hb hby at_22) rfl k))) ?_
    show Go p.tables e below Pf (T33.setTop (mkF m 24 #[.val (.int ix), .val (.int iy), .val (.double (FP.i2d ix)), .second, .val (.double (FP.i2d iy)), .second, .val (.int (0 : Int32)), .unset, .unset, .unset] [(.double (FP.i2d iy)), (.double (FP.i2d ix)), (.ref wB)]))
    obtain ⟨cq34, kq34, q34a, q34b, q34c⟩ := isOf hZ e33 (G.2.2.2.1.ext O0.2)
    obtain ⟨_, _, ⟨T34, L34, k34, n34⟩, -, X34, ⟨Lc34, hQ34, l34, y34, z34⟩, st34⟩ := X33.virtualBack hx (y := (⟨"com/example/libfnseq/libfnseq/NumericValue$Relation", "holds", "(DD)Z"⟩ : MethodName)) (z := (⟨"com/example/libfnseq/libfnseq/NumericValue$Relation", "holds", "(DD)Z"⟩ : MethodName)) hown (mvT hZ hw3) (mvT hZ hw4) (notFace_of_selects (args := #[]) (mvT hZ hw6)) (mvT hZ hw6) (mvT hZ hw5) (by decide) (backOf (W := 0) (rmDB l Z a0 hw [] wE wB wA G ((FP.i2d ix)) ((FP.i2d iy)) h0 n0 O0 ) hZ hw7 hw1 (by decide) (by decide)) q34a q34c (g := (mkF m 24 #[.val (.int ix), .val (.int iy), .val (.double (FP.i2d ix)), .second, .val (.double (FP.i2d iy)), .second, .val (.int (0 : Int32)), .unset, .unset, .unset] [(.double (FP.i2d iy)), (.double (FP.i2d ix)), (.ref wB)])) rfl (by rw [hml]; rfl) (Steps.refl _) (argsL := [(.double (FP.i2d ix)), (.double (FP.i2d iy))]) (rest := []) (lenOf pd_0 rfl) rfl (by show 2 * 0 + _ ≤ _; exact Nat.le_of_eq rfl) (hb hby at_24) (fun _ _ => ⟨rfl, e33, (by decide : 0 + 0 ≤ _), (by decide : 0 + 0 ≤ _)⟩)
    dsimp only [Pt.U, Pt.locs, Pt.cells, Pt.slots] at X34 l34 y34 z34 st34 hQ34
    subst l34 y34 z34
    obtain ⟨r_34, rfl, rfl, e34, r34_0⟩ := hQ34
    try rw [List.append_nil] at X34
    refine Go.by' (fun t k => st34.trans k) ?_
    obtain rfl : r_34 = (0 : Int32) := by
      simp only [own_dc, lw_lt, lw_gt, lw_eq, own_lt, own_eq] at r34_0
      rcases r34_0 with ⟨h1, h2⟩ | ⟨h1, h2⟩ <;> first | exact h2 | (exfalso; simp only [Int32.lt_iff_toInt_lt, ← Int32.toInt_inj] at h1 hp; omega)
    show Go p.tables e below Pf (T34.setTop (mkF m 27 #[.val (.int ix), .val (.int iy), .val (.double (FP.i2d ix)), .second, .val (.double (FP.i2d iy)), .second, .val (.int (0 : Int32)), .unset, .unset, .unset] [(.int (0 : Int32))]))
    refine Go.by' (fun t k => (XS.istore X34.here hx rfl (hb hby at_27) rfl (l' := #[.val (.int ix), .val (.int iy), .val (.double (FP.i2d ix)), .second, .val (.double (FP.i2d iy)), .second, .val (.int (0 : Int32)), .val (.int (0 : Int32)), .unset, .unset]) rfl k)) ?_
    show Go p.tables e below Pf (T34.setTop (mkF m 29 #[.val (.int ix), .val (.int iy), .val (.double (FP.i2d ix)), .second, .val (.double (FP.i2d iy)), .second, .val (.int (0 : Int32)), .val (.int (0 : Int32)), .unset, .unset] []))
    obtain ⟨T35, X35, e35, st35⟩ := getS2 X34 hx hZ hown (host := "") (Or.inl hw12) Via.refl e34 (G.2.2.2.2.1.ext O0.2) (g := (mkF m 29 #[.val (.int ix), .val (.int iy), .val (.double (FP.i2d ix)), .second, .val (.double (FP.i2d iy)), .second, .val (.int (0 : Int32)), .val (.int (0 : Int32)), .unset, .unset] [])) rfl (hb hby at_29)
    refine Go.by' st35 ?_
    show Go p.tables e below Pf (T35.setTop (mkF m 32 #[.val (.int ix), .val (.int iy), .val (.double (FP.i2d ix)), .second, .val (.double (FP.i2d iy)), .second, .val (.int (0 : Int32)), .val (.int (0 : Int32)), .unset, .unset] [(.ref wA)]))
    refine Go.by' (fun t k => (XS.dloadN X35.here hx rfl (hb hby at_32) rfl (XS.dload X35.here hx rfl (hb hby at_33) rfl k))) ?_
    show Go p.tables e below Pf (T35.setTop (mkF m 35 #[.val (.int ix), .val (.int iy), .val (.double (FP.i2d ix)), .second, .val (.double (FP.i2d iy)), .second, .val (.int (0 : Int32)), .val (.int (0 : Int32)), .unset, .unset] [(.double (FP.i2d iy)), (.double (FP.i2d ix)), (.ref wA)]))
    obtain ⟨cq36, kq36, q36a, q36b, q36c⟩ := isOf hZ e35 (G.2.2.2.2.2.1.ext O0.2)
    obtain ⟨_, _, ⟨T36, L36, k36, n36⟩, -, X36, ⟨Lc36, hQ36, l36, y36, z36⟩, st36⟩ := X35.virtualBack hx (y := (⟨"com/example/libfnseq/libfnseq/NumericValue$Relation", "holds", "(DD)Z"⟩ : MethodName)) (z := (⟨"com/example/libfnseq/libfnseq/NumericValue$Relation", "holds", "(DD)Z"⟩ : MethodName)) hown (mvT hZ hw3) (mvT hZ hw4) (notFace_of_selects (args := #[]) (mvT hZ hw6)) (mvT hZ hw6) (mvT hZ hw5) (by decide) (backOf (W := 0) (rmDA l Z a0 hw [] wE wB wA G ((FP.i2d ix)) ((FP.i2d iy)) h0 n0 O0 ) hZ hw7 hw1 (by decide) (by decide)) q36a q36c (g := (mkF m 35 #[.val (.int ix), .val (.int iy), .val (.double (FP.i2d ix)), .second, .val (.double (FP.i2d iy)), .second, .val (.int (0 : Int32)), .val (.int (0 : Int32)), .unset, .unset] [(.double (FP.i2d iy)), (.double (FP.i2d ix)), (.ref wA)])) rfl (by rw [hml]; rfl) (Steps.refl _) (argsL := [(.double (FP.i2d ix)), (.double (FP.i2d iy))]) (rest := []) (lenOf pd_0 rfl) rfl (by show 2 * 0 + _ ≤ _; exact Nat.le_of_eq rfl) (hb hby at_35) (fun _ _ => ⟨rfl, e35, (by decide : 0 + 0 ≤ _), (by decide : 0 + 0 ≤ _)⟩)
    dsimp only [Pt.U, Pt.locs, Pt.cells, Pt.slots] at X36 l36 y36 z36 st36 hQ36
    subst l36 y36 z36
    obtain ⟨r_36, rfl, rfl, e36, r36_0⟩ := hQ36
    try rw [List.append_nil] at X36
    refine Go.by' (fun t k => st36.trans k) ?_
    obtain rfl : r_36 = (1 : Int32) := by
      simp only [own_dc, lw_lt, lw_gt, lw_eq, own_lt, own_eq] at r36_0
      rcases r36_0 with ⟨h1, h2⟩ | ⟨h1, h2⟩ <;> first | exact h2 | (exfalso; simp only [Int32.lt_iff_toInt_lt, ← Int32.toInt_inj] at h1 hp; omega)
    show Go p.tables e below Pf (T36.setTop (mkF m 38 #[.val (.int ix), .val (.int iy), .val (.double (FP.i2d ix)), .second, .val (.double (FP.i2d iy)), .second, .val (.int (0 : Int32)), .val (.int (0 : Int32)), .unset, .unset] [(.int (1 : Int32))]))
    refine Go.by' (fun t k => (XS.istore X36.here hx rfl (hb hby at_38) rfl (l' := #[.val (.int ix), .val (.int iy), .val (.double (FP.i2d ix)), .second, .val (.double (FP.i2d iy)), .second, .val (.int (0 : Int32)), .val (.int (0 : Int32)), .val (.int (1 : Int32)), .unset]) rfl k)) ?_
    show Go p.tables e below Pf (T36.setTop (mkF m 40 #[.val (.int ix), .val (.int iy), .val (.double (FP.i2d ix)), .second, .val (.double (FP.i2d iy)), .second, .val (.int (0 : Int32)), .val (.int (0 : Int32)), .val (.int (1 : Int32)), .unset] []))
    obtain ⟨T37, X37, e37, st37⟩ := getS2 X36 hx hZ hown (host := "") (Or.inl hw9) Via.refl e36 (G.2.2.1.ext O0.2) (g := (mkF m 40 #[.val (.int ix), .val (.int iy), .val (.double (FP.i2d ix)), .second, .val (.double (FP.i2d iy)), .second, .val (.int (0 : Int32)), .val (.int (0 : Int32)), .val (.int (1 : Int32)), .unset] [])) rfl (hb hby at_40)
    refine Go.by' st37 ?_
    show Go p.tables e below Pf (T37.setTop (mkF m 43 #[.val (.int ix), .val (.int iy), .val (.double (FP.i2d ix)), .second, .val (.double (FP.i2d iy)), .second, .val (.int (0 : Int32)), .val (.int (0 : Int32)), .val (.int (1 : Int32)), .unset] [(.ref wB)]))
    refine Go.by' (fun t k => (XS.dload X37.here hx rfl (hb hby at_43) rfl (XS.dloadN X37.here hx rfl (hb hby at_45) rfl k))) ?_
    show Go p.tables e below Pf (T37.setTop (mkF m 46 #[.val (.int ix), .val (.int iy), .val (.double (FP.i2d ix)), .second, .val (.double (FP.i2d iy)), .second, .val (.int (0 : Int32)), .val (.int (0 : Int32)), .val (.int (1 : Int32)), .unset] [(.double (FP.i2d ix)), (.double (FP.i2d iy)), (.ref wB)]))
    obtain ⟨cq38, kq38, q38a, q38b, q38c⟩ := isOf hZ e37 (G.2.2.2.1.ext O0.2)
    obtain ⟨_, _, ⟨T38, L38, k38, n38⟩, -, X38, ⟨Lc38, hQ38, l38, y38, z38⟩, st38⟩ := X37.virtualBack hx (y := (⟨"com/example/libfnseq/libfnseq/NumericValue$Relation", "holds", "(DD)Z"⟩ : MethodName)) (z := (⟨"com/example/libfnseq/libfnseq/NumericValue$Relation", "holds", "(DD)Z"⟩ : MethodName)) hown (mvT hZ hw3) (mvT hZ hw4) (notFace_of_selects (args := #[]) (mvT hZ hw6)) (mvT hZ hw6) (mvT hZ hw5) (by decide) (backOf (W := 0) (rmDB l Z a0 hw [] wE wB wA G ((FP.i2d iy)) ((FP.i2d ix)) h0 n0 O0 ) hZ hw7 hw1 (by decide) (by decide)) q38a q38c (g := (mkF m 46 #[.val (.int ix), .val (.int iy), .val (.double (FP.i2d ix)), .second, .val (.double (FP.i2d iy)), .second, .val (.int (0 : Int32)), .val (.int (0 : Int32)), .val (.int (1 : Int32)), .unset] [(.double (FP.i2d ix)), (.double (FP.i2d iy)), (.ref wB)])) rfl (by rw [hml]; rfl) (Steps.refl _) (argsL := [(.double (FP.i2d iy)), (.double (FP.i2d ix))]) (rest := []) (lenOf pd_0 rfl) rfl (by show 2 * 0 + _ ≤ _; exact Nat.le_of_eq rfl) (hb hby at_46) (fun _ _ => ⟨rfl, e37, (by decide : 0 + 0 ≤ _), (by decide : 0 + 0 ≤ _)⟩)
    dsimp only [Pt.U, Pt.locs, Pt.cells, Pt.slots] at X38 l38 y38 z38 st38 hQ38
    subst l38 y38 z38
    obtain ⟨r_38, rfl, rfl, e38, r38_0⟩ := hQ38
    try rw [List.append_nil] at X38
    refine Go.by' (fun t k => st38.trans k) ?_
    obtain rfl : r_38 = (1 : Int32) := by
      simp only [own_dc, lw_lt, lw_gt, lw_eq, own_lt, own_eq] at r38_0
      rcases r38_0 with ⟨h1, h2⟩ | ⟨h1, h2⟩ <;> first | exact h2 | (exfalso; simp only [Int32.lt_iff_toInt_lt, ← Int32.toInt_inj] at h1 hp; omega)
    show Go p.tables e below Pf (T38.setTop (mkF m 49 #[.val (.int ix), .val (.int iy), .val (.double (FP.i2d ix)), .second, .val (.double (FP.i2d iy)), .second, .val (.int (0 : Int32)), .val (.int (0 : Int32)), .val (.int (1 : Int32)), .unset] [(.int (1 : Int32))]))
    refine Go.by' (fun t k => (XS.istore X38.here hx rfl (hb hby at_49) rfl (l' := #[.val (.int ix), .val (.int iy), .val (.double (FP.i2d ix)), .second, .val (.double (FP.i2d iy)), .second, .val (.int (0 : Int32)), .val (.int (0 : Int32)), .val (.int (1 : Int32)), .val (.int (1 : Int32))]) rfl (XS.iload X38.here hx rfl (hb hby at_51) rfl (XS.iloadN X38.here hx rfl (hb hby at_53) rfl (XS.iloadN X38.here hx rfl (hb hby at_54) rfl (XS.icmpYes X38.here hx rfl (pc0 := 55) (pc' := 62) rfl (hb hby at_55) rfl (feq (by simp only [Int32.lt_iff_toInt_lt, ← Int32.toInt_inj] at hp ⊢; omega)).2 (by decide) (by decide) (XS.iconst X38.here hx rfl (hb hby at_62) k))))))) ?_
    show Go p.tables e below Pf (T38.setTop (mkF m 63 #[.val (.int ix), .val (.int iy), .val (.double (FP.i2d ix)), .second, .val (.double (FP.i2d iy)), .second, .val (.int (0 : Int32)), .val (.int (0 : Int32)), .val (.int (1 : Int32)), .val (.int (1 : Int32))] [(.int (0 : Int32)), (.int (0 : Int32))]))
    refine Go.by' (fun t k => (XS.icmpNo X38.here hx rfl (hb hby at_63) rfl (teq (by decide)).2 (XS.iload X38.here hx rfl (hb hby at_66) rfl (XS.iloadN X38.here hx rfl (hb hby at_68) rfl (XS.iloadN X38.here hx rfl (hb hby at_69) rfl (XS.icmpYes X38.here hx rfl (pc0 := 70) (pc' := 77) rfl (hb hby at_70) rfl (flt (by simp only [Int32.lt_iff_toInt_lt, ← Int32.toInt_inj] at hp ⊢; omega)).2.1 (by decide) (by decide) (XS.iconst X38.here hx rfl (hb hby at_77) k))))))) ?_
    show Go p.tables e below Pf (T38.setTop (mkF m 78 #[.val (.int ix), .val (.int iy), .val (.double (FP.i2d ix)), .second, .val (.double (FP.i2d iy)), .second, .val (.int (0 : Int32)), .val (.int (0 : Int32)), .val (.int (1 : Int32)), .val (.int (1 : Int32))] [(.int (0 : Int32)), (.int (0 : Int32))]))
    refine Go.by' (fun t k => (XS.icmpNo X38.here hx rfl (hb hby at_78) rfl (teq (by decide)).2 (XS.iload X38.here hx rfl (hb hby at_81) rfl (XS.iloadN X38.here hx rfl (hb hby at_83) rfl (XS.iloadN X38.here hx rfl (hb hby at_84) rfl (XS.icmpNo X38.here hx rfl (hb hby at_85) rfl (tlt hp).2.2.2 (XS.iconst X38.here hx rfl (hb hby at_88) k))))))) ?_
    show Go p.tables e below Pf (T38.setTop (mkF m 89 #[.val (.int ix), .val (.int iy), .val (.double (FP.i2d ix)), .second, .val (.double (FP.i2d iy)), .second, .val (.int (0 : Int32)), .val (.int (0 : Int32)), .val (.int (1 : Int32)), .val (.int (1 : Int32))] [(.int (1 : Int32)), (.int (1 : Int32))]))
    refine Go.by' (fun t k => (XS.goto X38.here hx rfl (pc0 := 89) (pc' := 93) rfl (hb hby at_89) (by decide) (by decide) (XS.icmpNo X38.here hx rfl (hb hby at_93) rfl (teq (by decide)).2 (XS.iload X38.here hx rfl (hb hby at_96) rfl (XS.iload X38.here hx rfl (hb hby at_98) rfl (XS.icmpNo X38.here hx rfl (hb hby at_100) rfl (teq (by decide)).2 (XS.iconst X38.here hx rfl (hb hby at_103) k))))))) ?_
    show Go p.tables e below Pf (T38.setTop (mkF m 104 #[.val (.int ix), .val (.int iy), .val (.double (FP.i2d ix)), .second, .val (.double (FP.i2d iy)), .second, .val (.int (0 : Int32)), .val (.int (0 : Int32)), .val (.int (1 : Int32)), .val (.int (1 : Int32))] [(.int (1 : Int32))]))
    refine Go.by' (fun t k => (XS.goto X38.here hx rfl (pc0 := 104) (pc' := 108) rfl (hb hby at_104) (by decide) (by decide) k)) ?_
    show Go p.tables e below Pf (T38.setTop (mkF m 108 #[.val (.int ix), .val (.int iy), .val (.double (FP.i2d ix)), .second, .val (.double (FP.i2d iy)), .second, .val (.int (0 : Int32)), .val (.int (0 : Int32)), .val (.int (1 : Int32)), .val (.int (1 : Int32))] [(.int (1 : Int32))]))
    rw [hPf]
    exact Go.retI' X38 hx hret hlk (by simp) rfl (hb hby at_108) (by decide) (by decide) ⟨rfl, rfl, e38⟩
set_option maxRecDepth 65536 in
set_option maxHeartbeats 40000000 in
theorem comes_1 {Post : Tables → Env → Array Value → State → Outcome → State → Prop} (hpost : ∀ tb e args s v u, (limb_1_1.after args s (.returned v) u = true ∧ limb_1_2.after args s (.returned v) u = true ∧ True) → FrameEnd s (.returned v) u (Jvm.fieldLocs frame_1_writes args s ++ Jvm.arrayLocs frame_1_arrays args s ++ Jvm.staticLocs frame_1_statics s) 0 0 → Post tb e args s (.returned v) u) :
    ArmFor flags0 classFile x code maxLocals ret World_1 tables_1 room_1 Calls_1 rest_1 Pre_1 Post := by
  intro l hfl _ _ p e ha hc hk s m args below hf hA hF happ hP
  obtain ⟨hcalls, hrest, hpre⟩ := hP
  obtain ⟨-, -, -, hnamed, -, -, -, hat⟩ := (Spec.applies_iff hf).mp happ
  obtain ⟨hg, hn⟩ := and_e (Cond.before_iff.mp (show (Jvm.Cond.and given_1 narrow_1).before args s = true from hpre))
  obtain ⟨ga1, gb1⟩ := and_e hg
  obtain ⟨ga2, gb2⟩ := and_e gb1
  obtain ⟨w0, w1, rfl⟩ : ∃ w0 w1 : Value, args = #[w0, w1] := by
    have hs : args.size = 2 := by simpa [Cond.value, given_1] using ga1
    obtain ⟨L⟩ := args
    match L, hs with
    | [w0, w1], _ => exact ⟨w0, w1, rfl⟩
  have hw := fun d (hd : d ∈ tables_1) => atoms_spec (ws := Jvm.Cond.code x code maxLocals ret :: tables_1) hat d (List.mem_cons_of_mem _ hd)
  have hfit : Fit s := fun {y c} hc i hi => by
    obtain ⟨ha, rfl⟩ := Array.getElem?_eq_some_iff.mp hc
    have q := List.all_eq_true.mp ((Array.all_eq_true_iff_forall_mem.mp hF) _ (Array.getElem_mem ha)) i (List.mem_range.mpr hi)
    simpa [Array.getElem?_eq_getElem hi] using q
  obtain ⟨ix, ei0⟩ := is_v ga2
  obtain rfl : w0 = (.int ix) := Option.some.inj ei0
  obtain ⟨iy, ei1⟩ := is_v gb2
  obtain rfl : w1 = (.int iy) := Option.some.inj ei1
  obtain ⟨na1, nb1⟩ := and_e hn
  obtain ⟨na2, nb2⟩ := and_e nb1
  obtain ⟨na3, nb3⟩ := and_e nb2
  obtain ⟨na4, nb4⟩ := and_e nb3
  obtain ⟨na5, nb5⟩ := and_e nb4
  obtain ⟨wE, evwE⟩ := exa_v na1
  have SwE := Sta.start evwE (Or.inr ⟨(hw _ (List.mem_of_getElem? (i := 1) rfl)), (hw _ (List.mem_of_getElem? (i := 2) rfl))⟩)
  have AwE := Exa.start evwE na1
  have FwE := Fld.start ((fld_at evwE).symm.trans (eqv_i (Term.int_eval _) na4))
  obtain ⟨wB, evwB⟩ := exa_v na2
  have SwB := Sta.start evwB (Or.inr ⟨(hw _ (List.mem_of_getElem? (i := 1) rfl)), (hw _ (List.mem_of_getElem? (i := 10) rfl))⟩)
  have AwB := Exa.start evwB na2
  have FwB := Fld.start ((fld_at evwB).symm.trans (eqv_i (Term.int_eval _) na3))
  obtain ⟨wA, evwA⟩ := exa_v na5
  have SwA := Sta.start evwA (Or.inr ⟨(hw _ (List.mem_of_getElem? (i := 1) rfl)), (hw _ (List.mem_of_getElem? (i := 13) rfl))⟩)
  have AwA := Exa.start evwA na5
  have FwA := Fld.start ((fld_at evwA).symm.trans (eqv_i (Term.int_eval _) nb5))
  have G : Gh s wE wB wA := ⟨SwE, AwE, SwB, AwB, SwA, AwA, FwE.ne FwB (by decide), FwE.ne FwA (by decide), FwB.ne FwA (by decide)⟩
  obtain ⟨n, o, h1, h2, h3, _, L, rfl, hQ, hq⟩ := rm0 l s _ hw tables_1 wE wB wA G ix iy s.heap s.heap.size (Old.start s)  p e ha hc hk s m _ below hf ((Spec.applies_iff_loose hf).mp happ).1 ⟨rfl, State.Warmed39.refl s, rfl⟩ trivial
  obtain ⟨rfl, rfl, -⟩ := hQ
  have N := Fr.nil s.heap.size
  refine ⟨n, _, h1, h2, h3, hpost _ _ _ _ _ _ ⟨Cond.after_iff.mpr rfl, Cond.after_iff.mpr (eq_i res_at (Term.int_eval (1)) rfl), trivial⟩ ⟨hq.1, hq.2.1, (hq.2.2.sift fun y hy => Or.inr (N y hy)).mono (by decide) (by decide)⟩⟩
theorem main_1_1 : Claimed_1_1 := comes_1 fun _ _ _ _ _ _ h hF => ⟨h.1, hF⟩
theorem main_1_2 : Claimed_1_2 := comes_1 fun _ _ _ _ _ _ h hF => ⟨h.2.1, hF⟩
end Jvm.Pilot.@@N@@
namespace Jvm.Pilot.@@N@@
open Jvm Jvm.ClassFile Sem Op Lib Jvm.Free Jvm.Stand Jvm.Pilot.@@N@@.Jvm.D
/-! MADE BY PROGRAM (witnessworld.py) out of the Statement's table words and the real class files: 12 classes; the members and pool entries that the words name. The judged class is class 1, her method 1. -/
namespace start1
open Jvm.ClassFile
def u (s : String) : CpInfo := .utf8 (stringToUtf16 s)
/-- a pool by its gaps: so many unusable entries, then the entry; so many at the end -/
def gap : Nat → List CpInfo → List CpInfo
  | 0, r => r
  | n + 1, r => .unusable :: gap n r
def poolList (es : List (Nat × CpInfo)) (last : Nat) : List CpInfo := es.foldr (fun e r => gap e.1 (e.2 :: r)) (gap last [])
def pool (es : List (Nat × CpInfo)) (last : Nat) : Array CpInfo := ⟨poolList es last⟩
def fileOf (pool : Array CpInfo) (this : Nat) (attrs : Array Attribute := #[]) (ms : Array MethodInfo := #[]) (fl : Nat := 33) (sup : Nat := 0) (ifs : Array Nat := #[]) (fds : Array FieldInfo := #[]) : ClassFile where
  minorVersion := 0
  majorVersion := 65
  constantPool := pool
  accessFlags := fl
  thisClass := this
  superClass := sup
  interfaces := ifs
  fields := fds
  methods := ms
  attributes := attrs
def plain (name : String) (sup : Option ClassId) : Class where
  name := name
  kind := .ordinary
  loader := none
  accessFlags := 33
  super := sup
  interfaces := #[]
  cf := none
  fields := #[]
  methods := #[]
  instanceTypes := #[]
  staticTypes := #[]
  resolved := #[]
  callSites := []
  init := .initialized
  statics := none
  mirror := none

def pool0 : Array CpInfo := pool [(5, u "<init>"), (0, u "()V"), (1, .class_ 10), (1, u "java/lang/Object")] 113

def k0m0 : Method := { name := "<init>", desc := "()V", sig := { parameters := [], returnType := none }, accessFlags := 1, code := none }
/-- java/lang/Object -/
def k0 : Class := { plain "java/lang/Object" none with
  accessFlags := 33
  interfaces := #[]
  cf := some (fileOf pool0 8 #[] #[{ accessFlags := 1, nameIndex := 5, descriptorIndex := 6, attributes := #[] }] 33 0 #[] #[])
  fields := #[]
  methods := #[k0m0]
  instanceTypes := #[]
  staticTypes := #[]
  resolved := Array.replicate 124 none
  statics := none }

def pool1 : Array CpInfo := pool [(2, .class_ 4), (1, u "java/lang/Object"), (0, u "<init>"), (0, u "()V"), (0, .fieldref 8 9), (0, .class_ 10), (0, .nameAndType 11 12), (0, u "com/example/libfnseq/libfnseq/NumericValue$Relation"), (0, u "EQUAL"), (0, u "Lcom/example/libfnseq/libfnseq/NumericValue$Relation;"), (0, .methodref 8 14), (0, .nameAndType 15 16), (0, u "holds"), (0, u "(DD)Z"), (0, .fieldref 8 18), (0, .nameAndType 19 12), (0, u "BELOW"), (0, .fieldref 8 21), (0, .nameAndType 22 12), (0, u "ABOVE"), (0, .class_ 24), (0, u "com/example/libfnseq/libfnseq/RelationHoldsPinLaw"), (2, u "law"), (0, u "(II)Z")] 7

def k1m0 : Method := { name := "<init>", desc := "()V", sig := { parameters := [], returnType := none }, accessFlags := 1, code := none }
def k1c1 : Code := { maxStack := 5, maxLocals := 10, code := code, exceptionTable := #[], attributes := #[] }
def k1m1 : Method := { name := "law", desc := "(II)Z", sig := { parameters := [.int, .int], returnType := some .boolean }, accessFlags := 9, code := some k1c1 }
/-- com/example/libfnseq/libfnseq/RelationHoldsPinLaw -/
def k1 : Class := { plain "com/example/libfnseq/libfnseq/RelationHoldsPinLaw" (some 0) with
  accessFlags := 49
  interfaces := #[]
  cf := some (fileOf pool1 23 #[] #[{ accessFlags := 1, nameIndex := 5, descriptorIndex := 6, attributes := #[] }, { accessFlags := 9, nameIndex := 27, descriptorIndex := 28, attributes := #[] }] 49 2 #[] #[])
  fields := #[]
  methods := #[k1m0, k1m1]
  instanceTypes := #[]
  staticTypes := #[]
  resolved := Array.replicate 36 none
  statics := none }

def pool2 : Array CpInfo := pool [(1, .class_ 2), (0, u "java/lang/constant/Constable"), (0, .class_ 4), (0, u "java/lang/Object")] 6

/-- java/lang/constant/Constable -/
def k2 : Class := { plain "java/lang/constant/Constable" (some 0) with
  accessFlags := 1537
  interfaces := #[]
  cf := some (fileOf pool2 1 #[] #[] 1537 3 #[] #[])
  fields := #[]
  methods := #[]
  instanceTypes := #[]
  staticTypes := #[]
  resolved := Array.replicate 11 none
  statics := none }

def pool3 : Array CpInfo := pool [(1, .class_ 2), (0, u "java/lang/Comparable"), (0, .class_ 4), (0, u "java/lang/Object")] 7

/-- java/lang/Comparable -/
def k3 : Class := { plain "java/lang/Comparable" (some 0) with
  accessFlags := 1537
  interfaces := #[]
  cf := some (fileOf pool3 1 #[] #[] 1537 3 #[] #[])
  fields := #[]
  methods := #[]
  instanceTypes := #[]
  staticTypes := #[]
  resolved := Array.replicate 12 none
  statics := none }

def pool4 : Array CpInfo := pool [(1, .class_ 2), (0, u "java/io/Serializable"), (0, .class_ 4), (0, u "java/lang/Object")] 2

/-- java/io/Serializable -/
def k4 : Class := { plain "java/io/Serializable" (some 0) with
  accessFlags := 1537
  interfaces := #[]
  cf := some (fileOf pool4 1 #[] #[] 1537 3 #[] #[])
  fields := #[]
  methods := #[]
  instanceTypes := #[]
  staticTypes := #[]
  resolved := Array.replicate 7 none
  statics := none }

def pool5 : Array CpInfo := pool [(2, .class_ 4), (1, u "java/lang/Enum"), (0, u "name"), (0, u "Ljava/lang/String;"), (2, u "ordinal"), (0, u "I"), (1, .class_ 14), (1, u "java/lang/Object"), (4, u "hash"), (86, .class_ 108), (1, u "java/lang/Enum$EnumDesc"), (2, .class_ 112), (0, u "java/lang/constant/Constable"), (0, .class_ 114), (0, u "java/lang/Comparable"), (0, .class_ 116), (0, u "java/io/Serializable")] 87

/-- java/lang/Enum -/
def k5 : Class := { plain "java/lang/Enum" (some 0) with
  accessFlags := 1057
  interfaces := #[2, 3, 4]
  cf := some (fileOf pool5 2 #[.nestMembers #[106]] #[] 1057 12 #[111, 113, 115] #[{ accessFlags := 18, nameIndex := 5, descriptorIndex := 6, attributes := #[] }, { accessFlags := 18, nameIndex := 9, descriptorIndex := 10, attributes := #[] }, { accessFlags := 2, nameIndex := 19, descriptorIndex := 10, attributes := #[] }])
  fields := #[{ name := "name", type := (.object "java/lang/String"), accessFlags := 18, slot := 0, constantValue := 0 }, { name := "ordinal", type := .int, accessFlags := 18, slot := 1, constantValue := 0 }, { name := "hash", type := .int, accessFlags := 2, slot := 2, constantValue := 0 }]
  methods := #[]
  instanceTypes := #[(.object "java/lang/String"), .int, .int]
  staticTypes := #[]
  resolved := Array.replicate 204 none
  statics := none }

def pool6 : Array CpInfo := pool [(1, .class_ 2), (0, u "com/example/libfnseq/libfnseq/NumericValue$Relation"), (0, .fieldref 1 4), (0, .nameAndType 5 6), (0, u "EQUAL"), (0, u "Lcom/example/libfnseq/libfnseq/NumericValue$Relation;"), (0, .fieldref 1 8), (0, .nameAndType 9 6), (0, u "BELOW"), (2, u "ABOVE"), (2, u "$VALUES"), (0, u "[Lcom/example/libfnseq/libfnseq/NumericValue$Relation;"), (6, .class_ 25), (1, u "java/lang/Enum"), (24, u "holds"), (1, u "(DD)Z"), (5, .class_ 59), (0, u "com/example/libfnseq/libfnseq/NumericValue")] 2

def k6c0 : Code := { maxStack := 4, maxLocals := 6, code := prog_65_method_6_code, exceptionTable := #[], attributes := #[] }
def k6m0 : Method := { name := "holds", desc := "(DD)Z", sig := { parameters := [.double, .double], returnType := some .boolean }, accessFlags := 0, code := some k6c0 }
/-- com/example/libfnseq/libfnseq/NumericValue$Relation -/
def k6 : Class := { plain "com/example/libfnseq/libfnseq/NumericValue$Relation" (some 5) with
  accessFlags := 16432
  interfaces := #[]
  cf := some (fileOf pool6 1 #[.nestHost 58] #[{ accessFlags := 0, nameIndex := 50, descriptorIndex := 52, attributes := #[] }] 16432 23 #[] #[{ accessFlags := 16409, nameIndex := 5, descriptorIndex := 6, attributes := #[] }, { accessFlags := 16409, nameIndex := 9, descriptorIndex := 6, attributes := #[] }, { accessFlags := 16409, nameIndex := 12, descriptorIndex := 6, attributes := #[] }, { accessFlags := 4122, nameIndex := 15, descriptorIndex := 16, attributes := #[] }])
  fields := #[{ name := "EQUAL", type := (.object "com/example/libfnseq/libfnseq/NumericValue$Relation"), accessFlags := 16409, slot := 0, constantValue := 0 }, { name := "BELOW", type := (.object "com/example/libfnseq/libfnseq/NumericValue$Relation"), accessFlags := 16409, slot := 1, constantValue := 0 }, { name := "ABOVE", type := (.object "com/example/libfnseq/libfnseq/NumericValue$Relation"), accessFlags := 16409, slot := 2, constantValue := 0 }, { name := "$VALUES", type := (.array (.object "com/example/libfnseq/libfnseq/NumericValue$Relation")), accessFlags := 4122, slot := 3, constantValue := 0 }]
  methods := #[k6m0]
  instanceTypes := #[(.object "java/lang/String"), .int, .int]
  staticTypes := #[(.object "com/example/libfnseq/libfnseq/NumericValue$Relation"), (.object "com/example/libfnseq/libfnseq/NumericValue$Relation"), (.object "com/example/libfnseq/libfnseq/NumericValue$Relation"), (.array (.object "com/example/libfnseq/libfnseq/NumericValue$Relation"))]
  resolved := Array.replicate 62 none
  statics := some 0 }

def pool7 : Array CpInfo := pool [(1, u "java/lang/Cloneable"), (0, .class_ 1), (0, u "java/lang/Object"), (0, .class_ 3)] 3

/-- java/lang/Cloneable -/
def k7 : Class := { plain "java/lang/Cloneable" (some 0) with
  accessFlags := 1537
  interfaces := #[]
  cf := some (fileOf pool7 2 #[] #[] 1537 4 #[] #[])
  fields := #[]
  methods := #[]
  instanceTypes := #[]
  staticTypes := #[]
  resolved := Array.replicate 8 none
  statics := none }

/-- the primitive byte -/
def k8 : Class := { plain "byte" none with kind := .primitive 'B', accessFlags := 0x411 }
/-- [B -/
def k9 : Class := { plain "[B" (some 0) with kind := .array 8 .byte, interfaces := #[7, 4], accessFlags := 1041 }

/-- the primitive int -/
def k10 : Class := { plain "int" none with kind := .primitive 'I', accessFlags := 0x411 }
/-- [I -/
def k11 : Class := { plain "[I" (some 0) with kind := .array 10 .int, interfaces := #[7, 4], accessFlags := 1041 }

def heap : Heap := #[{ cls := 6, slots := #[.ref 1, .ref 2, .ref 3, .null], vm := .statics 6 },
  { cls := 6, slots := #[.null, .int 0, .int 0], vm := .none },
  { cls := 6, slots := #[.null, .int 1, .int 0], vm := .none },
  { cls := 6, slots := #[.null, .int 2, .int 0], vm := .none }]
def classes : Array Class := #[k0, k1, k2, k3, k4, k5, k6, k7, k8, k9, k10, k11]
def interned : List (Array UInt16 × Addr) := []
def slotsUsed : Nat := 13
def theMethod : MethodId := ⟨1, 1⟩
def args0 : Array Value := #[.int 5, .int 7]
def aboutOver (below : List Frame) : State where
  vm := { classes := classes, interned := interned.toArray }
  heap := heap
  slotsUsed := slotsUsed
  threads := #[{ frames := .invoking theMethod args0 :: below }]
def below0 : List Frame := [.native { method := ⟨0, 0⟩, args := #[] }]
def about1 : State := aboutOver below0
def p0 : Program := .bare "" "" ""
def e0 : Env := launch0.env 0 0 0
theorem w_frames : about1.frames = Frame.invoking theMethod args0 :: below0 := rfl
set_option maxRecDepth 65536 in
theorem w_args : argsFit about1.vm theMethod args0 = true := by decide +kernel
set_option maxRecDepth 65536 in
theorem w_heap : heapFits about1 = true := by decide +kernel
set_option maxRecDepth 65536 in
theorem w_runnable : about1.curStatus? = some .runnable := by decide +kernel
set_option maxRecDepth 65536 in
theorem w_alone : about1.alone = true := by decide +kernel
set_option maxRecDepth 65536 in
theorem w_named : about1.methodNamed? x = some theMethod := by decide +kernel
set_option maxRecDepth 65536 in
theorem w_hears : about1.hears theMethod below0 = true := by decide +kernel
set_option maxRecDepth 65536 in
theorem w_ripe : about1.ripe theMethod args0 below0 = true := by decide +kernel
theorem w_running : about1.status = .running := rfl
set_option maxRecDepth 65536 in
theorem w_room : about1.hasRoom e0.platform room_1 = true :=
  launch0.hasRoom_least _ room_1 (by decide +kernel) (by decide +kernel) (by decide +kernel) (by decide +kernel) (by decide +kernel) (by decide +kernel)
theorem allAtoms_all (ts : List Jvm.Cond) (a : Array Jvm.Value) (st : Jvm.State) : (allAtoms ts).before a st = ts.all (fun c => c.before a st) := by
  induction ts with
  | nil => rfl
  | cons c t ih =>
    show (Jvm.Cond.and c (allAtoms t)).before a st = _
    rw [Jvm.Cond.before_and, ih, List.all_cons]
def words1 : List Jvm.Cond := Jvm.Cond.code x code maxLocals ret :: tables_1
/-- a 'code' word, met by the world's own term for the bytes: nothing is compared byte by byte -/
theorem code_word {y : MethodName} {bytes : ByteArray} {mx : Nat} {rt : Option FieldType} {a : Array Value} {s : State} {m : MethodId} {meth : Method} {c : Code} (h1 : s.methodNamed? y = some m) (h2 : s.vm.method? m = some meth) (h3 : meth.code = some c) (h4 : c.code = bytes)
    (h5 : (c.maxLocals == mx && c.exceptionTable.isEmpty && decide (c.maxStack ≤ mostOperands) && decide (meth.sig.returnType = rt) && !meth.locks && decide (parseMethodDescriptor y.desc = some meth.sig)) = true) : (Jvm.Cond.code y bytes mx rt).before a s = true := by
  simp only [Bool.and_eq_true, beq_iff_eq, Bool.not_eq_true', decide_eq_true_eq] at h5
  obtain ⟨⟨⟨⟨⟨g1, g2⟩, g3⟩, g4⟩, g5⟩, g6⟩ := h5
  simp [Cond.before, Cond.holds, Cond.value, h1, h2, h3, h4, g1, g2, g3, g4, g5, g6]
def isCode : Jvm.Cond → Bool
  | .code _ _ _ _ => true
  | _ => false
theorem all_split {L : List Jvm.Cond} {P : Jvm.Cond → Bool} (h1 : L.all (fun c => isCode c || P c) = true) (h2 : ∀ c ∈ L.filter isCode, P c = true) : L.all P = true := by
  refine List.all_eq_true.mpr fun c hc => ?_
  have h := List.all_eq_true.mp h1 c hc
  rcases Bool.eq_false_or_eq_true (isCode c) with hi | hi
  · exact h2 c (List.mem_filter.mpr ⟨hc, hi⟩)
  · simpa [hi] using h
set_option maxRecDepth 65536 in
theorem w_c0 : (Jvm.Cond.code x code maxLocals ret).before args0 about1 = true := code_word (m := ⟨1, 1⟩) (meth := k1m1) (c := k1c1) (by decide +kernel) rfl rfl rfl (by decide +kernel)
set_option maxRecDepth 65536 in
theorem w_c1 : (Jvm.Cond.code ({ cls := "com/example/libfnseq/libfnseq/NumericValue$Relation", name := "holds", desc := "(DD)Z" } : Jvm.MethodName) prog_65_method_6_code (6 : Nat) (Option.some Jvm.ClassFile.FieldType.boolean)).before args0 about1 = true := code_word (m := ⟨6, 0⟩) (meth := k6m0) (c := k6c0) (by decide +kernel) rfl rfl rfl (by decide +kernel)
def codes1 : List Jvm.Cond := [Jvm.Cond.code x code maxLocals ret, Jvm.Cond.code ({ cls := "com/example/libfnseq/libfnseq/NumericValue$Relation", name := "holds", desc := "(DD)Z" } : Jvm.MethodName) prog_65_method_6_code (6 : Nat) (Option.some Jvm.ClassFile.FieldType.boolean)]
set_option maxRecDepth 65536 in
theorem codes_eq : words1.filter isCode = codes1 := rfl
theorem w_codes : ∀ c ∈ words1.filter isCode, c.before args0 about1 = true := by
  rw [codes_eq]
  intro c hc
  simp only [codes1, List.mem_cons, List.not_mem_nil, or_false] at hc
  rcases hc with rfl | rfl
  · exact w_c0
  · exact w_c1
set_option maxRecDepth 65536 in
theorem w_t1 : words1.all (fun c => isCode c || c.before args0 about1) = true := by decide +kernel
theorem w_tables : (allAtoms (Jvm.Cond.code x code maxLocals ret :: tables_1)).before args0 about1 = true := by
  rw [allAtoms_all]
  show words1.all (fun c => c.before args0 about1) = true
  refine all_split ?_ w_codes
  rw [w_t1]
set_option maxRecDepth 65536 in
theorem w_case : (Jvm.Cond.and given_1 narrow_1).before args0 about1 = true := by decide +kernel
theorem w_applies : (headSpec (Jvm.Cond.code x code maxLocals ret :: tables_1) room_1).applies x e0.platform about1 = true :=
  (Spec.applies_iff w_frames).mpr ⟨w_running, w_runnable, w_alone, w_named, w_hears, w_ripe, w_room, w_tables⟩
theorem atStart : AtStart classFile x code maxLocals ret World_1 tables_1 room_1 Calls_1 rest_1 Pre_1 launch0 p0 e0 about1 theMethod args0 below0 :=
  ⟨lists_1, trivial, launch0.admits_env _ _ _, launch0.least_env, fairChoices_fair.cas, fairChoices_fair.clock, w_frames, w_args, w_heap, w_applies, trivial, trivial, w_case⟩
end start1
theorem witness_1 : WitnessClaimed_1 := ⟨start1.p0, start1.e0, start1.about1, start1.theMethod, start1.args0, start1.below0, start1.atStart⟩
end Jvm.Pilot.@@N@@
