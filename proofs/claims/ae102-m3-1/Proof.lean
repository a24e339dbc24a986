import JvmDerived
import JvmDerived.Pilot.@@N@@Statement
import JvmDerived.Pilot.@@N@@Code
set_option linter.unusedVariables false
set_option linter.unusedSimpArgs false
namespace Jvm.Pilot.@@N@@
open Jvm Jvm.ClassFile Sem Op Lib Jvm.Free Jvm.Stand Jvm.LawKit Jvm.RoadKit Bundle Jvm.Pilot.@@N@@.Jvm.D
/-! my own words: Go (the run comes from T to a state with P), a step, a return -/
def Go (tb : Tables) (e : Env) (below : List Frame) (P : State → Prop) (T : State) : Prop := ∃ u, P u ∧ ∀ t, Steps tb e below u t → Steps tb e below T t
theorem Go.by' {tb : Tables} {e : Env} {below : List Frame} {P : State → Prop} {T T' : State} (h : ∀ t, Steps tb e below T' t → Steps tb e below T t) (k : Go tb e below P T') : Go tb e below P T :=
  k.elim fun u q => ⟨u, q.1, fun t z => h t (q.2 t z)⟩
theorem Go.cast {tb : Tables} {e : Env} {below : List Frame} {P : State → Prop} {T : State} {g g' : JFrame} (q : g = g') (k : Go tb e below P (T.setTop g')) : Go tb e below P (T.setTop g) := q ▸ k
def Fin' (s : State) (below : List Frame) (ce sl : Nat) (Q : Option Value → Heap → List Loc → Prop) (u : State) : Prop := u.status = .running ∧ ∃ o, Ended u below o ∧ ∃ v L, o = .returned v ∧ Q v u.heap L ∧ FrameEnd s o u L ce sl
theorem Go.body {tb : Tables} {e : Env} {below : List Frame} {s : State} {ce sl : Nat} {Q : Option Value → Heap → List Loc → Prop} {T : State} (h : Go tb e below (Fin' s below ce sl Q) T) :
    ∃ s₂ o, Steps tb e below T s₂ ∧ s₂.status = .running ∧ Ended s₂ below o ∧ ∃ v L, o = .returned v ∧ Q v s₂.heap L ∧ FrameEnd s o s₂ L ce sl := by
  obtain ⟨u, ⟨h1, o, h2, h3⟩, h4⟩ := h
  exact ⟨u, o, h4 u (Steps.refl _), h1, h2, h3⟩
section OwnStand
variable {p : Program} {l : Launch} {e : Env} {R : Room} {s : State} {m : MethodId} {args : Array Value} {below : List Frame} {meth : Method} {c : Code} {T : State} {locs : List Loc} {cells slots : Nat}
def Like (X : Stand p l e R s m args below meth c T locs cells slots) (T' : State) : Prop := Stand p l e R s m args below meth c T' locs cells slots
theorem Go.out (X : Stand p l e R s m args below meth c T locs cells slots) {v : Option Value} (hv : meth.sig.returnType = none → v = none) (hlocks : meth.locks = false) {g : JFrame} {ce sl : Nat} {Q : Option Value → Heap → List Loc → Prop}
    (st : ∀ fs : List Frame, (∀ (f : JFrame) (acts : List Action), f.method = m → f.locked = none → f.entered = [] → (doReturn e (T.setTop f) acts v).1 = T.setFrames fs) → Steps p.tables e below (T.setTop g) (T.setFrames fs))
    (hc : cells ≤ ce) (hs : slots ≤ sl) (q : Q v T.heap locs) : Go p.tables e below (Fin' s below ce sl Q) (T.setTop g) := by
  obtain ⟨fs, hr, hrun, hended, hW, hsame⟩ := X.leave (v := v) hv hlocks
  exact ⟨T.setFrames fs, ⟨hrun, _, hended, v, locs, rfl, q, ⟨_, rfl⟩, hW, hsame.mono hc hs⟩, fun t k => (st fs hr).trans k⟩
theorem Go.retI' (X : Stand p l e R s m args below meth c T locs cells slots) (hx : p.tables.exec = Jvm.exec) {pc : Nat} {Ls : Array Slot} {z : Int32} {rest : List Value} {t : FieldType} (hret : meth.sig.returnType = some t) (hlocks : meth.locks = false)
    (ht : t = .int ∨ t = .boolean ∨ t = .byte ∨ t = .char ∨ t = .short) (hn : narrow t (.int z) = .int z) (hd : decode c.code pc = .ok (.ireturn, 1)) {ce sl : Nat} {Q : Option Value → Heap → List Loc → Prop} (hc : cells ≤ ce) (hs : slots ≤ sl) (q : Q (some (.int z)) T.heap locs) :
    Go p.tables e below (Fin' s below ce sl Q) (T.setTop (mkF m pc Ls (.int z :: rest))) :=
  Go.out X (fun h => by rw [hret] at h; cases h) hlocks (fun _ hl => retOut X hx hret hn (Or.inl ⟨rfl, ht, z, rfl⟩) hd hl) hc hs q
theorem Go.retA' (X : Stand p l e R s m args below meth c T locs cells slots) (hx : p.tables.exec = Jvm.exec) {pc : Nat} {Ls : Array Slot} {w : Value} {rest : List Value} {t : FieldType} (hret : meth.sig.returnType = some t) (hlocks : meth.locks = false)
    (ht : t.isReference = true) (hw : w.isRef = true) (hd : decode c.code pc = .ok (.areturn, 1)) {ce sl : Nat} {Q : Option Value → Heap → List Loc → Prop} (hc : cells ≤ ce) (hs : slots ≤ sl) (q : Q (some w) T.heap locs) :
    Go p.tables e below (Fin' s below ce sl Q) (T.setTop (mkF m pc Ls (w :: rest))) :=
  Go.out X (fun h => by rw [hret] at h; cases h) hlocks (fun _ hl => retOut X hx hret (by cases t <;> first | (cases ht; done) | (rcases ref_cases hw with rfl | ⟨z, rfl⟩ <;> rfl)) (Or.inr (Or.inr (Or.inr (Or.inr ⟨rfl, ht, hw⟩)))) hd hl) hc hs q
theorem Go.retD' (X : Stand p l e R s m args below meth c T locs cells slots) (hx : p.tables.exec = Jvm.exec) {pc : Nat} {Ls : Array Slot} {z : UInt64} {rest : List Value} (hret : meth.sig.returnType = some .double) (hlocks : meth.locks = false)
    (hd : decode c.code pc = .ok (.dreturn, 1)) {ce sl : Nat} {Q : Option Value → Heap → List Loc → Prop} (hc : cells ≤ ce) (hs : slots ≤ sl) (q : Q (some (.double z)) T.heap locs) :
    Go p.tables e below (Fin' s below ce sl Q) (T.setTop (mkF m pc Ls (.double z :: rest))) :=
  Go.out X (fun h => by rw [hret] at h; cases h) hlocks (fun _ hl => retOut X hx hret rfl (Or.inr (Or.inr (Or.inl ⟨rfl, rfl, z, rfl⟩))) hd hl) hc hs q
theorem Go.retV' (X : Stand p l e R s m args below meth c T locs cells slots) (hx : p.tables.exec = Jvm.exec) {pc : Nat} {Ls : Array Slot} (hret : meth.sig.returnType = none) (hlocks : meth.locks = false)
    (hd : decode c.code pc = .ok (.return_, 1)) {ce sl : Nat} {Q : Option Value → Heap → List Loc → Prop} (hc : cells ≤ ce) (hs : slots ≤ sl) (q : Q none T.heap locs) :
    Go p.tables e below (Fin' s below ce sl Q) (T.setTop (mkF m pc Ls [])) :=
  Go.out X (fun _ => rfl) hlocks (fun _ hl => X.returnOut hx hret hd hl) hc hs q
end OwnStand
theorem own_nb {z : Int32} (h : z = 0 ∨ z = 1) : narrow .boolean (.int z) = .int z := by rcases h with rfl | rfl <;> rfl
theorem own_fb {z : Int32} (h : z = 0 ∨ z = 1) : fits .boolean (.int z) = true := by rcases h with rfl | rfl <;> rfl
theorem own_bb {x : Int32} : nar .byte (x.toInt8.toInt32) = x.toInt8.toInt32 := by show x.toInt8.toInt32.toInt8.toInt32 = x.toInt8.toInt32; simp
theorem own_nm (x : Int32) : nar .char (x &&& (255 : Int32)) = (x &&& (255 : Int32)) := i2c_mask x
theorem own_i2c {x : Int32} (h0 : ¬ x < (0 : Int32)) (h1 : ¬ (255 : Int32) < x) : x.toUInt32.toUInt16.toUInt32.toInt32 = x := by
  have a := c_i2c x
  have z0 : (0 : Int32).toInt = 0 := rfl
  have z1 : (255 : Int32).toInt = 255 := rfl
  rw [Int32.lt_iff_toInt_lt] at h0 h1
  rw [← Int32.toInt_inj]; omega
theorem own_nc {x : Int32} (h0 : ¬ x < (0 : Int32)) (h1 : ¬ (255 : Int32) < x) : nar .char x = x := own_i2c h0 h1
theorem own_b8 {x y : Int32} (h0 : ¬ x < (0 : Int32)) (h1 : ¬ (255 : Int32) < x) (h2 : ¬ y < (0 : Int32)) (h3 : ¬ (255 : Int32) < y) : (x.toInt8.toInt32) = (y.toInt8.toInt32) ↔ x = y := by
  have a := c_i2b x
  have b := c_i2b y
  have z0 : (0 : Int32).toInt = 0 := rfl
  have z1 : (255 : Int32).toInt = 255 := rfl
  rw [Int32.lt_iff_toInt_lt] at h0 h1 h2 h3
  rw [← Int32.toInt_inj, ← Int32.toInt_inj]; omega
theorem own_m (x : Int32) : ¬ (x &&& (255 : Int32)) < (0 : Int32) ∧ ¬ (255 : Int32) < (x &&& (255 : Int32)) := by
  have h := c_mask x 255 8 (by decide) (by decide)
  have z0 : (0 : Int32).toInt = 0 := rfl
  have z1 : (255 : Int32).toInt = 255 := rfl
  rw [Int32.lt_iff_toInt_lt, Int32.lt_iff_toInt_lt]; omega
theorem own_le {Z : State} {n0 : Nat} {h : Heap} (X : Old Z n0 h) : n0 ≤ h.size := X.1 ▸ X.2.1
def Gh (Z : State) (wE : Addr) (wB : Addr) (wA : Addr) : Prop := (Sta Z Z.heap "com/example/libfnseq/libfnseq/NumericValue$Relation" "EQUAL" "Lcom/example/libfnseq/libfnseq/NumericValue$Relation;" (.ref wE)) ∧ (Exa Z Z.heap wE "com/example/libfnseq/libfnseq/NumericValue$Relation") ∧ (Sta Z Z.heap "com/example/libfnseq/libfnseq/NumericValue$Relation" "BELOW" "Lcom/example/libfnseq/libfnseq/NumericValue$Relation;" (.ref wB)) ∧ (Exa Z Z.heap wB "com/example/libfnseq/libfnseq/NumericValue$Relation") ∧ (Sta Z Z.heap "com/example/libfnseq/libfnseq/NumericValue$Relation" "ABOVE" "Lcom/example/libfnseq/libfnseq/NumericValue$Relation;" (.ref wA)) ∧ (Exa Z Z.heap wA "com/example/libfnseq/libfnseq/NumericValue$Relation") ∧ (wE ≠ wB) ∧ (wE ≠ wA) ∧ (wB ≠ wA)
theorem own_i0 : (0 : Int32).toInt = 0 := rfl
theorem own_i1 : (1 : Int32).toInt = 1 := rfl
theorem own_im : (-1 : Int32).toInt = -1 := rfl
theorem own_l0 (a b : UInt64) : cmpValue (FP.dcmp b a) .l = 0 ↔ cmpValue (FP.dcmp a b) .l = 0 := by
  rw [show FP.dcmp b a = (FP.dcmp a b).map Ordering.swap from FP.Core.dcmp_swap a b]
  rcases FP.dcmp a b with _ | (_ | _ | _) <;> decide
theorem own_gl (a b : UInt64) : cmpValue (FP.dcmp b a) .g < 0 ↔ 0 < cmpValue (FP.dcmp a b) .l := by
  rw [show FP.dcmp b a = (FP.dcmp a b).map Ordering.swap from FP.Core.dcmp_swap a b]
  rcases FP.dcmp a b with _ | (_ | _ | _) <;> decide
theorem d3_0 : decode prog_65_method_5_code 0 = .ok (.aload_n 0, 1) := by decide +kernel
theorem d3_1 : decode prog_65_method_5_code 1 = .ok (.getstatic 3, 3) := by decide +kernel
theorem d3_4 : decode prog_65_method_5_code 4 = .ok (.if_acmp .ne 16, 3) := by decide +kernel
theorem d3_7 : decode prog_65_method_5_code 7 = .ok (.iload_n 1, 1) := by decide +kernel
theorem d3_8 : decode prog_65_method_5_code 8 = .ok (.ifCond .ne 7, 3) := by decide +kernel
theorem d3_11 : decode prog_65_method_5_code 11 = .ok (.iconst 1, 1) := by decide +kernel
theorem d3_12 : decode prog_65_method_5_code 12 = .ok (.goto 4, 3) := by decide +kernel
theorem d3_15 : decode prog_65_method_5_code 15 = .ok (.iconst 0, 1) := by decide +kernel
theorem d3_16 : decode prog_65_method_5_code 16 = .ok (.istore_n 2, 1) := by decide +kernel
theorem d3_17 : decode prog_65_method_5_code 17 = .ok (.goto 33, 3) := by decide +kernel
theorem d3_50 : decode prog_65_method_5_code 50 = .ok (.iload_n 2, 1) := by decide +kernel
theorem d3_51 : decode prog_65_method_5_code 51 = .ok (.ireturn, 1) := by decide +kernel
theorem pn_3 : plainName "com/example/libfnseq/libfnseq/NumericValue$Relation" = true := by first | (simp [plainName, overriddenIn]; done) | decide +kernel
set_option maxHeartbeats 4000000 in
theorem ef_rmHE (m : MethodId) {wE : Addr} {ip : Int32} : entryFrame m #[(.ref wE), (.int ip)] 3 = mkF m 0 #[.val (.ref wE), .val (.int ip), .unset] [] := by first | (simp [entryFrame, mkF, argsToLocals, Value.category]; done) | rfl
def QrmHE (Z : State) (wE : Addr) (wB : Addr) (wA : Addr) (ip : Int32) (h0 : Heap) (n0 : Nat) (v : Option Value) (h : Heap) (L : List Loc) : Prop := ∃ (r : Int32), (v = some (.int r)) ∧ (L = []) ∧ (h = h0) ∧ ((ip = (0 : Int32) ∧ r = (1 : Int32)) ∨ (¬ (ip = (0 : Int32)) ∧ r = (0 : Int32)))
set_option maxRecDepth 65536 in
set_option maxHeartbeats 40000000 in
theorem rmHE (l : Launch) (Z : State) (a0 : Array Value) (hw : ∀ d ∈ tables_1, d.before a0 Z = true) (ws : List Jvm.Cond) (wE : Addr) (wB : Addr) (wA : Addr) (G : Gh Z wE wB wA) (ip : Int32) (h0 : Heap) (n0 : Nat) (O0 : Old Z n0 h0) :
    MetFree l (⟨"com/example/libfnseq/libfnseq/NumericValue$Relation", "holds", "(I)Z"⟩ : MethodName) (head1 (Jvm.Cond.code (⟨"com/example/libfnseq/libfnseq/NumericValue$Relation", "holds", "(I)Z"⟩ : MethodName) prog_65_method_5_code 3 (some .boolean) :: ws) ({ frames := 0, cells := 0, slots := 0, locals := 0 } : Room)) (fun aa' UU' => aa' = #[(.ref wE), (.int ip)] ∧ Z.Warmed39 UU'.vm ∧ UU'.heap = h0) (fun _ _ _ _ _ => True) (fun _ UU' oo' VV' => ∃ v' L', oo' = .returned v' ∧ QrmHE Z wE wB wA ip h0 n0 v' VV'.heap L' ∧ FrameEnd UU' oo' VV' L' ({ frames := 0, cells := 0, slots := 0, locals := 0 } : Room).cells ({ frames := 0, cells := 0, slots := 0, locals := 0 } : Room).slots) := by
  refine MetFree.of_bodySF (plainFor_of_name pn_3) hisR ?_
  intro p e s m args below meth c s₁ Bd hml0 hP hK
  obtain ⟨rfl, hZ, hh⟩ := hP
  have hx := Bd.exec
  have hby := Bd.bytes
  have hlk := Bd.notSynchronized
  have hml : c.maxLocals = 3 := hml0
  have hown : s.vm.findClass "com/example/libfnseq/libfnseq/NumericValue$Relation" = some m.cls := findClass_of_methodNamed Bd.named
  have hnm := (name_of_methodNamed Bd.named Bd.method).1
  have hret := Bd.returns
  have X0 : Stand p l e ({ frames := 0, cells := 0, slots := 0, locals := 0 } : Room) s m #[(.ref wE), (.int ip)] below meth c s₁ [] 0 0 := Stand.of_body Bd
  have e0 : s₁.heap = h0 := by rw [← hh, Bd.state]; rfl
  have N0 := Fr.nil n0
  refine Go.body ?_
  obtain ⟨Pf, hPf⟩ : ∃ P, P = Fin' s below ({ frames := 0, cells := 0, slots := 0, locals := 0 } : Room).cells ({ frames := 0, cells := 0, slots := 0, locals := 0 } : Room).slots (QrmHE Z wE wB wA ip h0 n0) := ⟨_, rfl⟩
  rw [← hPf]
  refine Go.cast (ef_rmHE m) ?_
  have hw17 := (hw _ (List.mem_of_getElem? (i := 17) rfl))
  show Go p.tables e below Pf (s₁.setTop (mkF m 0 #[.val (.ref wE), .val (.int ip), .unset] []))
  refine Go.by' (fun t k => (XS.aloadN X0.here hx rfl (hb hby d3_0) rfl rfl k)) ?_
  show Go p.tables e below Pf (s₁.setTop (mkF m 1 #[.val (.ref wE), .val (.int ip), .unset] [(.ref wE)]))
  obtain ⟨T1, X1, e1, st1⟩ := getS2 X0 hx hZ hown (host := "") (Or.inl hw17) Via.refl e0 (G.1.ext O0.2) (g := (mkF m 1 #[.val (.ref wE), .val (.int ip), .unset] [(.ref wE)])) rfl (hb hby d3_1)
  refine Go.by' st1 ?_
  show Go p.tables e below Pf (T1.setTop (mkF m 4 #[.val (.ref wE), .val (.int ip), .unset] [(.ref wE), (.ref wE)]))
  refine Go.by' (fun t k => Jvm.RoadKit.acmp (g := (mkF m 4 #[.val (.ref wE), .val (.int ip), .unset] [(.ref wE), (.ref wE)])) X1 hx rfl rfl rfl (pc0 := 4) (pc' := 7) (same := true) rfl (hb hby d3_4) rfl (decide_eq_true rfl) (by decide) (by decide) k) ?_
  show Go p.tables e below Pf (T1.setTop (mkF m 7 #[.val (.ref wE), .val (.int ip), .unset] []))
  refine Go.by' (fun t k => (XS.iloadN X1.here hx rfl (hb hby d3_7) rfl k)) ?_
  show Go p.tables e below Pf (T1.setTop (mkF m 8 #[.val (.ref wE), .val (.int ip), .unset] [(.int ip)]))
  have jn3 : ∀ (T' : State) (w3_0 : Int32), Like X1 T' → T'.heap = h0 → ((ip = (0 : Int32) ∧ w3_0 = (1 : Int32)) ∨ (¬ (ip = (0 : Int32)) ∧ w3_0 = (0 : Int32))) → Go p.tables e below Pf (T'.setTop (mkF m 16 #[.val (.ref wE), .val (.int ip), .unset] [(.int w3_0)])) := by
    intro T3 w3_0 X3 e3 hm3
    unfold Like at X3
    have bw3_0 : w3_0 = 0 ∨ w3_0 = 1 := by rcases hm3 with ⟨_, h⟩ | ⟨_, h⟩ <;> first | exact Or.inl h | exact Or.inr h
    show Go p.tables e below Pf (T3.setTop (mkF m 16 #[.val (.ref wE), .val (.int ip), .unset] [(.int w3_0)]))
    refine Go.by' (fun t k => (XS.istoreN X3.here hx rfl (hb hby d3_16) rfl (l' := #[.val (.ref wE), .val (.int ip), .val (.int w3_0)]) rfl (XS.goto X3.here hx rfl (pc0 := 17) (pc' := 50) rfl (hb hby d3_17) (by decide) (by decide) (XS.iloadN X3.here hx rfl (hb hby d3_50) rfl k)))) ?_
    show Go p.tables e below Pf (T3.setTop (mkF m 51 #[.val (.ref wE), .val (.int ip), .val (.int w3_0)] [(.int w3_0)]))
    rw [hPf]
    exact Go.retI' X3 hx hret hlk (by simp) (by rcases hm3 with ⟨_, rfl⟩ | ⟨_, rfl⟩ <;> rfl) (hb hby d3_51) (by decide) (by decide) ⟨w3_0, rfl, rfl, e3, hm3⟩
  by_cases hc4 : ip = (0 : Int32)
  · refine Go.by' (fun t k => (XS.ifNo X1.here hx rfl (hb hby d3_8) rfl ((if0 _ _).trans (teq hc4).2) (XS.iconst X1.here hx rfl (hb hby d3_11) (XS.goto X1.here hx rfl (pc0 := 12) (pc' := 16) rfl (hb hby d3_12) (by decide) (by decide) k)))) ?_
    show Go p.tables e below Pf (T1.setTop (mkF m 16 #[.val (.ref wE), .val (.int ip), .unset] [(.int (1 : Int32))]))
    exact jn3 T1 ((1 : Int32)) X1 e1  (Or.inl ⟨hc4, rfl⟩)
  · refine Go.by' (fun t k => (XS.ifYes X1.here hx rfl (pc0 := 8) (pc' := 15) rfl (hb hby d3_8) rfl ((if0 _ _).trans (feq hc4).2) (by decide) (by decide) (XS.iconst X1.here hx rfl (hb hby d3_15) k))) ?_
    show Go p.tables e below Pf (T1.setTop (mkF m 16 #[.val (.ref wE), .val (.int ip), .unset] [(.int (0 : Int32))]))
    exact jn3 T1 ((0 : Int32)) X1 e1  (Or.inr ⟨hc4, rfl⟩)
theorem d3_20 : decode prog_65_method_5_code 20 = .ok (.aload_n 0, 1) := by decide +kernel
theorem d3_21 : decode prog_65_method_5_code 21 = .ok (.getstatic 7, 3) := by decide +kernel
theorem d3_24 : decode prog_65_method_5_code 24 = .ok (.if_acmp .ne 16, 3) := by decide +kernel
theorem d3_27 : decode prog_65_method_5_code 27 = .ok (.iload_n 1, 1) := by decide +kernel
theorem d3_28 : decode prog_65_method_5_code 28 = .ok (.ifCond .ge 7, 3) := by decide +kernel
theorem d3_31 : decode prog_65_method_5_code 31 = .ok (.iconst 1, 1) := by decide +kernel
theorem d3_32 : decode prog_65_method_5_code 32 = .ok (.goto 4, 3) := by decide +kernel
theorem d3_35 : decode prog_65_method_5_code 35 = .ok (.iconst 0, 1) := by decide +kernel
theorem d3_36 : decode prog_65_method_5_code 36 = .ok (.istore_n 2, 1) := by decide +kernel
theorem d3_37 : decode prog_65_method_5_code 37 = .ok (.goto 13, 3) := by decide +kernel
set_option maxHeartbeats 4000000 in
theorem ef_rmHB (m : MethodId) {wB : Addr} {ip : Int32} : entryFrame m #[(.ref wB), (.int ip)] 3 = mkF m 0 #[.val (.ref wB), .val (.int ip), .unset] [] := by first | (simp [entryFrame, mkF, argsToLocals, Value.category]; done) | rfl
def QrmHB (Z : State) (wE : Addr) (wB : Addr) (wA : Addr) (ip : Int32) (h0 : Heap) (n0 : Nat) (v : Option Value) (h : Heap) (L : List Loc) : Prop := ∃ (r : Int32), (v = some (.int r)) ∧ (L = []) ∧ (h = h0) ∧ ((ip < (0 : Int32) ∧ r = (1 : Int32)) ∨ (¬ (ip < (0 : Int32)) ∧ r = (0 : Int32)))
set_option maxRecDepth 65536 in
set_option maxHeartbeats 40000000 in
theorem rmHB (l : Launch) (Z : State) (a0 : Array Value) (hw : ∀ d ∈ tables_1, d.before a0 Z = true) (ws : List Jvm.Cond) (wE : Addr) (wB : Addr) (wA : Addr) (G : Gh Z wE wB wA) (ip : Int32) (h0 : Heap) (n0 : Nat) (O0 : Old Z n0 h0) :
    MetFree l (⟨"com/example/libfnseq/libfnseq/NumericValue$Relation", "holds", "(I)Z"⟩ : MethodName) (head1 (Jvm.Cond.code (⟨"com/example/libfnseq/libfnseq/NumericValue$Relation", "holds", "(I)Z"⟩ : MethodName) prog_65_method_5_code 3 (some .boolean) :: ws) ({ frames := 0, cells := 0, slots := 0, locals := 0 } : Room)) (fun aa' UU' => aa' = #[(.ref wB), (.int ip)] ∧ Z.Warmed39 UU'.vm ∧ UU'.heap = h0) (fun _ _ _ _ _ => True) (fun _ UU' oo' VV' => ∃ v' L', oo' = .returned v' ∧ QrmHB Z wE wB wA ip h0 n0 v' VV'.heap L' ∧ FrameEnd UU' oo' VV' L' ({ frames := 0, cells := 0, slots := 0, locals := 0 } : Room).cells ({ frames := 0, cells := 0, slots := 0, locals := 0 } : Room).slots) := by
  refine MetFree.of_bodySF (plainFor_of_name pn_3) hisR ?_
  intro p e s m args below meth c s₁ Bd hml0 hP hK
  obtain ⟨rfl, hZ, hh⟩ := hP
  have hx := Bd.exec
  have hby := Bd.bytes
  have hlk := Bd.notSynchronized
  have hml : c.maxLocals = 3 := hml0
  have hown : s.vm.findClass "com/example/libfnseq/libfnseq/NumericValue$Relation" = some m.cls := findClass_of_methodNamed Bd.named
  have hnm := (name_of_methodNamed Bd.named Bd.method).1
  have hret := Bd.returns
  have X0 : Stand p l e ({ frames := 0, cells := 0, slots := 0, locals := 0 } : Room) s m #[(.ref wB), (.int ip)] below meth c s₁ [] 0 0 := Stand.of_body Bd
  have e0 : s₁.heap = h0 := by rw [← hh, Bd.state]; rfl
  have N0 := Fr.nil n0
  refine Go.body ?_
  obtain ⟨Pf, hPf⟩ : ∃ P, P = Fin' s below ({ frames := 0, cells := 0, slots := 0, locals := 0 } : Room).cells ({ frames := 0, cells := 0, slots := 0, locals := 0 } : Room).slots (QrmHB Z wE wB wA ip h0 n0) := ⟨_, rfl⟩
  rw [← hPf]
  refine Go.cast (ef_rmHB m) ?_
  have hw13 := (hw _ (List.mem_of_getElem? (i := 13) rfl))
  have hw17 := (hw _ (List.mem_of_getElem? (i := 17) rfl))
  show Go p.tables e below Pf (s₁.setTop (mkF m 0 #[.val (.ref wB), .val (.int ip), .unset] []))
  refine Go.by' (fun t k => (XS.aloadN X0.here hx rfl (hb hby d3_0) rfl rfl k)) ?_
  show Go p.tables e below Pf (s₁.setTop (mkF m 1 #[.val (.ref wB), .val (.int ip), .unset] [(.ref wB)]))
  obtain ⟨T5, X5, e5, st5⟩ := getS2 X0 hx hZ hown (host := "") (Or.inl hw17) Via.refl e0 (G.1.ext O0.2) (g := (mkF m 1 #[.val (.ref wB), .val (.int ip), .unset] [(.ref wB)])) rfl (hb hby d3_1)
  refine Go.by' st5 ?_
  show Go p.tables e below Pf (T5.setTop (mkF m 4 #[.val (.ref wB), .val (.int ip), .unset] [(.ref wE), (.ref wB)]))
  refine Go.by' (fun t k => Jvm.RoadKit.acmp (g := (mkF m 4 #[.val (.ref wB), .val (.int ip), .unset] [(.ref wE), (.ref wB)])) X5 hx rfl rfl rfl (pc0 := 4) (pc' := 20) (same := false) rfl (hb hby d3_4) rfl (decide_eq_false (fun q => (Ne.symm G.2.2.2.2.2.2.1) (Value.ref.inj q))) (by decide) (by decide) k) ?_
  show Go p.tables e below Pf (T5.setTop (mkF m 20 #[.val (.ref wB), .val (.int ip), .unset] []))
  refine Go.by' (fun t k => (XS.aloadN X5.here hx rfl (hb hby d3_20) rfl rfl k)) ?_
  show Go p.tables e below Pf (T5.setTop (mkF m 21 #[.val (.ref wB), .val (.int ip), .unset] [(.ref wB)]))
  obtain ⟨T6, X6, e6, st6⟩ := getS2 X5 hx hZ hown (host := "") (Or.inl hw13) Via.refl e5 (G.2.2.1.ext O0.2) (g := (mkF m 21 #[.val (.ref wB), .val (.int ip), .unset] [(.ref wB)])) rfl (hb hby d3_21)
  refine Go.by' st6 ?_
  show Go p.tables e below Pf (T6.setTop (mkF m 24 #[.val (.ref wB), .val (.int ip), .unset] [(.ref wB), (.ref wB)]))
  refine Go.by' (fun t k => Jvm.RoadKit.acmp (g := (mkF m 24 #[.val (.ref wB), .val (.int ip), .unset] [(.ref wB), (.ref wB)])) X6 hx rfl rfl rfl (pc0 := 24) (pc' := 27) (same := true) rfl (hb hby d3_24) rfl (decide_eq_true rfl) (by decide) (by decide) k) ?_
  show Go p.tables e below Pf (T6.setTop (mkF m 27 #[.val (.ref wB), .val (.int ip), .unset] []))
  refine Go.by' (fun t k => (XS.iloadN X6.here hx rfl (hb hby d3_27) rfl k)) ?_
  show Go p.tables e below Pf (T6.setTop (mkF m 28 #[.val (.ref wB), .val (.int ip), .unset] [(.int ip)]))
  have jn8 : ∀ (T' : State) (w8_0 : Int32), Like X6 T' → T'.heap = h0 → ((ip < (0 : Int32) ∧ w8_0 = (1 : Int32)) ∨ (¬ (ip < (0 : Int32)) ∧ w8_0 = (0 : Int32))) → Go p.tables e below Pf (T'.setTop (mkF m 36 #[.val (.ref wB), .val (.int ip), .unset] [(.int w8_0)])) := by
    intro T8 w8_0 X8 e8 hm8
    unfold Like at X8
    have bw8_0 : w8_0 = 0 ∨ w8_0 = 1 := by rcases hm8 with ⟨_, h⟩ | ⟨_, h⟩ <;> first | exact Or.inl h | exact Or.inr h
    show Go p.tables e below Pf (T8.setTop (mkF m 36 #[.val (.ref wB), .val (.int ip), .unset] [(.int w8_0)]))
    refine Go.by' (fun t k => (XS.istoreN X8.here hx rfl (hb hby d3_36) rfl (l' := #[.val (.ref wB), .val (.int ip), .val (.int w8_0)]) rfl (XS.goto X8.here hx rfl (pc0 := 37) (pc' := 50) rfl (hb hby d3_37) (by decide) (by decide) (XS.iloadN X8.here hx rfl (hb hby d3_50) rfl k)))) ?_
    show Go p.tables e below Pf (T8.setTop (mkF m 51 #[.val (.ref wB), .val (.int ip), .val (.int w8_0)] [(.int w8_0)]))
    rw [hPf]
    exact Go.retI' X8 hx hret hlk (by simp) (by rcases hm8 with ⟨_, rfl⟩ | ⟨_, rfl⟩ <;> rfl) (hb hby d3_51) (by decide) (by decide) ⟨w8_0, rfl, rfl, e8, hm8⟩
  by_cases hc9 : ip < (0 : Int32)
  · refine Go.by' (fun t k => (XS.ifNo X6.here hx rfl (hb hby d3_28) rfl ((if0 _ _).trans (tlt hc9).2.1) (XS.iconst X6.here hx rfl (hb hby d3_31) (XS.goto X6.here hx rfl (pc0 := 32) (pc' := 36) rfl (hb hby d3_32) (by decide) (by decide) k)))) ?_
    show Go p.tables e below Pf (T6.setTop (mkF m 36 #[.val (.ref wB), .val (.int ip), .unset] [(.int (1 : Int32))]))
    exact jn8 T6 ((1 : Int32)) X6 e6  (Or.inl ⟨hc9, rfl⟩)
  · refine Go.by' (fun t k => (XS.ifYes X6.here hx rfl (pc0 := 28) (pc' := 35) rfl (hb hby d3_28) rfl ((if0 _ _).trans (flt hc9).2.1) (by decide) (by decide) (XS.iconst X6.here hx rfl (hb hby d3_35) k))) ?_
    show Go p.tables e below Pf (T6.setTop (mkF m 36 #[.val (.ref wB), .val (.int ip), .unset] [(.int (0 : Int32))]))
    exact jn8 T6 ((0 : Int32)) X6 e6  (Or.inr ⟨hc9, rfl⟩)
theorem d3_40 : decode prog_65_method_5_code 40 = .ok (.iload_n 1, 1) := by decide +kernel
theorem d3_41 : decode prog_65_method_5_code 41 = .ok (.ifCond .le 7, 3) := by decide +kernel
theorem d3_44 : decode prog_65_method_5_code 44 = .ok (.iconst 1, 1) := by decide +kernel
theorem d3_45 : decode prog_65_method_5_code 45 = .ok (.goto 4, 3) := by decide +kernel
theorem d3_48 : decode prog_65_method_5_code 48 = .ok (.iconst 0, 1) := by decide +kernel
theorem d3_49 : decode prog_65_method_5_code 49 = .ok (.istore_n 2, 1) := by decide +kernel
set_option maxHeartbeats 4000000 in
theorem ef_rmHA (m : MethodId) {wA : Addr} {ip : Int32} : entryFrame m #[(.ref wA), (.int ip)] 3 = mkF m 0 #[.val (.ref wA), .val (.int ip), .unset] [] := by first | (simp [entryFrame, mkF, argsToLocals, Value.category]; done) | rfl
def QrmHA (Z : State) (wE : Addr) (wB : Addr) (wA : Addr) (ip : Int32) (h0 : Heap) (n0 : Nat) (v : Option Value) (h : Heap) (L : List Loc) : Prop := ∃ (r : Int32), (v = some (.int r)) ∧ (L = []) ∧ (h = h0) ∧ (((0 : Int32) < ip ∧ r = (1 : Int32)) ∨ (¬ ((0 : Int32) < ip) ∧ r = (0 : Int32)))
set_option maxRecDepth 65536 in
set_option maxHeartbeats 40000000 in
theorem rmHA (l : Launch) (Z : State) (a0 : Array Value) (hw : ∀ d ∈ tables_1, d.before a0 Z = true) (ws : List Jvm.Cond) (wE : Addr) (wB : Addr) (wA : Addr) (G : Gh Z wE wB wA) (ip : Int32) (h0 : Heap) (n0 : Nat) (O0 : Old Z n0 h0) :
    MetFree l (⟨"com/example/libfnseq/libfnseq/NumericValue$Relation", "holds", "(I)Z"⟩ : MethodName) (head1 (Jvm.Cond.code (⟨"com/example/libfnseq/libfnseq/NumericValue$Relation", "holds", "(I)Z"⟩ : MethodName) prog_65_method_5_code 3 (some .boolean) :: ws) ({ frames := 0, cells := 0, slots := 0, locals := 0 } : Room)) (fun aa' UU' => aa' = #[(.ref wA), (.int ip)] ∧ Z.Warmed39 UU'.vm ∧ UU'.heap = h0) (fun _ _ _ _ _ => True) (fun _ UU' oo' VV' => ∃ v' L', oo' = .returned v' ∧ QrmHA Z wE wB wA ip h0 n0 v' VV'.heap L' ∧ FrameEnd UU' oo' VV' L' ({ frames := 0, cells := 0, slots := 0, locals := 0 } : Room).cells ({ frames := 0, cells := 0, slots := 0, locals := 0 } : Room).slots) := by
  refine MetFree.of_bodySF (plainFor_of_name pn_3) hisR ?_
  intro p e s m args below meth c s₁ Bd hml0 hP hK
  obtain ⟨rfl, hZ, hh⟩ := hP
  have hx := Bd.exec
  have hby := Bd.bytes
  have hlk := Bd.notSynchronized
  have hml : c.maxLocals = 3 := hml0
  have hown : s.vm.findClass "com/example/libfnseq/libfnseq/NumericValue$Relation" = some m.cls := findClass_of_methodNamed Bd.named
  have hnm := (name_of_methodNamed Bd.named Bd.method).1
  have hret := Bd.returns
  have X0 : Stand p l e ({ frames := 0, cells := 0, slots := 0, locals := 0 } : Room) s m #[(.ref wA), (.int ip)] below meth c s₁ [] 0 0 := Stand.of_body Bd
  have e0 : s₁.heap = h0 := by rw [← hh, Bd.state]; rfl
  have N0 := Fr.nil n0
  refine Go.body ?_
  obtain ⟨Pf, hPf⟩ : ∃ P, P = Fin' s below ({ frames := 0, cells := 0, slots := 0, locals := 0 } : Room).cells ({ frames := 0, cells := 0, slots := 0, locals := 0 } : Room).slots (QrmHA Z wE wB wA ip h0 n0) := ⟨_, rfl⟩
  rw [← hPf]
  refine Go.cast (ef_rmHA m) ?_
  have hw13 := (hw _ (List.mem_of_getElem? (i := 13) rfl))
  have hw17 := (hw _ (List.mem_of_getElem? (i := 17) rfl))
  show Go p.tables e below Pf (s₁.setTop (mkF m 0 #[.val (.ref wA), .val (.int ip), .unset] []))
  refine Go.by' (fun t k => (XS.aloadN X0.here hx rfl (hb hby d3_0) rfl rfl k)) ?_
  show Go p.tables e below Pf (s₁.setTop (mkF m 1 #[.val (.ref wA), .val (.int ip), .unset] [(.ref wA)]))
  obtain ⟨T10, X10, e10, st10⟩ := getS2 X0 hx hZ hown (host := "") (Or.inl hw17) Via.refl e0 (G.1.ext O0.2) (g := (mkF m 1 #[.val (.ref wA), .val (.int ip), .unset] [(.ref wA)])) rfl (hb hby d3_1)
  refine Go.by' st10 ?_
  show Go p.tables e below Pf (T10.setTop (mkF m 4 #[.val (.ref wA), .val (.int ip), .unset] [(.ref wE), (.ref wA)]))
  refine Go.by' (fun t k => Jvm.RoadKit.acmp (g := (mkF m 4 #[.val (.ref wA), .val (.int ip), .unset] [(.ref wE), (.ref wA)])) X10 hx rfl rfl rfl (pc0 := 4) (pc' := 20) (same := false) rfl (hb hby d3_4) rfl (decide_eq_false (fun q => (Ne.symm G.2.2.2.2.2.2.2.1) (Value.ref.inj q))) (by decide) (by decide) k) ?_
  show Go p.tables e below Pf (T10.setTop (mkF m 20 #[.val (.ref wA), .val (.int ip), .unset] []))
  refine Go.by' (fun t k => (XS.aloadN X10.here hx rfl (hb hby d3_20) rfl rfl k)) ?_
  show Go p.tables e below Pf (T10.setTop (mkF m 21 #[.val (.ref wA), .val (.int ip), .unset] [(.ref wA)]))
  obtain ⟨T11, X11, e11, st11⟩ := getS2 X10 hx hZ hown (host := "") (Or.inl hw13) Via.refl e10 (G.2.2.1.ext O0.2) (g := (mkF m 21 #[.val (.ref wA), .val (.int ip), .unset] [(.ref wA)])) rfl (hb hby d3_21)
  refine Go.by' st11 ?_
  show Go p.tables e below Pf (T11.setTop (mkF m 24 #[.val (.ref wA), .val (.int ip), .unset] [(.ref wB), (.ref wA)]))
  refine Go.by' (fun t k => Jvm.RoadKit.acmp (g := (mkF m 24 #[.val (.ref wA), .val (.int ip), .unset] [(.ref wB), (.ref wA)])) X11 hx rfl rfl rfl (pc0 := 24) (pc' := 40) (same := false) rfl (hb hby d3_24) rfl (decide_eq_false (fun q => (Ne.symm G.2.2.2.2.2.2.2.2) (Value.ref.inj q))) (by decide) (by decide) k) ?_
  show Go p.tables e below Pf (T11.setTop (mkF m 40 #[.val (.ref wA), .val (.int ip), .unset] []))
  refine Go.by' (fun t k => (XS.iloadN X11.here hx rfl (hb hby d3_40) rfl k)) ?_
  show Go p.tables e below Pf (T11.setTop (mkF m 41 #[.val (.ref wA), .val (.int ip), .unset] [(.int ip)]))
  have jn13 : ∀ (T' : State) (w13_0 : Int32), Like X11 T' → T'.heap = h0 → (((0 : Int32) < ip ∧ w13_0 = (1 : Int32)) ∨ (¬ ((0 : Int32) < ip) ∧ w13_0 = (0 : Int32))) → Go p.tables e below Pf (T'.setTop (mkF m 49 #[.val (.ref wA), .val (.int ip), .unset] [(.int w13_0)])) := by
    intro T13 w13_0 X13 e13 hm13
    unfold Like at X13
    have bw13_0 : w13_0 = 0 ∨ w13_0 = 1 := by rcases hm13 with ⟨_, h⟩ | ⟨_, h⟩ <;> first | exact Or.inl h | exact Or.inr h
    show Go p.tables e below Pf (T13.setTop (mkF m 49 #[.val (.ref wA), .val (.int ip), .unset] [(.int w13_0)]))
    refine Go.by' (fun t k => (XS.istoreN X13.here hx rfl (hb hby d3_49) rfl (l' := #[.val (.ref wA), .val (.int ip), .val (.int w13_0)]) rfl (XS.iloadN X13.here hx rfl (hb hby d3_50) rfl k))) ?_
    show Go p.tables e below Pf (T13.setTop (mkF m 51 #[.val (.ref wA), .val (.int ip), .val (.int w13_0)] [(.int w13_0)]))
    rw [hPf]
    exact Go.retI' X13 hx hret hlk (by simp) (by rcases hm13 with ⟨_, rfl⟩ | ⟨_, rfl⟩ <;> rfl) (hb hby d3_51) (by decide) (by decide) ⟨w13_0, rfl, rfl, e13, hm13⟩
  by_cases hc14 : (0 : Int32) < ip
  · refine Go.by' (fun t k => (XS.ifNo X11.here hx rfl (hb hby d3_41) rfl ((if0 _ _).trans (tlt hc14).2.2.2) (XS.iconst X11.here hx rfl (hb hby d3_44) (XS.goto X11.here hx rfl (pc0 := 45) (pc' := 49) rfl (hb hby d3_45) (by decide) (by decide) k)))) ?_
    show Go p.tables e below Pf (T11.setTop (mkF m 49 #[.val (.ref wA), .val (.int ip), .unset] [(.int (1 : Int32))]))
    exact jn13 T11 ((1 : Int32)) X11 e11  (Or.inl ⟨hc14, rfl⟩)
  · refine Go.by' (fun t k => (XS.ifYes X11.here hx rfl (pc0 := 41) (pc' := 48) rfl (hb hby d3_41) rfl ((if0 _ _).trans (flt hc14).2.2.2) (by decide) (by decide) (XS.iconst X11.here hx rfl (hb hby d3_48) k))) ?_
    show Go p.tables e below Pf (T11.setTop (mkF m 49 #[.val (.ref wA), .val (.int ip), .unset] [(.int (0 : Int32))]))
    exact jn13 T11 ((0 : Int32)) X11 e11  (Or.inr ⟨hc14, rfl⟩)
theorem d5_0 : decode prog_65_method_6_code 0 = .ok (.aload_n 0, 1) := by decide +kernel
theorem d5_1 : decode prog_65_method_6_code 1 = .ok (.getstatic 3, 3) := by decide +kernel
theorem d5_4 : decode prog_65_method_6_code 4 = .ok (.if_acmp .ne 19, 3) := by decide +kernel
theorem d5_7 : decode prog_65_method_6_code 7 = .ok (.dload_n 1, 1) := by decide +kernel
theorem d5_8 : decode prog_65_method_6_code 8 = .ok (.dload_n 3, 1) := by decide +kernel
theorem d5_9 : decode prog_65_method_6_code 9 = .ok (.dcmp .l, 1) := by decide +kernel
theorem d5_10 : decode prog_65_method_6_code 10 = .ok (.ifCond .ne 7, 3) := by decide +kernel
theorem d5_13 : decode prog_65_method_6_code 13 = .ok (.iconst 1, 1) := by decide +kernel
theorem d5_14 : decode prog_65_method_6_code 14 = .ok (.goto 4, 3) := by decide +kernel
theorem d5_17 : decode prog_65_method_6_code 17 = .ok (.iconst 0, 1) := by decide +kernel
theorem d5_18 : decode prog_65_method_6_code 18 = .ok (.istore 5, 2) := by decide +kernel
theorem d5_20 : decode prog_65_method_6_code 20 = .ok (.goto 39, 3) := by decide +kernel
theorem d5_59 : decode prog_65_method_6_code 59 = .ok (.iload 5, 2) := by decide +kernel
theorem d5_61 : decode prog_65_method_6_code 61 = .ok (.ireturn, 1) := by decide +kernel
theorem pn_5 : plainName "com/example/libfnseq/libfnseq/NumericValue$Relation" = true := by first | (simp [plainName, overriddenIn]; done) | decide +kernel
set_option maxHeartbeats 4000000 in
theorem ef_rmDE (m : MethodId) {wE : Addr} {da : UInt64} {db : UInt64} : entryFrame m #[(.ref wE), (.double da), (.double db)] 6 = mkF m 0 #[.val (.ref wE), .val (.double da), .second, .val (.double db), .second, .unset] [] := by first | (simp [entryFrame, mkF, argsToLocals, Value.category]; done) | rfl
def QrmDE (Z : State) (wE : Addr) (wB : Addr) (wA : Addr) (da : UInt64) (db : UInt64) (h0 : Heap) (n0 : Nat) (v : Option Value) (h : Heap) (L : List Loc) : Prop := ∃ (r : Int32), (v = some (.int r)) ∧ (L = []) ∧ (h = h0) ∧ (((cmpValue (FP.dcmp da db) .l) = (0 : Int32) ∧ r = (1 : Int32)) ∨ (¬ ((cmpValue (FP.dcmp da db) .l) = (0 : Int32)) ∧ r = (0 : Int32)))
set_option maxRecDepth 65536 in
set_option maxHeartbeats 40000000 in
theorem rmDE (l : Launch) (Z : State) (a0 : Array Value) (hw : ∀ d ∈ tables_1, d.before a0 Z = true) (ws : List Jvm.Cond) (wE : Addr) (wB : Addr) (wA : Addr) (G : Gh Z wE wB wA) (da : UInt64) (db : UInt64) (h0 : Heap) (n0 : Nat) (O0 : Old Z n0 h0) :
    MetFree l (⟨"com/example/libfnseq/libfnseq/NumericValue$Relation", "holds", "(DD)Z"⟩ : MethodName) (head1 (Jvm.Cond.code (⟨"com/example/libfnseq/libfnseq/NumericValue$Relation", "holds", "(DD)Z"⟩ : MethodName) prog_65_method_6_code 6 (some .boolean) :: ws) ({ frames := 0, cells := 0, slots := 0, locals := 0 } : Room)) (fun aa' UU' => aa' = #[(.ref wE), (.double da), (.double db)] ∧ Z.Warmed39 UU'.vm ∧ UU'.heap = h0) (fun _ _ _ _ _ => True) (fun _ UU' oo' VV' => ∃ v' L', oo' = .returned v' ∧ QrmDE Z wE wB wA da db h0 n0 v' VV'.heap L' ∧ FrameEnd UU' oo' VV' L' ({ frames := 0, cells := 0, slots := 0, locals := 0 } : Room).cells ({ frames := 0, cells := 0, slots := 0, locals := 0 } : Room).slots) := by
  refine MetFree.of_bodySF (plainFor_of_name pn_5) hisR ?_
  intro p e s m args below meth c s₁ Bd hml0 hP hK
  obtain ⟨rfl, hZ, hh⟩ := hP
  have hx := Bd.exec
  have hby := Bd.bytes
  have hlk := Bd.notSynchronized
  have hml : c.maxLocals = 6 := hml0
  have hown : s.vm.findClass "com/example/libfnseq/libfnseq/NumericValue$Relation" = some m.cls := findClass_of_methodNamed Bd.named
  have hnm := (name_of_methodNamed Bd.named Bd.method).1
  have hret := Bd.returns
  have X0 : Stand p l e ({ frames := 0, cells := 0, slots := 0, locals := 0 } : Room) s m #[(.ref wE), (.double da), (.double db)] below meth c s₁ [] 0 0 := Stand.of_body Bd
  have e0 : s₁.heap = h0 := by rw [← hh, Bd.state]; rfl
  have N0 := Fr.nil n0
  refine Go.body ?_
  obtain ⟨Pf, hPf⟩ : ∃ P, P = Fin' s below ({ frames := 0, cells := 0, slots := 0, locals := 0 } : Room).cells ({ frames := 0, cells := 0, slots := 0, locals := 0 } : Room).slots (QrmDE Z wE wB wA da db h0 n0) := ⟨_, rfl⟩
  rw [← hPf]
  refine Go.cast (ef_rmDE m) ?_
  have hw17 := (hw _ (List.mem_of_getElem? (i := 17) rfl))
  show Go p.tables e below Pf (s₁.setTop (mkF m 0 #[.val (.ref wE), .val (.double da), .second, .val (.double db), .second, .unset] []))
  refine Go.by' (fun t k => (XS.aloadN X0.here hx rfl (hb hby d5_0) rfl rfl k)) ?_
  show Go p.tables e below Pf (s₁.setTop (mkF m 1 #[.val (.ref wE), .val (.double da), .second, .val (.double db), .second, .unset] [(.ref wE)]))
  obtain ⟨T15, X15, e15, st15⟩ := getS2 X0 hx hZ hown (host := "") (Or.inl hw17) Via.refl e0 (G.1.ext O0.2) (g := (mkF m 1 #[.val (.ref wE), .val (.double da), .second, .val (.double db), .second, .unset] [(.ref wE)])) rfl (hb hby d5_1)
  refine Go.by' st15 ?_
  show Go p.tables e below Pf (T15.setTop (mkF m 4 #[.val (.ref wE), .val (.double da), .second, .val (.double db), .second, .unset] [(.ref wE), (.ref wE)]))
  refine Go.by' (fun t k => Jvm.RoadKit.acmp (g := (mkF m 4 #[.val (.ref wE), .val (.double da), .second, .val (.double db), .second, .unset] [(.ref wE), (.ref wE)])) X15 hx rfl rfl rfl (pc0 := 4) (pc' := 7) (same := true) rfl (hb hby d5_4) rfl (decide_eq_true rfl) (by decide) (by decide) k) ?_
  show Go p.tables e below Pf (T15.setTop (mkF m 7 #[.val (.ref wE), .val (.double da), .second, .val (.double db), .second, .unset] []))
  refine Go.by' (fun t k => (XS.dloadN X15.here hx rfl (hb hby d5_7) rfl (XS.dloadN X15.here hx rfl (hb hby d5_8) rfl (XS.dcmpS X15.here hx rfl (hb hby d5_9) rfl rfl k)))) ?_
  show Go p.tables e below Pf (T15.setTop (mkF m 10 #[.val (.ref wE), .val (.double da), .second, .val (.double db), .second, .unset] [(.int (cmpValue (FP.dcmp da db) .l))]))
  have jn17 : ∀ (T' : State) (w17_0 : Int32), Like X15 T' → T'.heap = h0 → (((cmpValue (FP.dcmp da db) .l) = (0 : Int32) ∧ w17_0 = (1 : Int32)) ∨ (¬ ((cmpValue (FP.dcmp da db) .l) = (0 : Int32)) ∧ w17_0 = (0 : Int32))) → Go p.tables e below Pf (T'.setTop (mkF m 18 #[.val (.ref wE), .val (.double da), .second, .val (.double db), .second, .unset] [(.int w17_0)])) := by
    intro T17 w17_0 X17 e17 hm17
    unfold Like at X17
    have bw17_0 : w17_0 = 0 ∨ w17_0 = 1 := by rcases hm17 with ⟨_, h⟩ | ⟨_, h⟩ <;> first | exact Or.inl h | exact Or.inr h
    show Go p.tables e below Pf (T17.setTop (mkF m 18 #[.val (.ref wE), .val (.double da), .second, .val (.double db), .second, .unset] [(.int w17_0)]))
    refine Go.by' (fun t k => (XS.istore X17.here hx rfl (hb hby d5_18) rfl (l' := #[.val (.ref wE), .val (.double da), .second, .val (.double db), .second, .val (.int w17_0)]) rfl (XS.goto X17.here hx rfl (pc0 := 20) (pc' := 59) rfl (hb hby d5_20) (by decide) (by decide) (XS.iload X17.here hx rfl (hb hby d5_59) rfl k)))) ?_
    show Go p.tables e below Pf (T17.setTop (mkF m 61 #[.val (.ref wE), .val (.double da), .second, .val (.double db), .second, .val (.int w17_0)] [(.int w17_0)]))
    rw [hPf]
    exact Go.retI' X17 hx hret hlk (by simp) (by rcases hm17 with ⟨_, rfl⟩ | ⟨_, rfl⟩ <;> rfl) (hb hby d5_61) (by decide) (by decide) ⟨w17_0, rfl, rfl, e17, hm17⟩
  by_cases hc18 : (cmpValue (FP.dcmp da db) .l) = (0 : Int32)
  · refine Go.by' (fun t k => (XS.ifNo X15.here hx rfl (hb hby d5_10) rfl ((if0 _ _).trans (teq hc18).2) (XS.iconst X15.here hx rfl (hb hby d5_13) (XS.goto X15.here hx rfl (pc0 := 14) (pc' := 18) rfl (hb hby d5_14) (by decide) (by decide) k)))) ?_
    show Go p.tables e below Pf (T15.setTop (mkF m 18 #[.val (.ref wE), .val (.double da), .second, .val (.double db), .second, .unset] [(.int (1 : Int32))]))
    exact jn17 T15 ((1 : Int32)) X15 e15  (Or.inl ⟨hc18, rfl⟩)
  · refine Go.by' (fun t k => (XS.ifYes X15.here hx rfl (pc0 := 10) (pc' := 17) rfl (hb hby d5_10) rfl ((if0 _ _).trans (feq hc18).2) (by decide) (by decide) (XS.iconst X15.here hx rfl (hb hby d5_17) k))) ?_
    show Go p.tables e below Pf (T15.setTop (mkF m 18 #[.val (.ref wE), .val (.double da), .second, .val (.double db), .second, .unset] [(.int (0 : Int32))]))
    exact jn17 T15 ((0 : Int32)) X15 e15  (Or.inr ⟨hc18, rfl⟩)
theorem d5_23 : decode prog_65_method_6_code 23 = .ok (.aload_n 0, 1) := by decide +kernel
theorem d5_24 : decode prog_65_method_6_code 24 = .ok (.getstatic 7, 3) := by decide +kernel
theorem d5_27 : decode prog_65_method_6_code 27 = .ok (.if_acmp .ne 19, 3) := by decide +kernel
theorem d5_30 : decode prog_65_method_6_code 30 = .ok (.dload_n 1, 1) := by decide +kernel
theorem d5_31 : decode prog_65_method_6_code 31 = .ok (.dload_n 3, 1) := by decide +kernel
theorem d5_32 : decode prog_65_method_6_code 32 = .ok (.dcmp .g, 1) := by decide +kernel
theorem d5_33 : decode prog_65_method_6_code 33 = .ok (.ifCond .ge 7, 3) := by decide +kernel
theorem d5_36 : decode prog_65_method_6_code 36 = .ok (.iconst 1, 1) := by decide +kernel
theorem d5_37 : decode prog_65_method_6_code 37 = .ok (.goto 4, 3) := by decide +kernel
theorem d5_40 : decode prog_65_method_6_code 40 = .ok (.iconst 0, 1) := by decide +kernel
theorem d5_41 : decode prog_65_method_6_code 41 = .ok (.istore 5, 2) := by decide +kernel
theorem d5_43 : decode prog_65_method_6_code 43 = .ok (.goto 16, 3) := by decide +kernel
set_option maxHeartbeats 4000000 in
theorem ef_rmDB (m : MethodId) {wB : Addr} {da : UInt64} {db : UInt64} : entryFrame m #[(.ref wB), (.double da), (.double db)] 6 = mkF m 0 #[.val (.ref wB), .val (.double da), .second, .val (.double db), .second, .unset] [] := by first | (simp [entryFrame, mkF, argsToLocals, Value.category]; done) | rfl
def QrmDB (Z : State) (wE : Addr) (wB : Addr) (wA : Addr) (da : UInt64) (db : UInt64) (h0 : Heap) (n0 : Nat) (v : Option Value) (h : Heap) (L : List Loc) : Prop := ∃ (r : Int32), (v = some (.int r)) ∧ (L = []) ∧ (h = h0) ∧ (((cmpValue (FP.dcmp da db) .g) < (0 : Int32) ∧ r = (1 : Int32)) ∨ (¬ ((cmpValue (FP.dcmp da db) .g) < (0 : Int32)) ∧ r = (0 : Int32)))
set_option maxRecDepth 65536 in
set_option maxHeartbeats 40000000 in
theorem rmDB (l : Launch) (Z : State) (a0 : Array Value) (hw : ∀ d ∈ tables_1, d.before a0 Z = true) (ws : List Jvm.Cond) (wE : Addr) (wB : Addr) (wA : Addr) (G : Gh Z wE wB wA) (da : UInt64) (db : UInt64) (h0 : Heap) (n0 : Nat) (O0 : Old Z n0 h0) :
    MetFree l (⟨"com/example/libfnseq/libfnseq/NumericValue$Relation", "holds", "(DD)Z"⟩ : MethodName) (head1 (Jvm.Cond.code (⟨"com/example/libfnseq/libfnseq/NumericValue$Relation", "holds", "(DD)Z"⟩ : MethodName) prog_65_method_6_code 6 (some .boolean) :: ws) ({ frames := 0, cells := 0, slots := 0, locals := 0 } : Room)) (fun aa' UU' => aa' = #[(.ref wB), (.double da), (.double db)] ∧ Z.Warmed39 UU'.vm ∧ UU'.heap = h0) (fun _ _ _ _ _ => True) (fun _ UU' oo' VV' => ∃ v' L', oo' = .returned v' ∧ QrmDB Z wE wB wA da db h0 n0 v' VV'.heap L' ∧ FrameEnd UU' oo' VV' L' ({ frames := 0, cells := 0, slots := 0, locals := 0 } : Room).cells ({ frames := 0, cells := 0, slots := 0, locals := 0 } : Room).slots) := by
  refine MetFree.of_bodySF (plainFor_of_name pn_5) hisR ?_
  intro p e s m args below meth c s₁ Bd hml0 hP hK
  obtain ⟨rfl, hZ, hh⟩ := hP
  have hx := Bd.exec
  have hby := Bd.bytes
  have hlk := Bd.notSynchronized
  have hml : c.maxLocals = 6 := hml0
  have hown : s.vm.findClass "com/example/libfnseq/libfnseq/NumericValue$Relation" = some m.cls := findClass_of_methodNamed Bd.named
  have hnm := (name_of_methodNamed Bd.named Bd.method).1
  have hret := Bd.returns
  have X0 : Stand p l e ({ frames := 0, cells := 0, slots := 0, locals := 0 } : Room) s m #[(.ref wB), (.double da), (.double db)] below meth c s₁ [] 0 0 := Stand.of_body Bd
  have e0 : s₁.heap = h0 := by rw [← hh, Bd.state]; rfl
  have N0 := Fr.nil n0
  refine Go.body ?_
  obtain ⟨Pf, hPf⟩ : ∃ P, P = Fin' s below ({ frames := 0, cells := 0, slots := 0, locals := 0 } : Room).cells ({ frames := 0, cells := 0, slots := 0, locals := 0 } : Room).slots (QrmDB Z wE wB wA da db h0 n0) := ⟨_, rfl⟩
  rw [← hPf]
  refine Go.cast (ef_rmDB m) ?_
  have hw13 := (hw _ (List.mem_of_getElem? (i := 13) rfl))
  have hw17 := (hw _ (List.mem_of_getElem? (i := 17) rfl))
  show Go p.tables e below Pf (s₁.setTop (mkF m 0 #[.val (.ref wB), .val (.double da), .second, .val (.double db), .second, .unset] []))
  refine Go.by' (fun t k => (XS.aloadN X0.here hx rfl (hb hby d5_0) rfl rfl k)) ?_
  show Go p.tables e below Pf (s₁.setTop (mkF m 1 #[.val (.ref wB), .val (.double da), .second, .val (.double db), .second, .unset] [(.ref wB)]))
  obtain ⟨T19, X19, e19, st19⟩ := getS2 X0 hx hZ hown (host := "") (Or.inl hw17) Via.refl e0 (G.1.ext O0.2) (g := (mkF m 1 #[.val (.ref wB), .val (.double da), .second, .val (.double db), .second, .unset] [(.ref wB)])) rfl (hb hby d5_1)
  refine Go.by' st19 ?_
  show Go p.tables e below Pf (T19.setTop (mkF m 4 #[.val (.ref wB), .val (.double da), .second, .val (.double db), .second, .unset] [(.ref wE), (.ref wB)]))
  refine Go.by' (fun t k => Jvm.RoadKit.acmp (g := (mkF m 4 #[.val (.ref wB), .val (.double da), .second, .val (.double db), .second, .unset] [(.ref wE), (.ref wB)])) X19 hx rfl rfl rfl (pc0 := 4) (pc' := 23) (same := false) rfl (hb hby d5_4) rfl (decide_eq_false (fun q => (Ne.symm G.2.2.2.2.2.2.1) (Value.ref.inj q))) (by decide) (by decide) k) ?_
  show Go p.tables e below Pf (T19.setTop (mkF m 23 #[.val (.ref wB), .val (.double da), .second, .val (.double db), .second, .unset] []))
  refine Go.by' (fun t k => (XS.aloadN X19.here hx rfl (hb hby d5_23) rfl rfl k)) ?_
  show Go p.tables e below Pf (T19.setTop (mkF m 24 #[.val (.ref wB), .val (.double da), .second, .val (.double db), .second, .unset] [(.ref wB)]))
  obtain ⟨T20, X20, e20, st20⟩ := getS2 X19 hx hZ hown (host := "") (Or.inl hw13) Via.refl e19 (G.2.2.1.ext O0.2) (g := (mkF m 24 #[.val (.ref wB), .val (.double da), .second, .val (.double db), .second, .unset] [(.ref wB)])) rfl (hb hby d5_24)
  refine Go.by' st20 ?_
  show Go p.tables e below Pf (T20.setTop (mkF m 27 #[.val (.ref wB), .val (.double da), .second, .val (.double db), .second, .unset] [(.ref wB), (.ref wB)]))
  refine Go.by' (fun t k => Jvm.RoadKit.acmp (g := (mkF m 27 #[.val (.ref wB), .val (.double da), .second, .val (.double db), .second, .unset] [(.ref wB), (.ref wB)])) X20 hx rfl rfl rfl (pc0 := 27) (pc' := 30) (same := true) rfl (hb hby d5_27) rfl (decide_eq_true rfl) (by decide) (by decide) k) ?_
  show Go p.tables e below Pf (T20.setTop (mkF m 30 #[.val (.ref wB), .val (.double da), .second, .val (.double db), .second, .unset] []))
  refine Go.by' (fun t k => (XS.dloadN X20.here hx rfl (hb hby d5_30) rfl (XS.dloadN X20.here hx rfl (hb hby d5_31) rfl (XS.dcmpS X20.here hx rfl (hb hby d5_32) rfl rfl k)))) ?_
  show Go p.tables e below Pf (T20.setTop (mkF m 33 #[.val (.ref wB), .val (.double da), .second, .val (.double db), .second, .unset] [(.int (cmpValue (FP.dcmp da db) .g))]))
  have jn22 : ∀ (T' : State) (w22_0 : Int32), Like X20 T' → T'.heap = h0 → (((cmpValue (FP.dcmp da db) .g) < (0 : Int32) ∧ w22_0 = (1 : Int32)) ∨ (¬ ((cmpValue (FP.dcmp da db) .g) < (0 : Int32)) ∧ w22_0 = (0 : Int32))) → Go p.tables e below Pf (T'.setTop (mkF m 41 #[.val (.ref wB), .val (.double da), .second, .val (.double db), .second, .unset] [(.int w22_0)])) := by
    intro T22 w22_0 X22 e22 hm22
    unfold Like at X22
    have bw22_0 : w22_0 = 0 ∨ w22_0 = 1 := by rcases hm22 with ⟨_, h⟩ | ⟨_, h⟩ <;> first | exact Or.inl h | exact Or.inr h
    show Go p.tables e below Pf (T22.setTop (mkF m 41 #[.val (.ref wB), .val (.double da), .second, .val (.double db), .second, .unset] [(.int w22_0)]))
    refine Go.by' (fun t k => (XS.istore X22.here hx rfl (hb hby d5_41) rfl (l' := #[.val (.ref wB), .val (.double da), .second, .val (.double db), .second, .val (.int w22_0)]) rfl (XS.goto X22.here hx rfl (pc0 := 43) (pc' := 59) rfl (hb hby d5_43) (by decide) (by decide) (XS.iload X22.here hx rfl (hb hby d5_59) rfl k)))) ?_
    show Go p.tables e below Pf (T22.setTop (mkF m 61 #[.val (.ref wB), .val (.double da), .second, .val (.double db), .second, .val (.int w22_0)] [(.int w22_0)]))
    rw [hPf]
    exact Go.retI' X22 hx hret hlk (by simp) (by rcases hm22 with ⟨_, rfl⟩ | ⟨_, rfl⟩ <;> rfl) (hb hby d5_61) (by decide) (by decide) ⟨w22_0, rfl, rfl, e22, hm22⟩
  by_cases hc23 : (cmpValue (FP.dcmp da db) .g) < (0 : Int32)
  · refine Go.by' (fun t k => (XS.ifNo X20.here hx rfl (hb hby d5_33) rfl ((if0 _ _).trans (tlt hc23).2.1) (XS.iconst X20.here hx rfl (hb hby d5_36) (XS.goto X20.here hx rfl (pc0 := 37) (pc' := 41) rfl (hb hby d5_37) (by decide) (by decide) k)))) ?_
    show Go p.tables e below Pf (T20.setTop (mkF m 41 #[.val (.ref wB), .val (.double da), .second, .val (.double db), .second, .unset] [(.int (1 : Int32))]))
    exact jn22 T20 ((1 : Int32)) X20 e20  (Or.inl ⟨hc23, rfl⟩)
  · refine Go.by' (fun t k => (XS.ifYes X20.here hx rfl (pc0 := 33) (pc' := 40) rfl (hb hby d5_33) rfl ((if0 _ _).trans (flt hc23).2.1) (by decide) (by decide) (XS.iconst X20.here hx rfl (hb hby d5_40) k))) ?_
    show Go p.tables e below Pf (T20.setTop (mkF m 41 #[.val (.ref wB), .val (.double da), .second, .val (.double db), .second, .unset] [(.int (0 : Int32))]))
    exact jn22 T20 ((0 : Int32)) X20 e20  (Or.inr ⟨hc23, rfl⟩)
theorem d5_46 : decode prog_65_method_6_code 46 = .ok (.dload_n 1, 1) := by decide +kernel
theorem d5_47 : decode prog_65_method_6_code 47 = .ok (.dload_n 3, 1) := by decide +kernel
theorem d5_48 : decode prog_65_method_6_code 48 = .ok (.dcmp .l, 1) := by decide +kernel
theorem d5_49 : decode prog_65_method_6_code 49 = .ok (.ifCond .le 7, 3) := by decide +kernel
theorem d5_52 : decode prog_65_method_6_code 52 = .ok (.iconst 1, 1) := by decide +kernel
theorem d5_53 : decode prog_65_method_6_code 53 = .ok (.goto 4, 3) := by decide +kernel
theorem d5_56 : decode prog_65_method_6_code 56 = .ok (.iconst 0, 1) := by decide +kernel
theorem d5_57 : decode prog_65_method_6_code 57 = .ok (.istore 5, 2) := by decide +kernel
set_option maxHeartbeats 4000000 in
theorem ef_rmDA (m : MethodId) {wA : Addr} {da : UInt64} {db : UInt64} : entryFrame m #[(.ref wA), (.double da), (.double db)] 6 = mkF m 0 #[.val (.ref wA), .val (.double da), .second, .val (.double db), .second, .unset] [] := by first | (simp [entryFrame, mkF, argsToLocals, Value.category]; done) | rfl
def QrmDA (Z : State) (wE : Addr) (wB : Addr) (wA : Addr) (da : UInt64) (db : UInt64) (h0 : Heap) (n0 : Nat) (v : Option Value) (h : Heap) (L : List Loc) : Prop := ∃ (r : Int32), (v = some (.int r)) ∧ (L = []) ∧ (h = h0) ∧ (((0 : Int32) < (cmpValue (FP.dcmp da db) .l) ∧ r = (1 : Int32)) ∨ (¬ ((0 : Int32) < (cmpValue (FP.dcmp da db) .l)) ∧ r = (0 : Int32)))
set_option maxRecDepth 65536 in
set_option maxHeartbeats 40000000 in
theorem rmDA (l : Launch) (Z : State) (a0 : Array Value) (hw : ∀ d ∈ tables_1, d.before a0 Z = true) (ws : List Jvm.Cond) (wE : Addr) (wB : Addr) (wA : Addr) (G : Gh Z wE wB wA) (da : UInt64) (db : UInt64) (h0 : Heap) (n0 : Nat) (O0 : Old Z n0 h0) :
    MetFree l (⟨"com/example/libfnseq/libfnseq/NumericValue$Relation", "holds", "(DD)Z"⟩ : MethodName) (head1 (Jvm.Cond.code (⟨"com/example/libfnseq/libfnseq/NumericValue$Relation", "holds", "(DD)Z"⟩ : MethodName) prog_65_method_6_code 6 (some .boolean) :: ws) ({ frames := 0, cells := 0, slots := 0, locals := 0 } : Room)) (fun aa' UU' => aa' = #[(.ref wA), (.double da), (.double db)] ∧ Z.Warmed39 UU'.vm ∧ UU'.heap = h0) (fun _ _ _ _ _ => True) (fun _ UU' oo' VV' => ∃ v' L', oo' = .returned v' ∧ QrmDA Z wE wB wA da db h0 n0 v' VV'.heap L' ∧ FrameEnd UU' oo' VV' L' ({ frames := 0, cells := 0, slots := 0, locals := 0 } : Room).cells ({ frames := 0, cells := 0, slots := 0, locals := 0 } : Room).slots) := by
  refine MetFree.of_bodySF (plainFor_of_name pn_5) hisR ?_
  intro p e s m args below meth c s₁ Bd hml0 hP hK
  obtain ⟨rfl, hZ, hh⟩ := hP
  have hx := Bd.exec
  have hby := Bd.bytes
  have hlk := Bd.notSynchronized
  have hml : c.maxLocals = 6 := hml0
  have hown : s.vm.findClass "com/example/libfnseq/libfnseq/NumericValue$Relation" = some m.cls := findClass_of_methodNamed Bd.named
  have hnm := (name_of_methodNamed Bd.named Bd.method).1
  have hret := Bd.returns
  have X0 : Stand p l e ({ frames := 0, cells := 0, slots := 0, locals := 0 } : Room) s m #[(.ref wA), (.double da), (.double db)] below meth c s₁ [] 0 0 := Stand.of_body Bd
  have e0 : s₁.heap = h0 := by rw [← hh, Bd.state]; rfl
  have N0 := Fr.nil n0
  refine Go.body ?_
  obtain ⟨Pf, hPf⟩ : ∃ P, P = Fin' s below ({ frames := 0, cells := 0, slots := 0, locals := 0 } : Room).cells ({ frames := 0, cells := 0, slots := 0, locals := 0 } : Room).slots (QrmDA Z wE wB wA da db h0 n0) := ⟨_, rfl⟩
  rw [← hPf]
  refine Go.cast (ef_rmDA m) ?_
  have hw13 := (hw _ (List.mem_of_getElem? (i := 13) rfl))
  have hw17 := (hw _ (List.mem_of_getElem? (i := 17) rfl))
  show Go p.tables e below Pf (s₁.setTop (mkF m 0 #[.val (.ref wA), .val (.double da), .second, .val (.double db), .second, .unset] []))
  refine Go.by' (fun t k => (XS.aloadN X0.here hx rfl (hb hby d5_0) rfl rfl k)) ?_
  show Go p.tables e below Pf (s₁.setTop (mkF m 1 #[.val (.ref wA), .val (.double da), .second, .val (.double db), .second, .unset] [(.ref wA)]))
  obtain ⟨T24, X24, e24, st24⟩ := getS2 X0 hx hZ hown (host := "") (Or.inl hw17) Via.refl e0 (G.1.ext O0.2) (g := (mkF m 1 #[.val (.ref wA), .val (.double da), .second, .val (.double db), .second, .unset] [(.ref wA)])) rfl (hb hby d5_1)
  refine Go.by' st24 ?_
  show Go p.tables e below Pf (T24.setTop (mkF m 4 #[.val (.ref wA), .val (.double da), .second, .val (.double db), .second, .unset] [(.ref wE), (.ref wA)]))
  refine Go.by' (fun t k => Jvm.RoadKit.acmp (g := (mkF m 4 #[.val (.ref wA), .val (.double da), .second, .val (.double db), .second, .unset] [(.ref wE), (.ref wA)])) X24 hx rfl rfl rfl (pc0 := 4) (pc' := 23) (same := false) rfl (hb hby d5_4) rfl (decide_eq_false (fun q => (Ne.symm G.2.2.2.2.2.2.2.1) (Value.ref.inj q))) (by decide) (by decide) k) ?_
  show Go p.tables e below Pf (T24.setTop (mkF m 23 #[.val (.ref wA), .val (.double da), .second, .val (.double db), .second, .unset] []))
  refine Go.by' (fun t k => (XS.aloadN X24.here hx rfl (hb hby d5_23) rfl rfl k)) ?_
  show Go p.tables e below Pf (T24.setTop (mkF m 24 #[.val (.ref wA), .val (.double da), .second, .val (.double db), .second, .unset] [(.ref wA)]))
  obtain ⟨T25, X25, e25, st25⟩ := getS2 X24 hx hZ hown (host := "") (Or.inl hw13) Via.refl e24 (G.2.2.1.ext O0.2) (g := (mkF m 24 #[.val (.ref wA), .val (.double da), .second, .val (.double db), .second, .unset] [(.ref wA)])) rfl (hb hby d5_24)
  refine Go.by' st25 ?_
  show Go p.tables e below Pf (T25.setTop (mkF m 27 #[.val (.ref wA), .val (.double da), .second, .val (.double db), .second, .unset] [(.ref wB), (.ref wA)]))
  refine Go.by' (fun t k => Jvm.RoadKit.acmp (g := (mkF m 27 #[.val (.ref wA), .val (.double da), .second, .val (.double db), .second, .unset] [(.ref wB), (.ref wA)])) X25 hx rfl rfl rfl (pc0 := 27) (pc' := 46) (same := false) rfl (hb hby d5_27) rfl (decide_eq_false (fun q => (Ne.symm G.2.2.2.2.2.2.2.2) (Value.ref.inj q))) (by decide) (by decide) k) ?_
  show Go p.tables e below Pf (T25.setTop (mkF m 46 #[.val (.ref wA), .val (.double da), .second, .val (.double db), .second, .unset] []))
  refine Go.by' (fun t k => (XS.dloadN X25.here hx rfl (hb hby d5_46) rfl (XS.dloadN X25.here hx rfl (hb hby d5_47) rfl (XS.dcmpS X25.here hx rfl (hb hby d5_48) rfl rfl k)))) ?_
  show Go p.tables e below Pf (T25.setTop (mkF m 49 #[.val (.ref wA), .val (.double da), .second, .val (.double db), .second, .unset] [(.int (cmpValue (FP.dcmp da db) .l))]))
  have jn27 : ∀ (T' : State) (w27_0 : Int32), Like X25 T' → T'.heap = h0 → (((0 : Int32) < (cmpValue (FP.dcmp da db) .l) ∧ w27_0 = (1 : Int32)) ∨ (¬ ((0 : Int32) < (cmpValue (FP.dcmp da db) .l)) ∧ w27_0 = (0 : Int32))) → Go p.tables e below Pf (T'.setTop (mkF m 57 #[.val (.ref wA), .val (.double da), .second, .val (.double db), .second, .unset] [(.int w27_0)])) := by
    intro T27 w27_0 X27 e27 hm27
    unfold Like at X27
    have bw27_0 : w27_0 = 0 ∨ w27_0 = 1 := by rcases hm27 with ⟨_, h⟩ | ⟨_, h⟩ <;> first | exact Or.inl h | exact Or.inr h
    show Go p.tables e below Pf (T27.setTop (mkF m 57 #[.val (.ref wA), .val (.double da), .second, .val (.double db), .second, .unset] [(.int w27_0)]))
    refine Go.by' (fun t k => (XS.istore X27.here hx rfl (hb hby d5_57) rfl (l' := #[.val (.ref wA), .val (.double da), .second, .val (.double db), .second, .val (.int w27_0)]) rfl (XS.iload X27.here hx rfl (hb hby d5_59) rfl k))) ?_
    show Go p.tables e below Pf (T27.setTop (mkF m 61 #[.val (.ref wA), .val (.double da), .second, .val (.double db), .second, .val (.int w27_0)] [(.int w27_0)]))
    rw [hPf]
    exact Go.retI' X27 hx hret hlk (by simp) (by rcases hm27 with ⟨_, rfl⟩ | ⟨_, rfl⟩ <;> rfl) (hb hby d5_61) (by decide) (by decide) ⟨w27_0, rfl, rfl, e27, hm27⟩
  by_cases hc28 : (0 : Int32) < (cmpValue (FP.dcmp da db) .l)
  · refine Go.by' (fun t k => (XS.ifNo X25.here hx rfl (hb hby d5_49) rfl ((if0 _ _).trans (tlt hc28).2.2.2) (XS.iconst X25.here hx rfl (hb hby d5_52) (XS.goto X25.here hx rfl (pc0 := 53) (pc' := 57) rfl (hb hby d5_53) (by decide) (by decide) k)))) ?_
    show Go p.tables e below Pf (T25.setTop (mkF m 57 #[.val (.ref wA), .val (.double da), .second, .val (.double db), .second, .unset] [(.int (1 : Int32))]))
    exact jn27 T25 ((1 : Int32)) X25 e25  (Or.inl ⟨hc28, rfl⟩)
  · refine Go.by' (fun t k => (XS.ifYes X25.here hx rfl (pc0 := 49) (pc' := 56) rfl (hb hby d5_49) rfl ((if0 _ _).trans (flt hc28).2.2.2) (by decide) (by decide) (XS.iconst X25.here hx rfl (hb hby d5_56) k))) ?_
    show Go p.tables e below Pf (T25.setTop (mkF m 57 #[.val (.ref wA), .val (.double da), .second, .val (.double db), .second, .unset] [(.int (0 : Int32))]))
    exact jn27 T25 ((0 : Int32)) X25 e25  (Or.inr ⟨hc28, rfl⟩)
theorem d1_0 : decode method_2_code 0 = .ok (.iload_n 0, 1) := by decide +kernel
theorem d1_1 : decode method_2_code 1 = .ok (.ldc 7, 2) := by decide +kernel
theorem d1_3 : decode method_2_code 3 = .ok (.iand, 1) := by decide +kernel
theorem d1_4 : decode method_2_code 4 = .ok (.iconst 3, 1) := by decide +kernel
theorem d1_5 : decode method_2_code 5 = .ok (.irem, 1) := by decide +kernel
theorem d1_6 : decode method_2_code 6 = .ok (.istore_n 1, 1) := by decide +kernel
theorem d1_7 : decode method_2_code 7 = .ok (.iload_n 1, 1) := by decide +kernel
theorem d1_8 : decode method_2_code 8 = .ok (.ifCond .ne 10, 3) := by decide +kernel
theorem d1_11 : decode method_2_code 11 = .ok (.getstatic 8, 3) := by decide +kernel
theorem d1_14 : decode method_2_code 14 = .ok (.astore_n 2, 1) := by decide +kernel
theorem d1_15 : decode method_2_code 15 = .ok (.goto 19, 3) := by decide +kernel
theorem d1_18 : decode method_2_code 18 = .ok (.iload_n 1, 1) := by decide +kernel
theorem d1_19 : decode method_2_code 19 = .ok (.iconst 1, 1) := by decide +kernel
theorem d1_20 : decode method_2_code 20 = .ok (.if_icmp .ne 10, 3) := by decide +kernel
theorem d1_23 : decode method_2_code 23 = .ok (.getstatic 14, 3) := by decide +kernel
theorem d1_26 : decode method_2_code 26 = .ok (.astore_n 2, 1) := by decide +kernel
theorem d1_27 : decode method_2_code 27 = .ok (.goto 7, 3) := by decide +kernel
theorem d1_30 : decode method_2_code 30 = .ok (.getstatic 17, 3) := by decide +kernel
theorem d1_33 : decode method_2_code 33 = .ok (.astore_n 2, 1) := by decide +kernel
theorem d1_34 : decode method_2_code 34 = .ok (.aload_n 2, 1) := by decide +kernel
theorem d1_35 : decode method_2_code 35 = .ok (.areturn, 1) := by decide +kernel
theorem pn_1 : plainName "com/example/libfnseq/libfnseq/RelationConversePinLaw" = true := by first | (simp [plainName, overriddenIn]; done) | decide +kernel
set_option maxHeartbeats 4000000 in
theorem ef_rmPick (m : MethodId) {ip : Int32} : entryFrame m #[(.int ip)] 3 = mkF m 0 #[.val (.int ip), .unset, .unset] [] := by first | (simp [entryFrame, mkF, argsToLocals, Value.category]; done) | rfl
def QrmPick (Z : State) (wE : Addr) (wB : Addr) (wA : Addr) (ip : Int32) (h0 : Heap) (n0 : Nat) (v : Option Value) (h : Heap) (L : List Loc) : Prop := ∃ (r : Addr), (v = some (.ref r)) ∧ (L = []) ∧ (h = h0) ∧ (wE = r ∨ wB = r ∨ wA = r)
set_option maxRecDepth 65536 in
set_option maxHeartbeats 40000000 in
theorem rmPick (l : Launch) (Z : State) (a0 : Array Value) (hw : ∀ d ∈ tables_1, d.before a0 Z = true) (ws : List Jvm.Cond) (wE : Addr) (wB : Addr) (wA : Addr) (G : Gh Z wE wB wA) (ip : Int32) (h0 : Heap) (n0 : Nat) (O0 : Old Z n0 h0) :
    MetFree l (⟨"com/example/libfnseq/libfnseq/RelationConversePinLaw", "pick", "(I)Lcom/example/libfnseq/libfnseq/NumericValue$Relation;"⟩ : MethodName) (head1 (Jvm.Cond.code (⟨"com/example/libfnseq/libfnseq/RelationConversePinLaw", "pick", "(I)Lcom/example/libfnseq/libfnseq/NumericValue$Relation;"⟩ : MethodName) method_2_code 3 (some (.object "com/example/libfnseq/libfnseq/NumericValue$Relation")) :: ws) ({ frames := 0, cells := 0, slots := 0, locals := 0 } : Room)) (fun aa' UU' => aa' = #[(.int ip)] ∧ Z.Warmed39 UU'.vm ∧ UU'.heap = h0) (fun _ _ _ _ _ => True) (fun _ UU' oo' VV' => ∃ v' L', oo' = .returned v' ∧ QrmPick Z wE wB wA ip h0 n0 v' VV'.heap L' ∧ FrameEnd UU' oo' VV' L' ({ frames := 0, cells := 0, slots := 0, locals := 0 } : Room).cells ({ frames := 0, cells := 0, slots := 0, locals := 0 } : Room).slots) := by
  refine MetFree.of_bodySF (plainFor_of_name pn_1) hisR ?_
  intro p e s m args below meth c s₁ Bd hml0 hP hK
  obtain ⟨rfl, hZ, hh⟩ := hP
  have hx := Bd.exec
  have hby := Bd.bytes
  have hlk := Bd.notSynchronized
  have hml : c.maxLocals = 3 := hml0
  have hown : s.vm.findClass "com/example/libfnseq/libfnseq/RelationConversePinLaw" = some m.cls := findClass_of_methodNamed Bd.named
  have hnm := (name_of_methodNamed Bd.named Bd.method).1
  have hret := Bd.returns
  have X0 : Stand p l e ({ frames := 0, cells := 0, slots := 0, locals := 0 } : Room) s m #[(.int ip)] below meth c s₁ [] 0 0 := Stand.of_body Bd
  have e0 : s₁.heap = h0 := by rw [← hh, Bd.state]; rfl
  have N0 := Fr.nil n0
  refine Go.body ?_
  obtain ⟨Pf, hPf⟩ : ∃ P, P = Fin' s below ({ frames := 0, cells := 0, slots := 0, locals := 0 } : Room).cells ({ frames := 0, cells := 0, slots := 0, locals := 0 } : Room).slots (QrmPick Z wE wB wA ip h0 n0) := ⟨_, rfl⟩
  rw [← hPf]
  refine Go.cast (ef_rmPick m) ?_
  have hw4 := (hw _ (List.mem_of_getElem? (i := 4) rfl))
  have hw5 := (hw _ (List.mem_of_getElem? (i := 5) rfl))
  have hw31 := (hw _ (List.mem_of_getElem? (i := 31) rfl))
  have hw32 := (hw _ (List.mem_of_getElem? (i := 32) rfl))
  show Go p.tables e below Pf (s₁.setTop (mkF m 0 #[.val (.int ip), .unset, .unset] []))
  refine Go.by' (fun t k => (XS.iloadN X0.here hx rfl (hb hby d1_0) rfl (X0.ldcInt hx hown (mvT hZ hw4) (g := (mkF m 1 #[.val (.int ip), .unset, .unset] [(.int ip)])) rfl (hb hby d1_1) t (XS.iand X0.here hx rfl (hb hby d1_3) rfl (XS.iconst X0.here hx rfl (hb hby d1_4) k))))) ?_
  show Go p.tables e below Pf (s₁.setTop (mkF m 5 #[.val (.int ip), .unset, .unset] [(.int (3 : Int32)), (.int (ip &&& (2147483647 : Int32)))]))
  refine Go.by' (fun t k => iremM (g := (mkF m 5 #[.val (.int ip), .unset, .unset] [(.int (3 : Int32)), (.int (ip &&& (2147483647 : Int32)))])) X0 hx rfl (hb hby d1_5) rfl (by decide) k) ?_
  show Go p.tables e below Pf (s₁.setTop (mkF m 6 #[.val (.int ip), .unset, .unset] [(.int ((ip &&& (2147483647 : Int32)) % (3 : Int32)))]))
  refine Go.by' (fun t k => (XS.istoreN X0.here hx rfl (hb hby d1_6) rfl (l' := #[.val (.int ip), .val (.int ((ip &&& (2147483647 : Int32)) % (3 : Int32))), .unset]) rfl (XS.iloadN X0.here hx rfl (hb hby d1_7) rfl k))) ?_
  show Go p.tables e below Pf (s₁.setTop (mkF m 8 #[.val (.int ip), .val (.int ((ip &&& (2147483647 : Int32)) % (3 : Int32))), .unset] [(.int ((ip &&& (2147483647 : Int32)) % (3 : Int32)))]))
  have jn34 : ∀ (T' : State) (w34_0 : Addr), Like X0 T' → T'.heap = h0 → ((((ip &&& (2147483647 : Int32)) % (3 : Int32)) = (0 : Int32) ∧ w34_0 = wE) ∨ (¬ (((ip &&& (2147483647 : Int32)) % (3 : Int32)) = (0 : Int32)) ∧ ((ip &&& (2147483647 : Int32)) % (3 : Int32)) = (1 : Int32) ∧ w34_0 = wB) ∨ (¬ (((ip &&& (2147483647 : Int32)) % (3 : Int32)) = (0 : Int32)) ∧ ¬ (((ip &&& (2147483647 : Int32)) % (3 : Int32)) = (1 : Int32)) ∧ w34_0 = wA)) → Go p.tables e below Pf (T'.setTop (mkF m 34 #[.val (.int ip), .val (.int ((ip &&& (2147483647 : Int32)) % (3 : Int32))), .val (.ref w34_0)] [])) := by
    intro T34 w34_0 X34 e34 hm34
    unfold Like at X34
    show Go p.tables e below Pf (T34.setTop (mkF m 34 #[.val (.int ip), .val (.int ((ip &&& (2147483647 : Int32)) % (3 : Int32))), .val (.ref w34_0)] []))
    refine Go.by' (fun t k => (XS.aloadN X34.here hx rfl (hb hby d1_34) rfl rfl k)) ?_
    show Go p.tables e below Pf (T34.setTop (mkF m 35 #[.val (.int ip), .val (.int ((ip &&& (2147483647 : Int32)) % (3 : Int32))), .val (.ref w34_0)] [(.ref w34_0)]))
    rw [hPf]
    exact Go.retA' X34 hx hret hlk rfl rfl (hb hby d1_35) (by decide) (by decide) ⟨w34_0, rfl, rfl, e34, (by rcases hm34 with ⟨_, h⟩ | ⟨_, _, h⟩ | ⟨_, _, h⟩ <;> simp [h])⟩
  by_cases hc35 : ((ip &&& (2147483647 : Int32)) % (3 : Int32)) = (0 : Int32)
  · refine Go.by' (fun t k => (XS.ifNo X0.here hx rfl (hb hby d1_8) rfl ((if0 _ _).trans (teq hc35).2) k)) ?_
    show Go p.tables e below Pf (s₁.setTop (mkF m 11 #[.val (.int ip), .val (.int ((ip &&& (2147483647 : Int32)) % (3 : Int32))), .unset] []))
    obtain ⟨T36, X36, e36, st36⟩ := getS2 X0 hx hZ hown (host := "") (Or.inl hw5) Via.refl e0 (G.1.ext O0.2) (g := (mkF m 11 #[.val (.int ip), .val (.int ((ip &&& (2147483647 : Int32)) % (3 : Int32))), .unset] [])) rfl (hb hby d1_11)
    refine Go.by' st36 ?_
    show Go p.tables e below Pf (T36.setTop (mkF m 14 #[.val (.int ip), .val (.int ((ip &&& (2147483647 : Int32)) % (3 : Int32))), .unset] [(.ref wE)]))
    refine Go.by' (fun t k => (XS.astoreN X36.here hx rfl (hb hby d1_14) rfl rfl (l' := #[.val (.int ip), .val (.int ((ip &&& (2147483647 : Int32)) % (3 : Int32))), .val (.ref wE)]) rfl (XS.goto X36.here hx rfl (pc0 := 15) (pc' := 34) rfl (hb hby d1_15) (by decide) (by decide) k))) ?_
    show Go p.tables e below Pf (T36.setTop (mkF m 34 #[.val (.int ip), .val (.int ((ip &&& (2147483647 : Int32)) % (3 : Int32))), .val (.ref wE)] []))
    exact jn34 T36 (wE) X36 e36  (Or.inl ⟨hc35, rfl⟩)
  · refine Go.by' (fun t k => (XS.ifYes X0.here hx rfl (pc0 := 8) (pc' := 18) rfl (hb hby d1_8) rfl ((if0 _ _).trans (feq hc35).2) (by decide) (by decide) (XS.iloadN X0.here hx rfl (hb hby d1_18) rfl (XS.iconst X0.here hx rfl (hb hby d1_19) k)))) ?_
    show Go p.tables e below Pf (s₁.setTop (mkF m 20 #[.val (.int ip), .val (.int ((ip &&& (2147483647 : Int32)) % (3 : Int32))), .unset] [(.int (1 : Int32)), (.int ((ip &&& (2147483647 : Int32)) % (3 : Int32)))]))
    by_cases hc37 : ((ip &&& (2147483647 : Int32)) % (3 : Int32)) = (1 : Int32)
    · refine Go.by' (fun t k => (XS.icmpNo X0.here hx rfl (hb hby d1_20) rfl (teq hc37).2 k)) ?_
      show Go p.tables e below Pf (s₁.setTop (mkF m 23 #[.val (.int ip), .val (.int ((ip &&& (2147483647 : Int32)) % (3 : Int32))), .unset] []))
      obtain ⟨T38, X38, e38, st38⟩ := getS2 X0 hx hZ hown (host := "") (Or.inl hw31) Via.refl e0 (G.2.2.1.ext O0.2) (g := (mkF m 23 #[.val (.int ip), .val (.int ((ip &&& (2147483647 : Int32)) % (3 : Int32))), .unset] [])) rfl (hb hby d1_23)
      refine Go.by' st38 ?_
      show Go p.tables e below Pf (T38.setTop (mkF m 26 #[.val (.int ip), .val (.int ((ip &&& (2147483647 : Int32)) % (3 : Int32))), .unset] [(.ref wB)]))
      refine Go.by' (fun t k => (XS.astoreN X38.here hx rfl (hb hby d1_26) rfl rfl (l' := #[.val (.int ip), .val (.int ((ip &&& (2147483647 : Int32)) % (3 : Int32))), .val (.ref wB)]) rfl (XS.goto X38.here hx rfl (pc0 := 27) (pc' := 34) rfl (hb hby d1_27) (by decide) (by decide) k))) ?_
      show Go p.tables e below Pf (T38.setTop (mkF m 34 #[.val (.int ip), .val (.int ((ip &&& (2147483647 : Int32)) % (3 : Int32))), .val (.ref wB)] []))
      exact jn34 T38 (wB) X38 e38  (Or.inr (Or.inl ⟨hc35, hc37, rfl⟩))
    · refine Go.by' (fun t k => (XS.icmpYes X0.here hx rfl (pc0 := 20) (pc' := 30) rfl (hb hby d1_20) rfl (feq hc37).2 (by decide) (by decide) k)) ?_
      show Go p.tables e below Pf (s₁.setTop (mkF m 30 #[.val (.int ip), .val (.int ((ip &&& (2147483647 : Int32)) % (3 : Int32))), .unset] []))
      obtain ⟨T39, X39, e39, st39⟩ := getS2 X0 hx hZ hown (host := "") (Or.inl hw32) Via.refl e0 (G.2.2.2.2.1.ext O0.2) (g := (mkF m 30 #[.val (.int ip), .val (.int ((ip &&& (2147483647 : Int32)) % (3 : Int32))), .unset] [])) rfl (hb hby d1_30)
      refine Go.by' st39 ?_
      show Go p.tables e below Pf (T39.setTop (mkF m 33 #[.val (.int ip), .val (.int ((ip &&& (2147483647 : Int32)) % (3 : Int32))), .unset] [(.ref wA)]))
      refine Go.by' (fun t k => (XS.astoreN X39.here hx rfl (hb hby d1_33) rfl rfl (l' := #[.val (.int ip), .val (.int ((ip &&& (2147483647 : Int32)) % (3 : Int32))), .val (.ref wA)]) rfl k)) ?_
      show Go p.tables e below Pf (T39.setTop (mkF m 34 #[.val (.int ip), .val (.int ((ip &&& (2147483647 : Int32)) % (3 : Int32))), .val (.ref wA)] []))
      exact jn34 T39 (wA) X39 e39  (Or.inr (Or.inr ⟨hc35, hc37, rfl⟩))
theorem d2_0 : decode prog_65_method_4_code 0 = .ok (.aload_n 0, 1) := by decide +kernel
theorem d2_1 : decode prog_65_method_4_code 1 = .ok (.getstatic 7, 3) := by decide +kernel
theorem d2_4 : decode prog_65_method_4_code 4 = .ok (.if_acmp .ne 10, 3) := by decide +kernel
theorem d2_14 : decode prog_65_method_4_code 14 = .ok (.aload_n 0, 1) := by decide +kernel
theorem d2_15 : decode prog_65_method_4_code 15 = .ok (.getstatic 10, 3) := by decide +kernel
theorem d2_18 : decode prog_65_method_4_code 18 = .ok (.if_acmp .ne 10, 3) := by decide +kernel
theorem d2_28 : decode prog_65_method_4_code 28 = .ok (.getstatic 3, 3) := by decide +kernel
theorem d2_31 : decode prog_65_method_4_code 31 = .ok (.astore_n 1, 1) := by decide +kernel
theorem d2_32 : decode prog_65_method_4_code 32 = .ok (.aload_n 1, 1) := by decide +kernel
theorem d2_33 : decode prog_65_method_4_code 33 = .ok (.areturn, 1) := by decide +kernel
theorem pn_2 : plainName "com/example/libfnseq/libfnseq/NumericValue$Relation" = true := by first | (simp [plainName, overriddenIn]; done) | decide +kernel
set_option maxHeartbeats 4000000 in
theorem ef_rmCE (m : MethodId) {wE : Addr} : entryFrame m #[(.ref wE)] 2 = mkF m 0 #[.val (.ref wE), .unset] [] := by first | (simp [entryFrame, mkF, argsToLocals, Value.category]; done) | rfl
def QrmCE (Z : State) (wE : Addr) (wB : Addr) (wA : Addr)  (h0 : Heap) (n0 : Nat) (v : Option Value) (h : Heap) (L : List Loc) : Prop := (v = some (.ref wE)) ∧ (L = []) ∧ (h = h0)
set_option maxRecDepth 65536 in
set_option maxHeartbeats 40000000 in
theorem rmCE (l : Launch) (Z : State) (a0 : Array Value) (hw : ∀ d ∈ tables_1, d.before a0 Z = true) (ws : List Jvm.Cond) (wE : Addr) (wB : Addr) (wA : Addr) (G : Gh Z wE wB wA)  (h0 : Heap) (n0 : Nat) (O0 : Old Z n0 h0) :
    MetFree l (⟨"com/example/libfnseq/libfnseq/NumericValue$Relation", "converse", "()Lcom/example/libfnseq/libfnseq/NumericValue$Relation;"⟩ : MethodName) (head1 (Jvm.Cond.code (⟨"com/example/libfnseq/libfnseq/NumericValue$Relation", "converse", "()Lcom/example/libfnseq/libfnseq/NumericValue$Relation;"⟩ : MethodName) prog_65_method_4_code 2 (some (.object "com/example/libfnseq/libfnseq/NumericValue$Relation")) :: ws) ({ frames := 0, cells := 0, slots := 0, locals := 0 } : Room)) (fun aa' UU' => aa' = #[(.ref wE)] ∧ Z.Warmed39 UU'.vm ∧ UU'.heap = h0) (fun _ _ _ _ _ => True) (fun _ UU' oo' VV' => ∃ v' L', oo' = .returned v' ∧ QrmCE Z wE wB wA  h0 n0 v' VV'.heap L' ∧ FrameEnd UU' oo' VV' L' ({ frames := 0, cells := 0, slots := 0, locals := 0 } : Room).cells ({ frames := 0, cells := 0, slots := 0, locals := 0 } : Room).slots) := by
  refine MetFree.of_bodySF (plainFor_of_name pn_2) hisR ?_
  intro p e s m args below meth c s₁ Bd hml0 hP hK
  obtain ⟨rfl, hZ, hh⟩ := hP
  have hx := Bd.exec
  have hby := Bd.bytes
  have hlk := Bd.notSynchronized
  have hml : c.maxLocals = 2 := hml0
  have hown : s.vm.findClass "com/example/libfnseq/libfnseq/NumericValue$Relation" = some m.cls := findClass_of_methodNamed Bd.named
  have hnm := (name_of_methodNamed Bd.named Bd.method).1
  have hret := Bd.returns
  have X0 : Stand p l e ({ frames := 0, cells := 0, slots := 0, locals := 0 } : Room) s m #[(.ref wE)] below meth c s₁ [] 0 0 := Stand.of_body Bd
  have e0 : s₁.heap = h0 := by rw [← hh, Bd.state]; rfl
  have N0 := Fr.nil n0
  refine Go.body ?_
  obtain ⟨Pf, hPf⟩ : ∃ P, P = Fin' s below ({ frames := 0, cells := 0, slots := 0, locals := 0 } : Room).cells ({ frames := 0, cells := 0, slots := 0, locals := 0 } : Room).slots (QrmCE Z wE wB wA  h0 n0) := ⟨_, rfl⟩
  rw [← hPf]
  refine Go.cast (ef_rmCE m) ?_
  have hw13 := (hw _ (List.mem_of_getElem? (i := 13) rfl))
  have hw15 := (hw _ (List.mem_of_getElem? (i := 15) rfl))
  have hw17 := (hw _ (List.mem_of_getElem? (i := 17) rfl))
  show Go p.tables e below Pf (s₁.setTop (mkF m 0 #[.val (.ref wE), .unset] []))
  refine Go.by' (fun t k => (XS.aloadN X0.here hx rfl (hb hby d2_0) rfl rfl k)) ?_
  show Go p.tables e below Pf (s₁.setTop (mkF m 1 #[.val (.ref wE), .unset] [(.ref wE)]))
  obtain ⟨T40, X40, e40, st40⟩ := getS2 X0 hx hZ hown (host := "") (Or.inl hw13) Via.refl e0 (G.2.2.1.ext O0.2) (g := (mkF m 1 #[.val (.ref wE), .unset] [(.ref wE)])) rfl (hb hby d2_1)
  refine Go.by' st40 ?_
  show Go p.tables e below Pf (T40.setTop (mkF m 4 #[.val (.ref wE), .unset] [(.ref wB), (.ref wE)]))
  refine Go.by' (fun t k => Jvm.RoadKit.acmp (g := (mkF m 4 #[.val (.ref wE), .unset] [(.ref wB), (.ref wE)])) X40 hx rfl rfl rfl (pc0 := 4) (pc' := 14) (same := false) rfl (hb hby d2_4) rfl (decide_eq_false (fun q => G.2.2.2.2.2.2.1 (Value.ref.inj q))) (by decide) (by decide) k) ?_
  show Go p.tables e below Pf (T40.setTop (mkF m 14 #[.val (.ref wE), .unset] []))
  refine Go.by' (fun t k => (XS.aloadN X40.here hx rfl (hb hby d2_14) rfl rfl k)) ?_
  show Go p.tables e below Pf (T40.setTop (mkF m 15 #[.val (.ref wE), .unset] [(.ref wE)]))
  obtain ⟨T41, X41, e41, st41⟩ := getS2 X40 hx hZ hown (host := "") (Or.inl hw15) Via.refl e40 (G.2.2.2.2.1.ext O0.2) (g := (mkF m 15 #[.val (.ref wE), .unset] [(.ref wE)])) rfl (hb hby d2_15)
  refine Go.by' st41 ?_
  show Go p.tables e below Pf (T41.setTop (mkF m 18 #[.val (.ref wE), .unset] [(.ref wA), (.ref wE)]))
  refine Go.by' (fun t k => Jvm.RoadKit.acmp (g := (mkF m 18 #[.val (.ref wE), .unset] [(.ref wA), (.ref wE)])) X41 hx rfl rfl rfl (pc0 := 18) (pc' := 28) (same := false) rfl (hb hby d2_18) rfl (decide_eq_false (fun q => G.2.2.2.2.2.2.2.1 (Value.ref.inj q))) (by decide) (by decide) k) ?_
  show Go p.tables e below Pf (T41.setTop (mkF m 28 #[.val (.ref wE), .unset] []))
  obtain ⟨T42, X42, e42, st42⟩ := getS2 X41 hx hZ hown (host := "") (Or.inl hw17) Via.refl e41 (G.1.ext O0.2) (g := (mkF m 28 #[.val (.ref wE), .unset] [])) rfl (hb hby d2_28)
  refine Go.by' st42 ?_
  show Go p.tables e below Pf (T42.setTop (mkF m 31 #[.val (.ref wE), .unset] [(.ref wE)]))
  refine Go.by' (fun t k => (XS.astoreN X42.here hx rfl (hb hby d2_31) rfl rfl (l' := #[.val (.ref wE), .val (.ref wE)]) rfl (XS.aloadN X42.here hx rfl (hb hby d2_32) rfl rfl k))) ?_
  show Go p.tables e below Pf (T42.setTop (mkF m 33 #[.val (.ref wE), .val (.ref wE)] [(.ref wE)]))
  rw [hPf]
  exact Go.retA' X42 hx hret hlk rfl rfl (hb hby d2_33) (by decide) (by decide) ⟨rfl, rfl, e42⟩
theorem d2_7 : decode prog_65_method_4_code 7 = .ok (.getstatic 10, 3) := by decide +kernel
theorem d2_10 : decode prog_65_method_4_code 10 = .ok (.astore_n 1, 1) := by decide +kernel
theorem d2_11 : decode prog_65_method_4_code 11 = .ok (.goto 21, 3) := by decide +kernel
set_option maxHeartbeats 4000000 in
theorem ef_rmCB (m : MethodId) {wB : Addr} : entryFrame m #[(.ref wB)] 2 = mkF m 0 #[.val (.ref wB), .unset] [] := by first | (simp [entryFrame, mkF, argsToLocals, Value.category]; done) | rfl
def QrmCB (Z : State) (wE : Addr) (wB : Addr) (wA : Addr)  (h0 : Heap) (n0 : Nat) (v : Option Value) (h : Heap) (L : List Loc) : Prop := (v = some (.ref wA)) ∧ (L = []) ∧ (h = h0)
set_option maxRecDepth 65536 in
set_option maxHeartbeats 40000000 in
theorem rmCB (l : Launch) (Z : State) (a0 : Array Value) (hw : ∀ d ∈ tables_1, d.before a0 Z = true) (ws : List Jvm.Cond) (wE : Addr) (wB : Addr) (wA : Addr) (G : Gh Z wE wB wA)  (h0 : Heap) (n0 : Nat) (O0 : Old Z n0 h0) :
    MetFree l (⟨"com/example/libfnseq/libfnseq/NumericValue$Relation", "converse", "()Lcom/example/libfnseq/libfnseq/NumericValue$Relation;"⟩ : MethodName) (head1 (Jvm.Cond.code (⟨"com/example/libfnseq/libfnseq/NumericValue$Relation", "converse", "()Lcom/example/libfnseq/libfnseq/NumericValue$Relation;"⟩ : MethodName) prog_65_method_4_code 2 (some (.object "com/example/libfnseq/libfnseq/NumericValue$Relation")) :: ws) ({ frames := 0, cells := 0, slots := 0, locals := 0 } : Room)) (fun aa' UU' => aa' = #[(.ref wB)] ∧ Z.Warmed39 UU'.vm ∧ UU'.heap = h0) (fun _ _ _ _ _ => True) (fun _ UU' oo' VV' => ∃ v' L', oo' = .returned v' ∧ QrmCB Z wE wB wA  h0 n0 v' VV'.heap L' ∧ FrameEnd UU' oo' VV' L' ({ frames := 0, cells := 0, slots := 0, locals := 0 } : Room).cells ({ frames := 0, cells := 0, slots := 0, locals := 0 } : Room).slots) := by
  refine MetFree.of_bodySF (plainFor_of_name pn_2) hisR ?_
  intro p e s m args below meth c s₁ Bd hml0 hP hK
  obtain ⟨rfl, hZ, hh⟩ := hP
  have hx := Bd.exec
  have hby := Bd.bytes
  have hlk := Bd.notSynchronized
  have hml : c.maxLocals = 2 := hml0
  have hown : s.vm.findClass "com/example/libfnseq/libfnseq/NumericValue$Relation" = some m.cls := findClass_of_methodNamed Bd.named
  have hnm := (name_of_methodNamed Bd.named Bd.method).1
  have hret := Bd.returns
  have X0 : Stand p l e ({ frames := 0, cells := 0, slots := 0, locals := 0 } : Room) s m #[(.ref wB)] below meth c s₁ [] 0 0 := Stand.of_body Bd
  have e0 : s₁.heap = h0 := by rw [← hh, Bd.state]; rfl
  have N0 := Fr.nil n0
  refine Go.body ?_
  obtain ⟨Pf, hPf⟩ : ∃ P, P = Fin' s below ({ frames := 0, cells := 0, slots := 0, locals := 0 } : Room).cells ({ frames := 0, cells := 0, slots := 0, locals := 0 } : Room).slots (QrmCB Z wE wB wA  h0 n0) := ⟨_, rfl⟩
  rw [← hPf]
  refine Go.cast (ef_rmCB m) ?_
  have hw13 := (hw _ (List.mem_of_getElem? (i := 13) rfl))
  have hw15 := (hw _ (List.mem_of_getElem? (i := 15) rfl))
  show Go p.tables e below Pf (s₁.setTop (mkF m 0 #[.val (.ref wB), .unset] []))
  refine Go.by' (fun t k => (XS.aloadN X0.here hx rfl (hb hby d2_0) rfl rfl k)) ?_
  show Go p.tables e below Pf (s₁.setTop (mkF m 1 #[.val (.ref wB), .unset] [(.ref wB)]))
  obtain ⟨T43, X43, e43, st43⟩ := getS2 X0 hx hZ hown (host := "") (Or.inl hw13) Via.refl e0 (G.2.2.1.ext O0.2) (g := (mkF m 1 #[.val (.ref wB), .unset] [(.ref wB)])) rfl (hb hby d2_1)
  refine Go.by' st43 ?_
  show Go p.tables e below Pf (T43.setTop (mkF m 4 #[.val (.ref wB), .unset] [(.ref wB), (.ref wB)]))
  refine Go.by' (fun t k => Jvm.RoadKit.acmp (g := (mkF m 4 #[.val (.ref wB), .unset] [(.ref wB), (.ref wB)])) X43 hx rfl rfl rfl (pc0 := 4) (pc' := 7) (same := true) rfl (hb hby d2_4) rfl (decide_eq_true rfl) (by decide) (by decide) k) ?_
  show Go p.tables e below Pf (T43.setTop (mkF m 7 #[.val (.ref wB), .unset] []))
  obtain ⟨T44, X44, e44, st44⟩ := getS2 X43 hx hZ hown (host := "") (Or.inl hw15) Via.refl e43 (G.2.2.2.2.1.ext O0.2) (g := (mkF m 7 #[.val (.ref wB), .unset] [])) rfl (hb hby d2_7)
  refine Go.by' st44 ?_
  show Go p.tables e below Pf (T44.setTop (mkF m 10 #[.val (.ref wB), .unset] [(.ref wA)]))
  refine Go.by' (fun t k => (XS.astoreN X44.here hx rfl (hb hby d2_10) rfl rfl (l' := #[.val (.ref wB), .val (.ref wA)]) rfl (XS.goto X44.here hx rfl (pc0 := 11) (pc' := 32) rfl (hb hby d2_11) (by decide) (by decide) (XS.aloadN X44.here hx rfl (hb hby d2_32) rfl rfl k)))) ?_
  show Go p.tables e below Pf (T44.setTop (mkF m 33 #[.val (.ref wB), .val (.ref wA)] [(.ref wA)]))
  rw [hPf]
  exact Go.retA' X44 hx hret hlk rfl rfl (hb hby d2_33) (by decide) (by decide) ⟨rfl, rfl, e44⟩
theorem d2_21 : decode prog_65_method_4_code 21 = .ok (.getstatic 7, 3) := by decide +kernel
theorem d2_24 : decode prog_65_method_4_code 24 = .ok (.astore_n 1, 1) := by decide +kernel
theorem d2_25 : decode prog_65_method_4_code 25 = .ok (.goto 7, 3) := by decide +kernel
set_option maxHeartbeats 4000000 in
theorem ef_rmCA (m : MethodId) {wA : Addr} : entryFrame m #[(.ref wA)] 2 = mkF m 0 #[.val (.ref wA), .unset] [] := by first | (simp [entryFrame, mkF, argsToLocals, Value.category]; done) | rfl
def QrmCA (Z : State) (wE : Addr) (wB : Addr) (wA : Addr)  (h0 : Heap) (n0 : Nat) (v : Option Value) (h : Heap) (L : List Loc) : Prop := (v = some (.ref wB)) ∧ (L = []) ∧ (h = h0)
set_option maxRecDepth 65536 in
set_option maxHeartbeats 40000000 in
theorem rmCA (l : Launch) (Z : State) (a0 : Array Value) (hw : ∀ d ∈ tables_1, d.before a0 Z = true) (ws : List Jvm.Cond) (wE : Addr) (wB : Addr) (wA : Addr) (G : Gh Z wE wB wA)  (h0 : Heap) (n0 : Nat) (O0 : Old Z n0 h0) :
    MetFree l (⟨"com/example/libfnseq/libfnseq/NumericValue$Relation", "converse", "()Lcom/example/libfnseq/libfnseq/NumericValue$Relation;"⟩ : MethodName) (head1 (Jvm.Cond.code (⟨"com/example/libfnseq/libfnseq/NumericValue$Relation", "converse", "()Lcom/example/libfnseq/libfnseq/NumericValue$Relation;"⟩ : MethodName) prog_65_method_4_code 2 (some (.object "com/example/libfnseq/libfnseq/NumericValue$Relation")) :: ws) ({ frames := 0, cells := 0, slots := 0, locals := 0 } : Room)) (fun aa' UU' => aa' = #[(.ref wA)] ∧ Z.Warmed39 UU'.vm ∧ UU'.heap = h0) (fun _ _ _ _ _ => True) (fun _ UU' oo' VV' => ∃ v' L', oo' = .returned v' ∧ QrmCA Z wE wB wA  h0 n0 v' VV'.heap L' ∧ FrameEnd UU' oo' VV' L' ({ frames := 0, cells := 0, slots := 0, locals := 0 } : Room).cells ({ frames := 0, cells := 0, slots := 0, locals := 0 } : Room).slots) := by
  refine MetFree.of_bodySF (plainFor_of_name pn_2) hisR ?_
  intro p e s m args below meth c s₁ Bd hml0 hP hK
  obtain ⟨rfl, hZ, hh⟩ := hP
  have hx := Bd.exec
  have hby := Bd.bytes
  have hlk := Bd.notSynchronized
  have hml : c.maxLocals = 2 := hml0
  have hown : s.vm.findClass "com/example/libfnseq/libfnseq/NumericValue$Relation" = some m.cls := findClass_of_methodNamed Bd.named
  have hnm := (name_of_methodNamed Bd.named Bd.method).1
  have hret := Bd.returns
  have X0 : Stand p l e ({ frames := 0, cells := 0, slots := 0, locals := 0 } : Room) s m #[(.ref wA)] below meth c s₁ [] 0 0 := Stand.of_body Bd
  have e0 : s₁.heap = h0 := by rw [← hh, Bd.state]; rfl
  have N0 := Fr.nil n0
  refine Go.body ?_
  obtain ⟨Pf, hPf⟩ : ∃ P, P = Fin' s below ({ frames := 0, cells := 0, slots := 0, locals := 0 } : Room).cells ({ frames := 0, cells := 0, slots := 0, locals := 0 } : Room).slots (QrmCA Z wE wB wA  h0 n0) := ⟨_, rfl⟩
  rw [← hPf]
  refine Go.cast (ef_rmCA m) ?_
  have hw13 := (hw _ (List.mem_of_getElem? (i := 13) rfl))
  have hw15 := (hw _ (List.mem_of_getElem? (i := 15) rfl))
  show Go p.tables e below Pf (s₁.setTop (mkF m 0 #[.val (.ref wA), .unset] []))
  refine Go.by' (fun t k => (XS.aloadN X0.here hx rfl (hb hby d2_0) rfl rfl k)) ?_
  show Go p.tables e below Pf (s₁.setTop (mkF m 1 #[.val (.ref wA), .unset] [(.ref wA)]))
  obtain ⟨T45, X45, e45, st45⟩ := getS2 X0 hx hZ hown (host := "") (Or.inl hw13) Via.refl e0 (G.2.2.1.ext O0.2) (g := (mkF m 1 #[.val (.ref wA), .unset] [(.ref wA)])) rfl (hb hby d2_1)
  refine Go.by' st45 ?_
  show Go p.tables e below Pf (T45.setTop (mkF m 4 #[.val (.ref wA), .unset] [(.ref wB), (.ref wA)]))
  refine Go.by' (fun t k => Jvm.RoadKit.acmp (g := (mkF m 4 #[.val (.ref wA), .unset] [(.ref wB), (.ref wA)])) X45 hx rfl rfl rfl (pc0 := 4) (pc' := 14) (same := false) rfl (hb hby d2_4) rfl (decide_eq_false (fun q => (Ne.symm G.2.2.2.2.2.2.2.2) (Value.ref.inj q))) (by decide) (by decide) k) ?_
  show Go p.tables e below Pf (T45.setTop (mkF m 14 #[.val (.ref wA), .unset] []))
  refine Go.by' (fun t k => (XS.aloadN X45.here hx rfl (hb hby d2_14) rfl rfl k)) ?_
  show Go p.tables e below Pf (T45.setTop (mkF m 15 #[.val (.ref wA), .unset] [(.ref wA)]))
  obtain ⟨T46, X46, e46, st46⟩ := getS2 X45 hx hZ hown (host := "") (Or.inl hw15) Via.refl e45 (G.2.2.2.2.1.ext O0.2) (g := (mkF m 15 #[.val (.ref wA), .unset] [(.ref wA)])) rfl (hb hby d2_15)
  refine Go.by' st46 ?_
  show Go p.tables e below Pf (T46.setTop (mkF m 18 #[.val (.ref wA), .unset] [(.ref wA), (.ref wA)]))
  refine Go.by' (fun t k => Jvm.RoadKit.acmp (g := (mkF m 18 #[.val (.ref wA), .unset] [(.ref wA), (.ref wA)])) X46 hx rfl rfl rfl (pc0 := 18) (pc' := 21) (same := true) rfl (hb hby d2_18) rfl (decide_eq_true rfl) (by decide) (by decide) k) ?_
  show Go p.tables e below Pf (T46.setTop (mkF m 21 #[.val (.ref wA), .unset] []))
  obtain ⟨T47, X47, e47, st47⟩ := getS2 X46 hx hZ hown (host := "") (Or.inl hw13) Via.refl e46 (G.2.2.1.ext O0.2) (g := (mkF m 21 #[.val (.ref wA), .unset] [])) rfl (hb hby d2_21)
  refine Go.by' st47 ?_
  show Go p.tables e below Pf (T47.setTop (mkF m 24 #[.val (.ref wA), .unset] [(.ref wB)]))
  refine Go.by' (fun t k => (XS.astoreN X47.here hx rfl (hb hby d2_24) rfl rfl (l' := #[.val (.ref wA), .val (.ref wB)]) rfl (XS.goto X47.here hx rfl (pc0 := 25) (pc' := 32) rfl (hb hby d2_25) (by decide) (by decide) (XS.aloadN X47.here hx rfl (hb hby d2_32) rfl rfl k)))) ?_
  show Go p.tables e below Pf (T47.setTop (mkF m 33 #[.val (.ref wA), .val (.ref wB)] [(.ref wB)]))
  rw [hPf]
  exact Go.retA' X47 hx hret hlk rfl rfl (hb hby d2_33) (by decide) (by decide) ⟨rfl, rfl, e47⟩
theorem d4_0 : decode method_3_code 0 = .ok (.iload_n 0, 1) := by decide +kernel
theorem d4_1 : decode method_3_code 1 = .ok (.ifCond .le 8, 3) := by decide +kernel
theorem d4_4 : decode method_3_code 4 = .ok (.iconst (-1), 1) := by decide +kernel
theorem d4_5 : decode method_3_code 5 = .ok (.istore_n 1, 1) := by decide +kernel
theorem d4_6 : decode method_3_code 6 = .ok (.goto 14, 3) := by decide +kernel
theorem d4_9 : decode method_3_code 9 = .ok (.iload_n 0, 1) := by decide +kernel
theorem d4_10 : decode method_3_code 10 = .ok (.ifCond .ge 8, 3) := by decide +kernel
theorem d4_13 : decode method_3_code 13 = .ok (.iconst 1, 1) := by decide +kernel
theorem d4_14 : decode method_3_code 14 = .ok (.istore_n 1, 1) := by decide +kernel
theorem d4_15 : decode method_3_code 15 = .ok (.goto 5, 3) := by decide +kernel
theorem d4_18 : decode method_3_code 18 = .ok (.iconst 0, 1) := by decide +kernel
theorem d4_19 : decode method_3_code 19 = .ok (.istore_n 1, 1) := by decide +kernel
theorem d4_20 : decode method_3_code 20 = .ok (.iload_n 1, 1) := by decide +kernel
theorem d4_21 : decode method_3_code 21 = .ok (.ireturn, 1) := by decide +kernel
theorem pn_4 : plainName "com/example/libfnseq/libfnseq/RelationConversePinLaw" = true := by first | (simp [plainName, overriddenIn]; done) | decide +kernel
set_option maxHeartbeats 4000000 in
theorem ef_rmSw (m : MethodId) {ip : Int32} : entryFrame m #[(.int ip)] 2 = mkF m 0 #[.val (.int ip), .unset] [] := by first | (simp [entryFrame, mkF, argsToLocals, Value.category]; done) | rfl
def QrmSw (Z : State) (wE : Addr) (wB : Addr) (wA : Addr) (ip : Int32) (h0 : Heap) (n0 : Nat) (v : Option Value) (h : Heap) (L : List Loc) : Prop := ∃ (r : Int32), (v = some (.int r)) ∧ (L = []) ∧ (h = h0) ∧ (((0 : Int32) < ip ∧ r = (-1 : Int32)) ∨ (¬ ((0 : Int32) < ip) ∧ ip < (0 : Int32) ∧ r = (1 : Int32)) ∨ (¬ ((0 : Int32) < ip) ∧ ¬ (ip < (0 : Int32)) ∧ r = (0 : Int32)))
set_option maxRecDepth 65536 in
set_option maxHeartbeats 40000000 in
theorem rmSw (l : Launch) (Z : State) (a0 : Array Value) (hw : ∀ d ∈ tables_1, d.before a0 Z = true) (ws : List Jvm.Cond) (wE : Addr) (wB : Addr) (wA : Addr) (G : Gh Z wE wB wA) (ip : Int32) (h0 : Heap) (n0 : Nat) (O0 : Old Z n0 h0) :
    MetFree l (⟨"com/example/libfnseq/libfnseq/RelationConversePinLaw", "swapped", "(I)I"⟩ : MethodName) (head1 (Jvm.Cond.code (⟨"com/example/libfnseq/libfnseq/RelationConversePinLaw", "swapped", "(I)I"⟩ : MethodName) method_3_code 2 (some .int) :: ws) ({ frames := 0, cells := 0, slots := 0, locals := 0 } : Room)) (fun aa' UU' => aa' = #[(.int ip)] ∧ Z.Warmed39 UU'.vm ∧ UU'.heap = h0) (fun _ _ _ _ _ => True) (fun _ UU' oo' VV' => ∃ v' L', oo' = .returned v' ∧ QrmSw Z wE wB wA ip h0 n0 v' VV'.heap L' ∧ FrameEnd UU' oo' VV' L' ({ frames := 0, cells := 0, slots := 0, locals := 0 } : Room).cells ({ frames := 0, cells := 0, slots := 0, locals := 0 } : Room).slots) := by
  refine MetFree.of_bodySF (plainFor_of_name pn_4) hisR ?_
  intro p e s m args below meth c s₁ Bd hml0 hP hK
  obtain ⟨rfl, hZ, hh⟩ := hP
  have hx := Bd.exec
  have hby := Bd.bytes
  have hlk := Bd.notSynchronized
  have hml : c.maxLocals = 2 := hml0
  have hown : s.vm.findClass "com/example/libfnseq/libfnseq/RelationConversePinLaw" = some m.cls := findClass_of_methodNamed Bd.named
  have hnm := (name_of_methodNamed Bd.named Bd.method).1
  have hret := Bd.returns
  have X0 : Stand p l e ({ frames := 0, cells := 0, slots := 0, locals := 0 } : Room) s m #[(.int ip)] below meth c s₁ [] 0 0 := Stand.of_body Bd
  have e0 : s₁.heap = h0 := by rw [← hh, Bd.state]; rfl
  have N0 := Fr.nil n0
  refine Go.body ?_
  obtain ⟨Pf, hPf⟩ : ∃ P, P = Fin' s below ({ frames := 0, cells := 0, slots := 0, locals := 0 } : Room).cells ({ frames := 0, cells := 0, slots := 0, locals := 0 } : Room).slots (QrmSw Z wE wB wA ip h0 n0) := ⟨_, rfl⟩
  rw [← hPf]
  refine Go.cast (ef_rmSw m) ?_
  show Go p.tables e below Pf (s₁.setTop (mkF m 0 #[.val (.int ip), .unset] []))
  refine Go.by' (fun t k => (XS.iloadN X0.here hx rfl (hb hby d4_0) rfl k)) ?_
  show Go p.tables e below Pf (s₁.setTop (mkF m 1 #[.val (.int ip), .unset] [(.int ip)]))
  have jn50 : ∀ (T' : State) (w50_0 : Int32), Like X0 T' → T'.heap = h0 → (((0 : Int32) < ip ∧ w50_0 = (-1 : Int32)) ∨ (¬ ((0 : Int32) < ip) ∧ ip < (0 : Int32) ∧ w50_0 = (1 : Int32)) ∨ (¬ ((0 : Int32) < ip) ∧ ¬ (ip < (0 : Int32)) ∧ w50_0 = (0 : Int32))) → Go p.tables e below Pf (T'.setTop (mkF m 20 #[.val (.int ip), .val (.int w50_0)] [])) := by
    intro T50 w50_0 X50 e50 hm50
    unfold Like at X50
    show Go p.tables e below Pf (T50.setTop (mkF m 20 #[.val (.int ip), .val (.int w50_0)] []))
    refine Go.by' (fun t k => (XS.iloadN X50.here hx rfl (hb hby d4_20) rfl k)) ?_
    show Go p.tables e below Pf (T50.setTop (mkF m 21 #[.val (.int ip), .val (.int w50_0)] [(.int w50_0)]))
    rw [hPf]
    exact Go.retI' X50 hx hret hlk (by simp) rfl (hb hby d4_21) (by decide) (by decide) ⟨w50_0, rfl, rfl, e50, hm50⟩
  by_cases hc51 : (0 : Int32) < ip
  · refine Go.by' (fun t k => (XS.ifNo X0.here hx rfl (hb hby d4_1) rfl ((if0 _ _).trans (tlt hc51).2.2.2) (XS.iconst X0.here hx rfl (hb hby d4_4) (XS.istoreN X0.here hx rfl (hb hby d4_5) rfl (l' := #[.val (.int ip), .val (.int (-1 : Int32))]) rfl (XS.goto X0.here hx rfl (pc0 := 6) (pc' := 20) rfl (hb hby d4_6) (by decide) (by decide) k))))) ?_
    show Go p.tables e below Pf (s₁.setTop (mkF m 20 #[.val (.int ip), .val (.int (-1 : Int32))] []))
    exact jn50 s₁ ((-1 : Int32)) X0 e0  (Or.inl ⟨hc51, rfl⟩)
  · refine Go.by' (fun t k => (XS.ifYes X0.here hx rfl (pc0 := 1) (pc' := 9) rfl (hb hby d4_1) rfl ((if0 _ _).trans (flt hc51).2.2.2) (by decide) (by decide) (XS.iloadN X0.here hx rfl (hb hby d4_9) rfl k))) ?_
    show Go p.tables e below Pf (s₁.setTop (mkF m 10 #[.val (.int ip), .unset] [(.int ip)]))
    by_cases hc52 : ip < (0 : Int32)
    · refine Go.by' (fun t k => (XS.ifNo X0.here hx rfl (hb hby d4_10) rfl ((if0 _ _).trans (tlt hc52).2.1) (XS.iconst X0.here hx rfl (hb hby d4_13) (XS.istoreN X0.here hx rfl (hb hby d4_14) rfl (l' := #[.val (.int ip), .val (.int (1 : Int32))]) rfl (XS.goto X0.here hx rfl (pc0 := 15) (pc' := 20) rfl (hb hby d4_15) (by decide) (by decide) k))))) ?_
      show Go p.tables e below Pf (s₁.setTop (mkF m 20 #[.val (.int ip), .val (.int (1 : Int32))] []))
      exact jn50 s₁ ((1 : Int32)) X0 e0  (Or.inr (Or.inl ⟨hc51, hc52, rfl⟩))
    · refine Go.by' (fun t k => (XS.ifYes X0.here hx rfl (pc0 := 10) (pc' := 18) rfl (hb hby d4_10) rfl ((if0 _ _).trans (flt hc52).2.1) (by decide) (by decide) (XS.iconst X0.here hx rfl (hb hby d4_18) (XS.istoreN X0.here hx rfl (hb hby d4_19) rfl (l' := #[.val (.int ip), .val (.int (0 : Int32))]) rfl k)))) ?_
      show Go p.tables e below Pf (s₁.setTop (mkF m 20 #[.val (.int ip), .val (.int (0 : Int32))] []))
      exact jn50 s₁ ((0 : Int32)) X0 e0  (Or.inr (Or.inr ⟨hc51, hc52, rfl⟩))
theorem pd_0 : parseMethodDescriptor "(I)Lcom/example/libfnseq/libfnseq/NumericValue$Relation;" = some ⟨[.int], some (.object "com/example/libfnseq/libfnseq/NumericValue$Relation")⟩ := by decide +kernel
theorem pd_1 : parseMethodDescriptor "()Lcom/example/libfnseq/libfnseq/NumericValue$Relation;" = some ⟨[], some (.object "com/example/libfnseq/libfnseq/NumericValue$Relation")⟩ := by decide +kernel
theorem pd_2 : parseMethodDescriptor "(I)Z" = some ⟨[.int], some .boolean⟩ := by decide +kernel
theorem pd_3 : parseMethodDescriptor "(I)I" = some ⟨[.int], some .int⟩ := by decide +kernel
theorem pd_4 : parseMethodDescriptor "(DD)Z" = some ⟨[.double, .double], some .boolean⟩ := by decide +kernel
theorem pn_0 : plainName "com/example/libfnseq/libfnseq/RelationConversePinLaw" = true := by first | (simp [plainName, overriddenIn]; done) | decide +kernel
set_option maxHeartbeats 4000000 in
theorem ef_rm0 (m : MethodId) {ip : Int32} {iq : Int32} {ia : Int32} {ib : Int32} : entryFrame m #[(.int ip), (.int iq), (.int ia), (.int ib)] maxLocals = mkF m 0 #[.val (.int ip), .val (.int iq), .val (.int ia), .val (.int ib), .unset, .unset, .unset, .unset, .unset, .unset, .unset, .unset, .unset] [] := by first | (simp [entryFrame, mkF, argsToLocals, Value.category, maxLocals]; done) | rfl
def Qrm0 (Z : State) (wE : Addr) (wB : Addr) (wA : Addr) (ip : Int32) (iq : Int32) (ia : Int32) (ib : Int32) (h0 : Heap) (n0 : Nat) (v : Option Value) (h : Heap) (L : List Loc) : Prop := (v = some (.int (1 : Int32))) ∧ (L = []) ∧ (h = h0)
set_option maxRecDepth 65536 in
set_option maxHeartbeats 40000000 in
theorem rm0 (l : Launch) (Z : State) (a0 : Array Value) (hw : ∀ d ∈ tables_1, d.before a0 Z = true) (ws : List Jvm.Cond) (wE : Addr) (wB : Addr) (wA : Addr) (G : Gh Z wE wB wA) (ip : Int32) (iq : Int32) (ia : Int32) (ib : Int32) (h0 : Heap) (n0 : Nat) (O0 : Old Z n0 h0) :
    MetFree l x (head1 (Jvm.Cond.code x code maxLocals ret :: ws) room_1) (fun aa' UU' => aa' = #[(.int ip), (.int iq), (.int ia), (.int ib)] ∧ Z.Warmed39 UU'.vm ∧ UU'.heap = h0) (fun _ _ _ _ _ => True) (fun _ UU' oo' VV' => ∃ v' L', oo' = .returned v' ∧ Qrm0 Z wE wB wA ip iq ia ib h0 n0 v' VV'.heap L' ∧ FrameEnd UU' oo' VV' L' 0 0) := by
  refine MetFree.of_bodySF (plainFor_of_name pn_0) hisR ?_
  intro p e s m args below meth c s₁ Bd hml0 hP hK
  obtain ⟨rfl, hZ, hh⟩ := hP
  have hx := Bd.exec
  have hby := Bd.bytes
  have hlk := Bd.notSynchronized
  have hml : c.maxLocals = 13 := hml0
  have hown : s.vm.findClass "com/example/libfnseq/libfnseq/RelationConversePinLaw" = some m.cls := findClass_of_methodNamed Bd.named
  have hnm := (name_of_methodNamed Bd.named Bd.method).1
  have hret := Bd.returns
  have X0 : Stand p l e room_1 s m #[(.int ip), (.int iq), (.int ia), (.int ib)] below meth c s₁ [] 0 0 := Stand.of_body Bd
  have e0 : s₁.heap = h0 := by rw [← hh, Bd.state]; rfl
  have N0 := Fr.nil n0
  refine Go.body ?_
  obtain ⟨Pf, hPf⟩ : ∃ P, P = Fin' s below 0 0 (Qrm0 Z wE wB wA ip iq ia ib h0 n0) := ⟨_, rfl⟩
  rw [← hPf]
  refine Go.cast (ef_rm0 m) ?_
  have hw0 := (hw _ (List.mem_of_getElem? (i := 0) rfl))
  have hw1 := (hw _ (List.mem_of_getElem? (i := 1) rfl))
  have hw2 := (hw _ (List.mem_of_getElem? (i := 2) rfl))
  have hw3 := (hw _ (List.mem_of_getElem? (i := 3) rfl))
  have hw6 := (hw _ (List.mem_of_getElem? (i := 6) rfl))
  have hw8 := (hw _ (List.mem_of_getElem? (i := 8) rfl))
  have hw9 := (hw _ (List.mem_of_getElem? (i := 9) rfl))
  have hw10 := (hw _ (List.mem_of_getElem? (i := 10) rfl))
  have hw11 := (hw _ (List.mem_of_getElem? (i := 11) rfl))
  have hw12 := (hw _ (List.mem_of_getElem? (i := 12) rfl))
  have hw18 := (hw _ (List.mem_of_getElem? (i := 18) rfl))
  have hw19 := (hw _ (List.mem_of_getElem? (i := 19) rfl))
  have hw20 := (hw _ (List.mem_of_getElem? (i := 20) rfl))
  have hw21 := (hw _ (List.mem_of_getElem? (i := 21) rfl))
  have hw22 := (hw _ (List.mem_of_getElem? (i := 22) rfl))
  have hw23 := (hw _ (List.mem_of_getElem? (i := 23) rfl))
  have hw24 := (hw _ (List.mem_of_getElem? (i := 24) rfl))
  have hw25 := (hw _ (List.mem_of_getElem? (i := 25) rfl))
  have hw26 := (hw _ (List.mem_of_getElem? (i := 26) rfl))
  have hw27 := (hw _ (List.mem_of_getElem? (i := 27) rfl))
  have hw28 := (hw _ (List.mem_of_getElem? (i := 28) rfl))
  have hw29 := (hw _ (List.mem_of_getElem? (i := 29) rfl))
  have hw30 := (hw _ (List.mem_of_getElem? (i := 30) rfl))
  show Go p.tables e below Pf (s₁.setTop (mkF m 0 #[.val (.int ip), .val (.int iq), .val (.int ia), .val (.int ib), .unset, .unset, .unset, .unset, .unset, .unset, .unset, .unset, .unset] []))
  refine Go.by' (fun t k => (XS.iloadN X0.here hx rfl (hb hby at_0) rfl k)) ?_
  show Go p.tables e below Pf (s₁.setTop (mkF m 1 #[.val (.int ip), .val (.int iq), .val (.int ia), .val (.int ib), .unset, .unset, .unset, .unset, .unset, .unset, .unset, .unset, .unset] [(.int ip)]))
  obtain ⟨_, _, ⟨T53, L53, k53, n53⟩, -, X53, ⟨Lc53, hQ53, l53, y53, z53⟩, st53⟩ := Jvm.LawKit.callS X0 hx (y := (⟨"com/example/libfnseq/libfnseq/RelationConversePinLaw", "pick", "(I)Lcom/example/libfnseq/libfnseq/NumericValue$Relation;"⟩ : MethodName)) hown (mvT hZ hw0) (mvT hZ hw1) (mvT hZ hw2) (mvT hZ hw3) (by decide) (backOf (W := 0) (rmPick l Z a0 hw [] wE wB wA G ip h0 n0 O0 ) hZ hw3 hw2 (by decide) (by decide)) (g := (mkF m 1 #[.val (.int ip), .val (.int iq), .val (.int ia), .val (.int ib), .unset, .unset, .unset, .unset, .unset, .unset, .unset, .unset, .unset] [(.int ip)])) rfl (by rw [hml]; rfl) (argsL := [(.int ip)]) (rest := []) (lenOf pd_0 rfl) rfl (by show 2 * 0 + _ ≤ _; exact Nat.le_of_eq rfl) (hb hby at_1) (fun _ _ => ⟨rfl, e0, (by decide : 0 + 0 ≤ _), (by decide : 0 + 0 ≤ _)⟩)
  dsimp only [Pt.U, Pt.locs, Pt.cells, Pt.slots] at X53 l53 y53 z53 st53 hQ53
  subst l53 y53 z53
  obtain ⟨r_53, rfl, rfl, e53, r53_0⟩ := hQ53
  try rw [List.append_nil] at X53
  refine Go.by' st53 ?_
  rcases r53_0 with rfl | rfl | rfl
  · show Go p.tables e below Pf (T53.setTop (mkF m 4 #[.val (.int ip), .val (.int iq), .val (.int ia), .val (.int ib), .unset, .unset, .unset, .unset, .unset, .unset, .unset, .unset, .unset] [(.ref wE)]))
    refine Go.by' (fun t k => (XS.astore X53.here hx rfl (hb hby at_4) rfl rfl (l' := #[.val (.int ip), .val (.int iq), .val (.int ia), .val (.int ib), .val (.ref wE), .unset, .unset, .unset, .unset, .unset, .unset, .unset, .unset]) rfl (XS.aload X53.here hx rfl (hb hby at_6) rfl rfl k))) ?_
    show Go p.tables e below Pf (T53.setTop (mkF m 8 #[.val (.int ip), .val (.int iq), .val (.int ia), .val (.int ib), .val (.ref wE), .unset, .unset, .unset, .unset, .unset, .unset, .unset, .unset] [(.ref wE)]))
    obtain ⟨cq54, kq54, q54a, q54b, q54c⟩ := isOf hZ e53 (G.2.1.ext O0.2)
    obtain ⟨_, _, ⟨T54, L54, k54, n54⟩, -, X54, ⟨Lc54, hQ54, l54, y54, z54⟩, st54⟩ := X53.virtualBack hx (y := (⟨"com/example/libfnseq/libfnseq/NumericValue$Relation", "converse", "()Lcom/example/libfnseq/libfnseq/NumericValue$Relation;"⟩ : MethodName)) (z := (⟨"com/example/libfnseq/libfnseq/NumericValue$Relation", "converse", "()Lcom/example/libfnseq/libfnseq/NumericValue$Relation;"⟩ : MethodName)) hown (mvT hZ hw8) (mvT hZ hw9) (notFace_of_selects (args := #[]) (mvT hZ hw11)) (mvT hZ hw11) (mvT hZ hw10) (by decide) (backOf (W := 0) (rmCE l Z a0 hw [] wE wB wA G  h0 n0 O0 ) hZ hw12 hw6 (by decide) (by decide)) q54a q54c (g := (mkF m 8 #[.val (.int ip), .val (.int iq), .val (.int ia), .val (.int ib), .val (.ref wE), .unset, .unset, .unset, .unset, .unset, .unset, .unset, .unset] [(.ref wE)])) rfl (by rw [hml]; rfl) (Steps.refl _) (argsL := []) (rest := []) (lenOf pd_1 rfl) rfl (by show 2 * 0 + _ ≤ _; exact Nat.le_of_eq rfl) (hb hby at_8) (fun _ _ => ⟨rfl, e53, (by decide : 0 + 0 ≤ _), (by decide : 0 + 0 ≤ _)⟩)
    dsimp only [Pt.U, Pt.locs, Pt.cells, Pt.slots] at X54 l54 y54 z54 st54 hQ54
    subst l54 y54 z54
    obtain ⟨rfl, rfl, e54⟩ := hQ54
    try rw [List.append_nil] at X54
    refine Go.by' (fun t k => st54.trans k) ?_
    show Go p.tables e below Pf (T54.setTop (mkF m 11 #[.val (.int ip), .val (.int iq), .val (.int ia), .val (.int ib), .val (.ref wE), .unset, .unset, .unset, .unset, .unset, .unset, .unset, .unset] [(.ref wE)]))
    refine Go.by' (fun t k => (XS.astore X54.here hx rfl (hb hby at_11) rfl rfl (l' := #[.val (.int ip), .val (.int iq), .val (.int ia), .val (.int ib), .val (.ref wE), .val (.ref wE), .unset, .unset, .unset, .unset, .unset, .unset, .unset]) rfl (XS.aload X54.here hx rfl (hb hby at_13) rfl rfl (XS.ifnonnullYes X54.here hx rfl (pc0 := 15) (pc' := 20) rfl (hb hby at_15) rfl (by decide) (by decide) (XS.iloadN X54.here hx rfl (hb hby at_20) rfl (XS.i2dS X54.here hx rfl (hb hby at_21) rfl rfl (XS.dstore X54.here hx rfl (hb hby at_22) rfl (l' := #[.val (.int ip), .val (.int iq), .val (.int ia), .val (.int ib), .val (.ref wE), .val (.ref wE), .val (.double (FP.i2d ia)), .second, .unset, .unset, .unset, .unset, .unset]) rfl k))))))) ?_
    show Go p.tables e below Pf (T54.setTop (mkF m 24 #[.val (.int ip), .val (.int iq), .val (.int ia), .val (.int ib), .val (.ref wE), .val (.ref wE), .val (.double (FP.i2d ia)), .second, .unset, .unset, .unset, .unset, .unset] []))
    refine Go.by' (fun t k => (XS.iloadN X54.here hx rfl (hb hby at_24) rfl (XS.i2dS X54.here hx rfl (hb hby at_25) rfl rfl (XS.dstore X54.here hx rfl (hb hby at_26) rfl (l' := #[.val (.int ip), .val (.int iq), .val (.int ia), .val (.int ib), .val (.ref wE), .val (.ref wE), .val (.double (FP.i2d ia)), .second, .val (.double (FP.i2d ib)), .second, .unset, .unset, .unset]) rfl (XS.aload X54.here hx rfl (hb hby at_28) rfl rfl (XS.iloadN X54.here hx rfl (hb hby at_30) rfl k)))))) ?_
    show Go p.tables e below Pf (T54.setTop (mkF m 31 #[.val (.int ip), .val (.int iq), .val (.int ia), .val (.int ib), .val (.ref wE), .val (.ref wE), .val (.double (FP.i2d ia)), .second, .val (.double (FP.i2d ib)), .second, .unset, .unset, .unset] [(.int iq), (.ref wE)]))
    obtain ⟨cq55, kq55, q55a, q55b, q55c⟩ := isOf hZ e54 (G.2.1.ext O0.2)
    obtain ⟨_, _, ⟨T55, L55, k55, n55⟩, -, X55, ⟨Lc55, hQ55, l55, y55, z55⟩, st55⟩ := X54.virtualBack hx (y := (⟨"com/example/libfnseq/libfnseq/NumericValue$Relation", "holds", "(I)Z"⟩ : MethodName)) (z := (⟨"com/example/libfnseq/libfnseq/NumericValue$Relation", "holds", "(I)Z"⟩ : MethodName)) hown (mvT hZ hw18) (mvT hZ hw19) (notFace_of_selects (args := #[]) (mvT hZ hw21)) (mvT hZ hw21) (mvT hZ hw20) (by decide) (backOf (W := 0) (rmHE l Z a0 hw [] wE wB wA G iq h0 n0 O0 ) hZ hw22 hw6 (by decide) (by decide)) q55a q55c (g := (mkF m 31 #[.val (.int ip), .val (.int iq), .val (.int ia), .val (.int ib), .val (.ref wE), .val (.ref wE), .val (.double (FP.i2d ia)), .second, .val (.double (FP.i2d ib)), .second, .unset, .unset, .unset] [(.int iq), (.ref wE)])) rfl (by rw [hml]; rfl) (Steps.refl _) (argsL := [(.int iq)]) (rest := []) (lenOf pd_2 rfl) rfl (by show 2 * 0 + _ ≤ _; exact Nat.le_of_eq rfl) (hb hby at_31) (fun _ _ => ⟨rfl, e54, (by decide : 0 + 0 ≤ _), (by decide : 0 + 0 ≤ _)⟩)
    dsimp only [Pt.U, Pt.locs, Pt.cells, Pt.slots] at X55 l55 y55 z55 st55 hQ55
    subst l55 y55 z55
    obtain ⟨r_55, rfl, rfl, e55, r55_0⟩ := hQ55
    try rw [List.append_nil] at X55
    refine Go.by' (fun t k => st55.trans k) ?_
    show Go p.tables e below Pf (T55.setTop (mkF m 34 #[.val (.int ip), .val (.int iq), .val (.int ia), .val (.int ib), .val (.ref wE), .val (.ref wE), .val (.double (FP.i2d ia)), .second, .val (.double (FP.i2d ib)), .second, .unset, .unset, .unset] [(.int r_55)]))
    refine Go.by' (fun t k => (XS.aload X55.here hx rfl (hb hby at_34) rfl rfl (XS.iloadN X55.here hx rfl (hb hby at_36) rfl k))) ?_
    show Go p.tables e below Pf (T55.setTop (mkF m 37 #[.val (.int ip), .val (.int iq), .val (.int ia), .val (.int ib), .val (.ref wE), .val (.ref wE), .val (.double (FP.i2d ia)), .second, .val (.double (FP.i2d ib)), .second, .unset, .unset, .unset] [(.int iq), (.ref wE), (.int r_55)]))
    obtain ⟨_, _, ⟨T56, L56, k56, n56⟩, -, X56, ⟨Lc56, hQ56, l56, y56, z56⟩, st56⟩ := Jvm.LawKit.callS X55 hx (y := (⟨"com/example/libfnseq/libfnseq/RelationConversePinLaw", "swapped", "(I)I"⟩ : MethodName)) hown (mvT hZ hw23) (mvT hZ hw24) (mvT hZ hw2) (mvT hZ hw25) (by decide) (backOf (W := 2) (rmSw l Z a0 hw [] wE wB wA G iq h0 n0 O0 ) hZ hw25 hw2 (by decide) (by decide)) (g := (mkF m 37 #[.val (.int ip), .val (.int iq), .val (.int ia), .val (.int ib), .val (.ref wE), .val (.ref wE), .val (.double (FP.i2d ia)), .second, .val (.double (FP.i2d ib)), .second, .unset, .unset, .unset] [(.int iq), (.ref wE), (.int r_55)])) rfl (by rw [hml]; rfl) (argsL := [(.int iq)]) (rest := [(.ref wE), (.int r_55)]) (lenOf pd_3 rfl) rfl (by show 2 * 0 + _ ≤ _; exact Nat.le_of_eq rfl) (hb hby at_37) (fun _ _ => ⟨rfl, e55, (by decide : 0 + 0 ≤ _), (by decide : 0 + 0 ≤ _)⟩)
    dsimp only [Pt.U, Pt.locs, Pt.cells, Pt.slots] at X56 l56 y56 z56 st56 hQ56
    subst l56 y56 z56
    obtain ⟨r_56, rfl, rfl, e56, r56_0⟩ := hQ56
    try rw [List.append_nil] at X56
    refine Go.by' st56 ?_
    show Go p.tables e below Pf (T56.setTop (mkF m 40 #[.val (.int ip), .val (.int iq), .val (.int ia), .val (.int ib), .val (.ref wE), .val (.ref wE), .val (.double (FP.i2d ia)), .second, .val (.double (FP.i2d ib)), .second, .unset, .unset, .unset] [(.int r_56), (.ref wE), (.int r_55)]))
    obtain ⟨cq57, kq57, q57a, q57b, q57c⟩ := isOf hZ e56 (G.2.1.ext O0.2)
    obtain ⟨_, _, ⟨T57, L57, k57, n57⟩, -, X57, ⟨Lc57, hQ57, l57, y57, z57⟩, st57⟩ := X56.virtualBack hx (y := (⟨"com/example/libfnseq/libfnseq/NumericValue$Relation", "holds", "(I)Z"⟩ : MethodName)) (z := (⟨"com/example/libfnseq/libfnseq/NumericValue$Relation", "holds", "(I)Z"⟩ : MethodName)) hown (mvT hZ hw18) (mvT hZ hw19) (notFace_of_selects (args := #[]) (mvT hZ hw21)) (mvT hZ hw21) (mvT hZ hw20) (by decide) (backOf (W := 1) (rmHE l Z a0 hw [] wE wB wA G r_56 h0 n0 O0 ) hZ hw22 hw6 (by decide) (by decide)) q57a q57c (g := (mkF m 40 #[.val (.int ip), .val (.int iq), .val (.int ia), .val (.int ib), .val (.ref wE), .val (.ref wE), .val (.double (FP.i2d ia)), .second, .val (.double (FP.i2d ib)), .second, .unset, .unset, .unset] [(.int r_56), (.ref wE), (.int r_55)])) rfl (by rw [hml]; rfl) (Steps.refl _) (argsL := [(.int r_56)]) (rest := [(.int r_55)]) (lenOf pd_2 rfl) rfl (by show 2 * 0 + _ ≤ _; exact Nat.le_of_eq rfl) (hb hby at_40) (fun _ _ => ⟨rfl, e56, (by decide : 0 + 0 ≤ _), (by decide : 0 + 0 ≤ _)⟩)
    dsimp only [Pt.U, Pt.locs, Pt.cells, Pt.slots] at X57 l57 y57 z57 st57 hQ57
    subst l57 y57 z57
    obtain ⟨r_57, rfl, rfl, e57, r57_0⟩ := hQ57
    try rw [List.append_nil] at X57
    refine Go.by' (fun t k => st57.trans k) ?_
    obtain rfl : r_55 = r_57 := by
      have := own_i0; have := own_i1; have := own_im; have hs := r56_0
      simp only [Int32.lt_iff_toInt_lt, ← Int32.toInt_inj] at r55_0 r57_0 hs ⊢
      omega
    show Go p.tables e below Pf (T57.setTop (mkF m 43 #[.val (.int ip), .val (.int iq), .val (.int ia), .val (.int ib), .val (.ref wE), .val (.ref wE), .val (.double (FP.i2d ia)), .second, .val (.double (FP.i2d ib)), .second, .unset, .unset, .unset] [(.int r_55), (.int r_55)]))
    refine Go.by' (fun t k => (XS.icmpNo X57.here hx rfl (hb hby at_43) rfl (teq rfl).2 (XS.iconst X57.here hx rfl (hb hby at_46) (XS.goto X57.here hx rfl (pc0 := 47) (pc' := 51) rfl (hb hby at_47) (by decide) (by decide) (XS.istore X57.here hx rfl (hb hby at_51) rfl (l' := #[.val (.int ip), .val (.int iq), .val (.int ia), .val (.int ib), .val (.ref wE), .val (.ref wE), .val (.double (FP.i2d ia)), .second, .val (.double (FP.i2d ib)), .second, .val (.int (1 : Int32)), .unset, .unset]) rfl (XS.aload X57.here hx rfl (hb hby at_53) rfl rfl (XS.dload X57.here hx rfl (hb hby at_55) rfl k))))))) ?_
    show Go p.tables e below Pf (T57.setTop (mkF m 57 #[.val (.int ip), .val (.int iq), .val (.int ia), .val (.int ib), .val (.ref wE), .val (.ref wE), .val (.double (FP.i2d ia)), .second, .val (.double (FP.i2d ib)), .second, .val (.int (1 : Int32)), .unset, .unset] [(.double (FP.i2d ia)), (.ref wE)]))
    refine Go.by' (fun t k => (XS.dload X57.here hx rfl (hb hby at_57) rfl k)) ?_
    show Go p.tables e below Pf (T57.setTop (mkF m 59 #[.val (.int ip), .val (.int iq), .val (.int ia), .val (.int ib), .val (.ref wE), .val (.ref wE), .val (.double (FP.i2d ia)), .second, .val (.double (FP.i2d ib)), .second, .val (.int (1 : Int32)), .unset, .unset] [(.double (FP.i2d ib)), (.double (FP.i2d ia)), (.ref wE)]))
    obtain ⟨cq58, kq58, q58a, q58b, q58c⟩ := isOf hZ e57 (G.2.1.ext O0.2)
    obtain ⟨_, _, ⟨T58, L58, k58, n58⟩, -, X58, ⟨Lc58, hQ58, l58, y58, z58⟩, st58⟩ := X57.virtualBack hx (y := (⟨"com/example/libfnseq/libfnseq/NumericValue$Relation", "holds", "(DD)Z"⟩ : MethodName)) (z := (⟨"com/example/libfnseq/libfnseq/NumericValue$Relation", "holds", "(DD)Z"⟩ : MethodName)) hown (mvT hZ hw26) (mvT hZ hw27) (notFace_of_selects (args := #[]) (mvT hZ hw29)) (mvT hZ hw29) (mvT hZ hw28) (by decide) (backOf (W := 0) (rmDE l Z a0 hw [] wE wB wA G ((FP.i2d ia)) ((FP.i2d ib)) h0 n0 O0 ) hZ hw30 hw6 (by decide) (by decide)) q58a q58c (g := (mkF m 59 #[.val (.int ip), .val (.int iq), .val (.int ia), .val (.int ib), .val (.ref wE), .val (.ref wE), .val (.double (FP.i2d ia)), .second, .val (.double (FP.i2d ib)), .second, .val (.int (1 : Int32)), .unset, .unset] [(.double (FP.i2d ib)), (.double (FP.i2d ia)), (.ref wE)])) rfl (by rw [hml]; rfl) (Steps.refl _) (argsL := [(.double (FP.i2d ia)), (.double (FP.i2d ib))]) (rest := []) (lenOf pd_4 rfl) rfl (by show 2 * 0 + _ ≤ _; exact Nat.le_of_eq rfl) (hb hby at_59) (fun _ _ => ⟨rfl, e57, (by decide : 0 + 0 ≤ _), (by decide : 0 + 0 ≤ _)⟩)
    dsimp only [Pt.U, Pt.locs, Pt.cells, Pt.slots] at X58 l58 y58 z58 st58 hQ58
    subst l58 y58 z58
    obtain ⟨r_58, rfl, rfl, e58, r58_0⟩ := hQ58
    try rw [List.append_nil] at X58
    refine Go.by' (fun t k => st58.trans k) ?_
    show Go p.tables e below Pf (T58.setTop (mkF m 62 #[.val (.int ip), .val (.int iq), .val (.int ia), .val (.int ib), .val (.ref wE), .val (.ref wE), .val (.double (FP.i2d ia)), .second, .val (.double (FP.i2d ib)), .second, .val (.int (1 : Int32)), .unset, .unset] [(.int r_58)]))
    refine Go.by' (fun t k => (XS.aload X58.here hx rfl (hb hby at_62) rfl rfl (XS.dload X58.here hx rfl (hb hby at_64) rfl (XS.dload X58.here hx rfl (hb hby at_66) rfl k)))) ?_
    show Go p.tables e below Pf (T58.setTop (mkF m 68 #[.val (.int ip), .val (.int iq), .val (.int ia), .val (.int ib), .val (.ref wE), .val (.ref wE), .val (.double (FP.i2d ia)), .second, .val (.double (FP.i2d ib)), .second, .val (.int (1 : Int32)), .unset, .unset] [(.double (FP.i2d ia)), (.double (FP.i2d ib)), (.ref wE), (.int r_58)]))
    obtain ⟨cq59, kq59, q59a, q59b, q59c⟩ := isOf hZ e58 (G.2.1.ext O0.2)
    obtain ⟨_, _, ⟨T59, L59, k59, n59⟩, -, X59, ⟨Lc59, hQ59, l59, y59, z59⟩, st59⟩ := X58.virtualBack hx (y := (⟨"com/example/libfnseq/libfnseq/NumericValue$Relation", "holds", "(DD)Z"⟩ : MethodName)) (z := (⟨"com/example/libfnseq/libfnseq/NumericValue$Relation", "holds", "(DD)Z"⟩ : MethodName)) hown (mvT hZ hw26) (mvT hZ hw27) (notFace_of_selects (args := #[]) (mvT hZ hw29)) (mvT hZ hw29) (mvT hZ hw28) (by decide) (backOf (W := 1) (rmDE l Z a0 hw [] wE wB wA G ((FP.i2d ib)) ((FP.i2d ia)) h0 n0 O0 ) hZ hw30 hw6 (by decide) (by decide)) q59a q59c (g := (mkF m 68 #[.val (.int ip), .val (.int iq), .val (.int ia), .val (.int ib), .val (.ref wE), .val (.ref wE), .val (.double (FP.i2d ia)), .second, .val (.double (FP.i2d ib)), .second, .val (.int (1 : Int32)), .unset, .unset] [(.double (FP.i2d ia)), (.double (FP.i2d ib)), (.ref wE), (.int r_58)])) rfl (by rw [hml]; rfl) (Steps.refl _) (argsL := [(.double (FP.i2d ib)), (.double (FP.i2d ia))]) (rest := [(.int r_58)]) (lenOf pd_4 rfl) rfl (by show 2 * 0 + _ ≤ _; exact Nat.le_of_eq rfl) (hb hby at_68) (fun _ _ => ⟨rfl, e58, (by decide : 0 + 0 ≤ _), (by decide : 0 + 0 ≤ _)⟩)
    dsimp only [Pt.U, Pt.locs, Pt.cells, Pt.slots] at X59 l59 y59 z59 st59 hQ59
    subst l59 y59 z59
    obtain ⟨r_59, rfl, rfl, e59, r59_0⟩ := hQ59
    try rw [List.append_nil] at X59
    refine Go.by' (fun t k => st59.trans k) ?_
    obtain rfl : r_58 = r_59 := by
      have q1 := own_l0 (FP.i2d ia) (FP.i2d ib); have q2 := own_gl (FP.i2d ia) (FP.i2d ib); have q3 := own_gl (FP.i2d ib) (FP.i2d ia)
      rcases r58_0 with ⟨a1, rfl⟩ | ⟨a1, rfl⟩ <;> rcases r59_0 with ⟨a2, rfl⟩ | ⟨a2, rfl⟩ <;> first | rfl | (exfalso; revert a1 a2; simp only [q1, q2, q3]; exact fun a b => (by first | exact a b | exact b a))
    show Go p.tables e below Pf (T59.setTop (mkF m 71 #[.val (.int ip), .val (.int iq), .val (.int ia), .val (.int ib), .val (.ref wE), .val (.ref wE), .val (.double (FP.i2d ia)), .second, .val (.double (FP.i2d ib)), .second, .val (.int (1 : Int32)), .unset, .unset] [(.int r_58), (.int r_58)]))
    refine Go.by' (fun t k => (XS.icmpNo X59.here hx rfl (hb hby at_71) rfl (teq rfl).2 (XS.iconst X59.here hx rfl (hb hby at_74) (XS.goto X59.here hx rfl (pc0 := 75) (pc' := 79) rfl (hb hby at_75) (by decide) (by decide) (XS.istore X59.here hx rfl (hb hby at_79) rfl (l' := #[.val (.int ip), .val (.int iq), .val (.int ia), .val (.int ib), .val (.ref wE), .val (.ref wE), .val (.double (FP.i2d ia)), .second, .val (.double (FP.i2d ib)), .second, .val (.int (1 : Int32)), .val (.int (1 : Int32)), .unset]) rfl (XS.aload X59.here hx rfl (hb hby at_81) rfl rfl k)))))) ?_
    show Go p.tables e below Pf (T59.setTop (mkF m 83 #[.val (.int ip), .val (.int iq), .val (.int ia), .val (.int ib), .val (.ref wE), .val (.ref wE), .val (.double (FP.i2d ia)), .second, .val (.double (FP.i2d ib)), .second, .val (.int (1 : Int32)), .val (.int (1 : Int32)), .unset] [(.ref wE)]))
    obtain ⟨cq60, kq60, q60a, q60b, q60c⟩ := isOf hZ e59 (G.2.1.ext O0.2)
    obtain ⟨_, _, ⟨T60, L60, k60, n60⟩, -, X60, ⟨Lc60, hQ60, l60, y60, z60⟩, st60⟩ := X59.virtualBack hx (y := (⟨"com/example/libfnseq/libfnseq/NumericValue$Relation", "converse", "()Lcom/example/libfnseq/libfnseq/NumericValue$Relation;"⟩ : MethodName)) (z := (⟨"com/example/libfnseq/libfnseq/NumericValue$Relation", "converse", "()Lcom/example/libfnseq/libfnseq/NumericValue$Relation;"⟩ : MethodName)) hown (mvT hZ hw8) (mvT hZ hw9) (notFace_of_selects (args := #[]) (mvT hZ hw11)) (mvT hZ hw11) (mvT hZ hw10) (by decide) (backOf (W := 0) (rmCE l Z a0 hw [] wE wB wA G  h0 n0 O0 ) hZ hw12 hw6 (by decide) (by decide)) q60a q60c (g := (mkF m 83 #[.val (.int ip), .val (.int iq), .val (.int ia), .val (.int ib), .val (.ref wE), .val (.ref wE), .val (.double (FP.i2d ia)), .second, .val (.double (FP.i2d ib)), .second, .val (.int (1 : Int32)), .val (.int (1 : Int32)), .unset] [(.ref wE)])) rfl (by rw [hml]; rfl) (Steps.refl _) (argsL := []) (rest := []) (lenOf pd_1 rfl) rfl (by show 2 * 0 + _ ≤ _; exact Nat.le_of_eq rfl) (hb hby at_83) (fun _ _ => ⟨rfl, e59, (by decide : 0 + 0 ≤ _), (by decide : 0 + 0 ≤ _)⟩)
    dsimp only [Pt.U, Pt.locs, Pt.cells, Pt.slots] at X60 l60 y60 z60 st60 hQ60
    subst l60 y60 z60
    obtain ⟨rfl, rfl, e60⟩ := hQ60
    try rw [List.append_nil] at X60
    refine Go.by' (fun t k => st60.trans k) ?_
    show Go p.tables e below Pf (T60.setTop (mkF m 86 #[.val (.int ip), .val (.int iq), .val (.int ia), .val (.int ib), .val (.ref wE), .val (.ref wE), .val (.double (FP.i2d ia)), .second, .val (.double (FP.i2d ib)), .second, .val (.int (1 : Int32)), .val (.int (1 : Int32)), .unset] [(.ref wE)]))
    refine Go.by' (fun t k => (XS.aload X60.here hx rfl (hb hby at_86) rfl rfl k)) ?_
    show Go p.tables e below Pf (T60.setTop (mkF m 88 #[.val (.int ip), .val (.int iq), .val (.int ia), .val (.int ib), .val (.ref wE), .val (.ref wE), .val (.double (FP.i2d ia)), .second, .val (.double (FP.i2d ib)), .second, .val (.int (1 : Int32)), .val (.int (1 : Int32)), .unset] [(.ref wE), (.ref wE)]))
    refine Go.by' (fun t k => Jvm.RoadKit.acmp (g := (mkF m 88 #[.val (.int ip), .val (.int iq), .val (.int ia), .val (.int ib), .val (.ref wE), .val (.ref wE), .val (.double (FP.i2d ia)), .second, .val (.double (FP.i2d ib)), .second, .val (.int (1 : Int32)), .val (.int (1 : Int32)), .unset] [(.ref wE), (.ref wE)])) X60 hx rfl rfl rfl (pc0 := 88) (pc' := 91) (same := true) rfl (hb hby at_88) rfl (decide_eq_true rfl) (by decide) (by decide) k) ?_
    show Go p.tables e below Pf (T60.setTop (mkF m 91 #[.val (.int ip), .val (.int iq), .val (.int ia), .val (.int ib), .val (.ref wE), .val (.ref wE), .val (.double (FP.i2d ia)), .second, .val (.double (FP.i2d ib)), .second, .val (.int (1 : Int32)), .val (.int (1 : Int32)), .unset] []))
    refine Go.by' (fun t k => (XS.iconst X60.here hx rfl (hb hby at_91) (XS.goto X60.here hx rfl (pc0 := 92) (pc' := 96) rfl (hb hby at_92) (by decide) (by decide) (XS.istore X60.here hx rfl (hb hby at_96) rfl (l' := #[.val (.int ip), .val (.int iq), .val (.int ia), .val (.int ib), .val (.ref wE), .val (.ref wE), .val (.double (FP.i2d ia)), .second, .val (.double (FP.i2d ib)), .second, .val (.int (1 : Int32)), .val (.int (1 : Int32)), .val (.int (1 : Int32))]) rfl (XS.iload X60.here hx rfl (hb hby at_98) rfl (XS.ifNo X60.here hx rfl (hb hby at_100) rfl ((if0 _ _).trans (feq (by decide)).1) (XS.iload X60.here hx rfl (hb hby at_103) rfl k))))))) ?_
    show Go p.tables e below Pf (T60.setTop (mkF m 105 #[.val (.int ip), .val (.int iq), .val (.int ia), .val (.int ib), .val (.ref wE), .val (.ref wE), .val (.double (FP.i2d ia)), .second, .val (.double (FP.i2d ib)), .second, .val (.int (1 : Int32)), .val (.int (1 : Int32)), .val (.int (1 : Int32))] [(.int (1 : Int32))]))
    refine Go.by' (fun t k => (XS.ifNo X60.here hx rfl (hb hby at_105) rfl ((if0 _ _).trans (feq (by decide)).1) (XS.iload X60.here hx rfl (hb hby at_108) rfl (XS.ifNo X60.here hx rfl (hb hby at_110) rfl ((if0 _ _).trans (feq (by decide)).1) (XS.iconst X60.here hx rfl (hb hby at_113) (XS.goto X60.here hx rfl (pc0 := 114) (pc' := 118) rfl (hb hby at_114) (by decide) (by decide) k)))))) ?_
    show Go p.tables e below Pf (T60.setTop (mkF m 118 #[.val (.int ip), .val (.int iq), .val (.int ia), .val (.int ib), .val (.ref wE), .val (.ref wE), .val (.double (FP.i2d ia)), .second, .val (.double (FP.i2d ib)), .second, .val (.int (1 : Int32)), .val (.int (1 : Int32)), .val (.int (1 : Int32))] [(.int (1 : Int32))]))
    rw [hPf]
    exact Go.retI' X60 hx hret hlk (by simp) rfl (hb hby at_118) (by decide) (by decide) ⟨rfl, rfl, e60⟩
  · show Go p.tables e below Pf (T53.setTop (mkF m 4 #[.val (.int ip), .val (.int iq), .val (.int ia), .val (.int ib), .unset, .unset, .unset, .unset, .unset, .unset, .unset, .unset, .unset] [(.ref wB)]))
    refine Go.by' (fun t k => (XS.astore X53.here hx rfl (hb hby at_4) rfl rfl (l' := #[.val (.int ip), .val (.int iq), .val (.int ia), .val (.int ib), .val (.ref wB), .unset, .unset, .unset, .unset, .unset, .unset, .unset, .unset]) rfl (XS.aload X53.here hx rfl (hb hby at_6) rfl rfl k))) ?_
    show Go p.tables e below Pf (T53.setTop (mkF m 8 #[.val (.int ip), .val (.int iq), .val (.int ia), .val (.int ib), .val (.ref wB), .unset, .unset, .unset, .unset, .unset, .unset, .unset, .unset] [(.ref wB)]))
    obtain ⟨cq61, kq61, q61a, q61b, q61c⟩ := isOf hZ e53 (G.2.2.2.1.ext O0.2)
    obtain ⟨_, _, ⟨T61, L61, k61, n61⟩, -, X61, ⟨Lc61, hQ61, l61, y61, z61⟩, st61⟩ := X53.virtualBack hx (y := (⟨"com/example/libfnseq/libfnseq/NumericValue$Relation", "converse", "()Lcom/example/libfnseq/libfnseq/NumericValue$Relation;"⟩ : MethodName)) (z := (⟨"com/example/libfnseq/libfnseq/NumericValue$Relation", "converse", "()Lcom/example/libfnseq/libfnseq/NumericValue$Relation;"⟩ : MethodName)) hown (mvT hZ hw8) (mvT hZ hw9) (notFace_of_selects (args := #[]) (mvT hZ hw11)) (mvT hZ hw11) (mvT hZ hw10) (by decide) (backOf (W := 0) (rmCB l Z a0 hw [] wE wB wA G  h0 n0 O0 ) hZ hw12 hw6 (by decide) (by decide)) q61a q61c (g := (mkF m 8 #[.val (.int ip), .val (.int iq), .val (.int ia), .val (.int ib), .val (.ref wB), .unset, .unset, .unset, .unset, .unset, .unset, .unset, .unset] [(.ref wB)])) rfl (by rw [hml]; rfl) (Steps.refl _) (argsL := []) (rest := []) (lenOf pd_1 rfl) rfl (by show 2 * 0 + _ ≤ _; exact Nat.le_of_eq rfl) (hb hby at_8) (fun _ _ => ⟨rfl, e53, (by decide : 0 + 0 ≤ _), (by decide : 0 + 0 ≤ _)⟩)
    dsimp only [Pt.U, Pt.locs, Pt.cells, Pt.slots] at X61 l61 y61 z61 st61 hQ61
    subst l61 y61 z61
    obtain ⟨rfl, rfl, e61⟩ := hQ61
    try rw [List.append_nil] at X61
    refine Go.by' (fun t k => st61.trans k) ?_
    show Go p.tables e below Pf (T61.setTop (mkF m 11 #[.val (.int ip), .val (.int iq), .val (.int ia), .val (.int ib), .val (.ref wB), .unset, .unset, .unset, .unset, .unset, .unset, .unset, .unset] [(.ref wA)]))
    refine Go.by' (fun t k => (XS.astore X61.here hx rfl (hb hby at_11) rfl rfl (l' := #[.val (.int ip), .val (.int iq), .val (.int ia), .val (.int ib), .val (.ref wB), .val (.ref wA), .unset, .unset, .unset, .unset, .unset, .unset, .unset]) rfl (XS.aload X61.here hx rfl (hb hby at_13) rfl rfl (XS.ifnonnullYes X61.here hx rfl (pc0 := 15) (pc' := 20) rfl (hb hby at_15) rfl (by decide) (by decide) (XS.iloadN X61.here hx rfl (hb hby at_20) rfl (XS.i2dS X61.here hx rfl (hb hby at_21) rfl rfl (XS.dstore X61.here hx rfl (hb hby at_22) rfl (l' := #[.val (.int ip), .val (.int iq), .val (.int ia), .val (.int ib), .val (.ref wB), .val (.ref wA), .val (.double (FP.i2d ia)), .second, .unset, .unset, .unset, .unset, .unset]) rfl k))))))) ?_
    show Go p.tables e below Pf (T61.setTop (mkF m 24 #[.val (.int ip), .val (.int iq), .val (.int ia), .val (.int ib), .val (.ref wB), .val (.ref wA), .val (.double (FP.i2d ia)), .second, .unset, .unset, .unset, .unset, .unset] []))
    refine Go.by' (fun t k => (XS.iloadN X61.here hx rfl (hb hby at_24) rfl (XS.i2dS X61.here hx rfl (hb hby at_25) rfl rfl (XS.dstore X61.here hx rfl (hb hby at_26) rfl (l' := #[.val (.int ip), .val (.int iq), .val (.int ia), .val (.int ib), .val (.ref wB), .val (.ref wA), .val (.double (FP.i2d ia)), .second, .val (.double (FP.i2d ib)), .second, .unset, .unset, .unset]) rfl (XS.aload X61.here hx rfl (hb hby at_28) rfl rfl (XS.iloadN X61.here hx rfl (hb hby at_30) rfl k)))))) ?_
    show Go p.tables e below Pf (T61.setTop (mkF m 31 #[.val (.int ip), .val (.int iq), .val (.int ia), .val (.int ib), .val (.ref wB), .val (.ref wA), .val (.double (FP.i2d ia)), .second, .val (.double (FP.i2d ib)), .second, .unset, .unset, .unset] [(.int iq), (.ref wA)]))
    obtain ⟨cq62, kq62, q62a, q62b, q62c⟩ := isOf hZ e61 (G.2.2.2.2.2.1.ext O0.2)
    obtain ⟨_, _, ⟨T62, L62, k62, n62⟩, -, X62, ⟨Lc62, hQ62, l62, y62, z62⟩, st62⟩ := X61.virtualBack hx (y := (⟨"com/example/libfnseq/libfnseq/NumericValue$Relation", "holds", "(I)Z"⟩ : MethodName)) (z := (⟨"com/example/libfnseq/libfnseq/NumericValue$Relation", "holds", "(I)Z"⟩ : MethodName)) hown (mvT hZ hw18) (mvT hZ hw19) (notFace_of_selects (args := #[]) (mvT hZ hw21)) (mvT hZ hw21) (mvT hZ hw20) (by decide) (backOf (W := 0) (rmHA l Z a0 hw [] wE wB wA G iq h0 n0 O0 ) hZ hw22 hw6 (by decide) (by decide)) q62a q62c (g := (mkF m 31 #[.val (.int ip), .val (.int iq), .val (.int ia), .val (.int ib), .val (.ref wB), .val (.ref wA), .val (.double (FP.i2d ia)), .second, .val (.double (FP.i2d ib)), .second, .unset, .unset, .unset] [(.int iq), (.ref wA)])) rfl (by rw [hml]; rfl) (Steps.refl _) (argsL := [(.int iq)]) (rest := []) (lenOf pd_2 rfl) rfl (by show 2 * 0 + _ ≤ _; exact Nat.le_of_eq rfl) (hb hby at_31) (fun _ _ => ⟨rfl, e61, (by decide : 0 + 0 ≤ _), (by decide : 0 + 0 ≤ _)⟩)
    dsimp only [Pt.U, Pt.locs, Pt.cells, Pt.slots] at X62 l62 y62 z62 st62 hQ62
    subst l62 y62 z62
    obtain ⟨r_62, rfl, rfl, e62, r62_0⟩ := hQ62
    try rw [List.append_nil] at X62
    refine Go.by' (fun t k => st62.trans k) ?_
    show Go p.tables e below Pf (T62.setTop (mkF m 34 #[.val (.int ip), .val (.int iq), .val (.int ia), .val (.int ib), .val (.ref wB), .val (.ref wA), .val (.double (FP.i2d ia)), .second, .val (.double (FP.i2d ib)), .second, .unset, .unset, .unset] [(.int r_62)]))
    refine Go.by' (fun t k => (XS.aload X62.here hx rfl (hb hby at_34) rfl rfl (XS.iloadN X62.here hx rfl (hb hby at_36) rfl k))) ?_
    show Go p.tables e below Pf (T62.setTop (mkF m 37 #[.val (.int ip), .val (.int iq), .val (.int ia), .val (.int ib), .val (.ref wB), .val (.ref wA), .val (.double (FP.i2d ia)), .second, .val (.double (FP.i2d ib)), .second, .unset, .unset, .unset] [(.int iq), (.ref wB), (.int r_62)]))
    obtain ⟨_, _, ⟨T63, L63, k63, n63⟩, -, X63, ⟨Lc63, hQ63, l63, y63, z63⟩, st63⟩ := Jvm.LawKit.callS X62 hx (y := (⟨"com/example/libfnseq/libfnseq/RelationConversePinLaw", "swapped", "(I)I"⟩ : MethodName)) hown (mvT hZ hw23) (mvT hZ hw24) (mvT hZ hw2) (mvT hZ hw25) (by decide) (backOf (W := 2) (rmSw l Z a0 hw [] wE wB wA G iq h0 n0 O0 ) hZ hw25 hw2 (by decide) (by decide)) (g := (mkF m 37 #[.val (.int ip), .val (.int iq), .val (.int ia), .val (.int ib), .val (.ref wB), .val (.ref wA), .val (.double (FP.i2d ia)), .second, .val (.double (FP.i2d ib)), .second, .unset, .unset, .unset] [(.int iq), (.ref wB), (.int r_62)])) rfl (by rw [hml]; rfl) (argsL := [(.int iq)]) (rest := [(.ref wB), (.int r_62)]) (lenOf pd_3 rfl) rfl (by show 2 * 0 + _ ≤ _; exact Nat.le_of_eq rfl) (hb hby at_37) (fun _ _ => ⟨rfl, e62, (by decide : 0 + 0 ≤ _), (by decide : 0 + 0 ≤ _)⟩)
    dsimp only [Pt.U, Pt.locs, Pt.cells, Pt.slots] at X63 l63 y63 z63 st63 hQ63
    subst l63 y63 z63
    obtain ⟨r_63, rfl, rfl, e63, r63_0⟩ := hQ63
    try rw [List.append_nil] at X63
    refine Go.by' st63 ?_
    show Go p.tables e below Pf (T63.setTop (mkF m 40 #[.val (.int ip), .val (.int iq), .val (.int ia), .val (.int ib), .val (.ref wB), .val (.ref wA), .val (.double (FP.i2d ia)), .second, .val (.double (FP.i2d ib)), .second, .unset, .unset, .unset] [(.int r_63), (.ref wB), (.int r_62)]))
    obtain ⟨cq64, kq64, q64a, q64b, q64c⟩ := isOf hZ e63 (G.2.2.2.1.ext O0.2)
    obtain ⟨_, _, ⟨T64, L64, k64, n64⟩, -, X64, ⟨Lc64, hQ64, l64, y64, z64⟩, st64⟩ := X63.virtualBack hx (y := (⟨"com/example/libfnseq/libfnseq/NumericValue$Relation", "holds", "(I)Z"⟩ : MethodName)) (z := (⟨"com/example/libfnseq/libfnseq/NumericValue$Relation", "holds", "(I)Z"⟩ : MethodName)) hown (mvT hZ hw18) (mvT hZ hw19) (notFace_of_selects (args := #[]) (mvT hZ hw21)) (mvT hZ hw21) (mvT hZ hw20) (by decide) (backOf (W := 1) (rmHB l Z a0 hw [] wE wB wA G r_63 h0 n0 O0 ) hZ hw22 hw6 (by decide) (by decide)) q64a q64c (g := (mkF m 40 #[.val (.int ip), .val (.int iq), .val (.int ia), .val (.int ib), .val (.ref wB), .val (.ref wA), .val (.double (FP.i2d ia)), .second, .val (.double (FP.i2d ib)), .second, .unset, .unset, .unset] [(.int r_63), (.ref wB), (.int r_62)])) rfl (by rw [hml]; rfl) (Steps.refl _) (argsL := [(.int r_63)]) (rest := [(.int r_62)]) (lenOf pd_2 rfl) rfl (by show 2 * 0 + _ ≤ _; exact Nat.le_of_eq rfl) (hb hby at_40) (fun _ _ => ⟨rfl, e63, (by decide : 0 + 0 ≤ _), (by decide : 0 + 0 ≤ _)⟩)
    dsimp only [Pt.U, Pt.locs, Pt.cells, Pt.slots] at X64 l64 y64 z64 st64 hQ64
    subst l64 y64 z64
    obtain ⟨r_64, rfl, rfl, e64, r64_0⟩ := hQ64
    try rw [List.append_nil] at X64
    refine Go.by' (fun t k => st64.trans k) ?_
    obtain rfl : r_62 = r_64 := by
      have := own_i0; have := own_i1; have := own_im; have hs := r63_0
      simp only [Int32.lt_iff_toInt_lt, ← Int32.toInt_inj] at r62_0 r64_0 hs ⊢
      omega
    show Go p.tables e below Pf (T64.setTop (mkF m 43 #[.val (.int ip), .val (.int iq), .val (.int ia), .val (.int ib), .val (.ref wB), .val (.ref wA), .val (.double (FP.i2d ia)), .second, .val (.double (FP.i2d ib)), .second, .unset, .unset, .unset] [(.int r_62), (.int r_62)]))
    refine Go.by' (fun t k => (XS.icmpNo X64.here hx rfl (hb hby at_43) rfl (teq rfl).2 (XS.iconst X64.here hx rfl (hb hby at_46) (XS.goto X64.here hx rfl (pc0 := 47) (pc' := 51) rfl (hb hby at_47) (by decide) (by decide) (XS.istore X64.here hx rfl (hb hby at_51) rfl (l' := #[.val (.int ip), .val (.int iq), .val (.int ia), .val (.int ib), .val (.ref wB), .val (.ref wA), .val (.double (FP.i2d ia)), .second, .val (.double (FP.i2d ib)), .second, .val (.int (1 : Int32)), .unset, .unset]) rfl (XS.aload X64.here hx rfl (hb hby at_53) rfl rfl (XS.dload X64.here hx rfl (hb hby at_55) rfl k))))))) ?_
    show Go p.tables e below Pf (T64.setTop (mkF m 57 #[.val (.int ip), .val (.int iq), .val (.int ia), .val (.int ib), .val (.ref wB), .val (.ref wA), .val (.double (FP.i2d ia)), .second, .val (.double (FP.i2d ib)), .second, .val (.int (1 : Int32)), .unset, .unset] [(.double (FP.i2d ia)), (.ref wA)]))
    refine Go.by' (fun t k => (XS.dload X64.here hx rfl (hb hby at_57) rfl k)) ?_
    show Go p.tables e below Pf (T64.setTop (mkF m 59 #[.val (.int ip), .val (.int iq), .val (.int ia), .val (.int ib), .val (.ref wB), .val (.ref wA), .val (.double (FP.i2d ia)), .second, .val (.double (FP.i2d ib)), .second, .val (.int (1 : Int32)), .unset, .unset] [(.double (FP.i2d ib)), (.double (FP.i2d ia)), (.ref wA)]))
    obtain ⟨cq65, kq65, q65a, q65b, q65c⟩ := isOf hZ e64 (G.2.2.2.2.2.1.ext O0.2)
    obtain ⟨_, _, ⟨T65, L65, k65, n65⟩, -, X65, ⟨Lc65, hQ65, l65, y65, z65⟩, st65⟩ := X64.virtualBack hx (y := (⟨"com/example/libfnseq/libfnseq/NumericValue$Relation", "holds", "(DD)Z"⟩ : MethodName)) (z := (⟨"com/example/libfnseq/libfnseq/NumericValue$Relation", "holds", "(DD)Z"⟩ : MethodName)) hown (mvT hZ hw26) (mvT hZ hw27) (notFace_of_selects (args := #[]) (mvT hZ hw29)) (mvT hZ hw29) (mvT hZ hw28) (by decide) (backOf (W := 0) (rmDA l Z a0 hw [] wE wB wA G ((FP.i2d ia)) ((FP.i2d ib)) h0 n0 O0 ) hZ hw30 hw6 (by decide) (by decide)) q65a q65c (g := (mkF m 59 #[.val (.int ip), .val (.int iq), .val (.int ia), .val (.int ib), .val (.ref wB), .val (.ref wA), .val (.double (FP.i2d ia)), .second, .val (.double (FP.i2d ib)), .second, .val (.int (1 : Int32)), .unset, .unset] [(.double (FP.i2d ib)), (.double (FP.i2d ia)), (.ref wA)])) rfl (by rw [hml]; rfl) (Steps.refl _) (argsL := [(.double (FP.i2d ia)), (.double (FP.i2d ib))]) (rest := []) (lenOf pd_4 rfl) rfl (by show 2 * 0 + _ ≤ _; exact Nat.le_of_eq rfl) (hb hby at_59) (fun _ _ => ⟨rfl, e64, (by decide : 0 + 0 ≤ _), (by decide : 0 + 0 ≤ _)⟩)
    dsimp only [Pt.U, Pt.locs, Pt.cells, Pt.slots] at X65 l65 y65 z65 st65 hQ65
    subst l65 y65 z65
    obtain ⟨r_65, rfl, rfl, e65, r65_0⟩ := hQ65
    try rw [List.append_nil] at X65
    refine Go.by' (fun t k => st65.trans k) ?_
    show Go p.tables e below Pf (T65.setTop (mkF m 62 #[.val (.int ip), .val (.int iq), .val (.int ia), .val (.int ib), .val (.ref wB), .val (.ref wA), .val (.double (FP.i2d ia)), .second, .val (.double (FP.i2d ib)), .second, .val (.int (1 : Int32)), .unset, .unset] [(.int r_65)]))
    refine Go.by' (fun t k => (XS.aload X65.here hx rfl (hb hby at_62) rfl rfl (XS.dload X65.here hx rfl (hb hby at_64) rfl (XS.dload X65.here hx rfl (hb hby at_66) rfl k)))) ?_
    show Go p.tables e below Pf (T65.setTop (mkF m 68 #[.val (.int ip), .val (.int iq), .val (.int ia), .val (.int ib), .val (.ref wB), .val (.ref wA), .val (.double (FP.i2d ia)), .second, .val (.double (FP.i2d ib)), .second, .val (.int (1 : Int32)), .unset, .unset] [(.double (FP.i2d ia)), (.double (FP.i2d ib)), (.ref wB), (.int r_65)]))
    obtain ⟨cq66, kq66, q66a, q66b, q66c⟩ := isOf hZ e65 (G.2.2.2.1.ext O0.2)
    obtain ⟨_, _, ⟨T66, L66, k66, n66⟩, -, X66, ⟨Lc66, hQ66, l66, y66, z66⟩, st66⟩ := X65.virtualBack hx (y := (⟨"com/example/libfnseq/libfnseq/NumericValue$Relation", "holds", "(DD)Z"⟩ : MethodName)) (z := (⟨"com/example/libfnseq/libfnseq/NumericValue$Relation", "holds", "(DD)Z"⟩ : MethodName)) hown (mvT hZ hw26) (mvT hZ hw27) (notFace_of_selects (args := #[]) (mvT hZ hw29)) (mvT hZ hw29) (mvT hZ hw28) (by decide) (backOf (W := 1) (rmDB l Z a0 hw [] wE wB wA G ((FP.i2d ib)) ((FP.i2d ia)) h0 n0 O0 ) hZ hw30 hw6 (by decide) (by decide)) q66a q66c (g := (mkF m 68 #[.val (.int ip), .val (.int iq), .val (.int ia), .val (.int ib), .val (.ref wB), .val (.ref wA), .val (.double (FP.i2d ia)), .second, .val (.double (FP.i2d ib)), .second, .val (.int (1 : Int32)), .unset, .unset] [(.double (FP.i2d ia)), (.double (FP.i2d ib)), (.ref wB), (.int r_65)])) rfl (by rw [hml]; rfl) (Steps.refl _) (argsL := [(.double (FP.i2d ib)), (.double (FP.i2d ia))]) (rest := [(.int r_65)]) (lenOf pd_4 rfl) rfl (by show 2 * 0 + _ ≤ _; exact Nat.le_of_eq rfl) (hb hby at_68) (fun _ _ => ⟨rfl, e65, (by decide : 0 + 0 ≤ _), (by decide : 0 + 0 ≤ _)⟩)
    dsimp only [Pt.U, Pt.locs, Pt.cells, Pt.slots] at X66 l66 y66 z66 st66 hQ66
    subst l66 y66 z66
    obtain ⟨r_66, rfl, rfl, e66, r66_0⟩ := hQ66
    try rw [List.append_nil] at X66
    refine Go.by' (fun t k => st66.trans k) ?_
    obtain rfl : r_65 = r_66 := by
      have q1 := own_l0 (FP.i2d ia) (FP.i2d ib); have q2 := own_gl (FP.i2d ia) (FP.i2d ib); have q3 := own_gl (FP.i2d ib) (FP.i2d ia)
      rcases r65_0 with ⟨a1, rfl⟩ | ⟨a1, rfl⟩ <;> rcases r66_0 with ⟨a2, rfl⟩ | ⟨a2, rfl⟩ <;> first | rfl | (exfalso; revert a1 a2; simp only [q1, q2, q3]; exact fun a b => (by first | exact a b | exact b a))
    show Go p.tables e below Pf (T66.setTop (mkF m 71 #[.val (.int ip), .val (.int iq), .val (.int ia), .val (.int ib), .val (.ref wB), .val (.ref wA), .val (.double (FP.i2d ia)), .second, .val (.double (FP.i2d ib)), .second, .val (.int (1 : Int32)), .unset, .unset] [(.int r_65), (.int r_65)]))
    refine Go.by' (fun t k => (XS.icmpNo X66.here hx rfl (hb hby at_71) rfl (teq rfl).2 (XS.iconst X66.here hx rfl (hb hby at_74) (XS.goto X66.here hx rfl (pc0 := 75) (pc' := 79) rfl (hb hby at_75) (by decide) (by decide) (XS.istore X66.here hx rfl (hb hby at_79) rfl (l' := #[.val (.int ip), .val (.int iq), .val (.int ia), .val (.int ib), .val (.ref wB), .val (.ref wA), .val (.double (FP.i2d ia)), .second, .val (.double (FP.i2d ib)), .second, .val (.int (1 : Int32)), .val (.int (1 : Int32)), .unset]) rfl (XS.aload X66.here hx rfl (hb hby at_81) rfl rfl k)))))) ?_
    show Go p.tables e below Pf (T66.setTop (mkF m 83 #[.val (.int ip), .val (.int iq), .val (.int ia), .val (.int ib), .val (.ref wB), .val (.ref wA), .val (.double (FP.i2d ia)), .second, .val (.double (FP.i2d ib)), .second, .val (.int (1 : Int32)), .val (.int (1 : Int32)), .unset] [(.ref wA)]))
    obtain ⟨cq67, kq67, q67a, q67b, q67c⟩ := isOf hZ e66 (G.2.2.2.2.2.1.ext O0.2)
    obtain ⟨_, _, ⟨T67, L67, k67, n67⟩, -, X67, ⟨Lc67, hQ67, l67, y67, z67⟩, st67⟩ := X66.virtualBack hx (y := (⟨"com/example/libfnseq/libfnseq/NumericValue$Relation", "converse", "()Lcom/example/libfnseq/libfnseq/NumericValue$Relation;"⟩ : MethodName)) (z := (⟨"com/example/libfnseq/libfnseq/NumericValue$Relation", "converse", "()Lcom/example/libfnseq/libfnseq/NumericValue$Relation;"⟩ : MethodName)) hown (mvT hZ hw8) (mvT hZ hw9) (notFace_of_selects (args := #[]) (mvT hZ hw11)) (mvT hZ hw11) (mvT hZ hw10) (by decide) (backOf (W := 0) (rmCA l Z a0 hw [] wE wB wA G  h0 n0 O0 ) hZ hw12 hw6 (by decide) (by decide)) q67a q67c (g := (mkF m 83 #[.val (.int ip), .val (.int iq), .val (.int ia), .val (.int ib), .val (.ref wB), .val (.ref wA), .val (.double (FP.i2d ia)), .second, .val (.double (FP.i2d ib)), .second, .val (.int (1 : Int32)), .val (.int (1 : Int32)), .unset] [(.ref wA)])) rfl (by rw [hml]; rfl) (Steps.refl _) (argsL := []) (rest := []) (lenOf pd_1 rfl) rfl (by show 2 * 0 + _ ≤ _; exact Nat.le_of_eq rfl) (hb hby at_83) (fun _ _ => ⟨rfl, e66, (by decide : 0 + 0 ≤ _), (by decide : 0 + 0 ≤ _)⟩)
    dsimp only [Pt.U, Pt.locs, Pt.cells, Pt.slots] at X67 l67 y67 z67 st67 hQ67
    subst l67 y67 z67
    obtain ⟨rfl, rfl, e67⟩ := hQ67
    try rw [List.append_nil] at X67
    refine Go.by' (fun t k => st67.trans k) ?_
    show Go p.tables e below Pf (T67.setTop (mkF m 86 #[.val (.int ip), .val (.int iq), .val (.int ia), .val (.int ib), .val (.ref wB), .val (.ref wA), .val (.double (FP.i2d ia)), .second, .val (.double (FP.i2d ib)), .second, .val (.int (1 : Int32)), .val (.int (1 : Int32)), .unset] [(.ref wB)]))
    refine Go.by' (fun t k => (XS.aload X67.here hx rfl (hb hby at_86) rfl rfl k)) ?_
    show Go p.tables e below Pf (T67.setTop (mkF m 88 #[.val (.int ip), .val (.int iq), .val (.int ia), .val (.int ib), .val (.ref wB), .val (.ref wA), .val (.double (FP.i2d ia)), .second, .val (.double (FP.i2d ib)), .second, .val (.int (1 : Int32)), .val (.int (1 : Int32)), .unset] [(.ref wB), (.ref wB)]))
    refine Go.by' (fun t k => Jvm.RoadKit.acmp (g := (mkF m 88 #[.val (.int ip), .val (.int iq), .val (.int ia), .val (.int ib), .val (.ref wB), .val (.ref wA), .val (.double (FP.i2d ia)), .second, .val (.double (FP.i2d ib)), .second, .val (.int (1 : Int32)), .val (.int (1 : Int32)), .unset] [(.ref wB), (.ref wB)])) X67 hx rfl rfl rfl (pc0 := 88) (pc' := 91) (same := true) rfl (hb hby at_88) rfl (decide_eq_true rfl) (by decide) (by decide) k) ?_
    show Go p.tables e below Pf (T67.setTop (mkF m 91 #[.val (.int ip), .val (.int iq), .val (.int ia), .val (.int ib), .val (.ref wB), .val (.ref wA), .val (.double (FP.i2d ia)), .second, .val (.double (FP.i2d ib)), .second, .val (.int (1 : Int32)), .val (.int (1 : Int32)), .unset] []))
    refine Go.by' (fun t k => (XS.iconst X67.here hx rfl (hb hby at_91) (XS.goto X67.here hx rfl (pc0 := 92) (pc' := 96) rfl (hb hby at_92) (by decide) (by decide) (XS.istore X67.here hx rfl (hb hby at_96) rfl (l' := #[.val (.int ip), .val (.int iq), .val (.int ia), .val (.int ib), .val (.ref wB), .val (.ref wA), .val (.double (FP.i2d ia)), .second, .val (.double (FP.i2d ib)), .second, .val (.int (1 : Int32)), .val (.int (1 : Int32)), .val (.int (1 : Int32))]) rfl (XS.iload X67.here hx rfl (hb hby at_98) rfl (XS.ifNo X67.here hx rfl (hb hby at_100) rfl ((if0 _ _).trans (feq (by decide)).1) (XS.iload X67.here hx rfl (hb hby at_103) rfl k))))))) ?_
    show Go p.tables e below Pf (T67.setTop (mkF m 105 #[.val (.int ip), .val (.int iq), .val (.int ia), .val (.int ib), .val (.ref wB), .val (.ref wA), .val (.double (FP.i2d ia)), .second, .val (.double (FP.i2d ib)), .second, .val (.int (1 : Int32)), .val (.int (1 : Int32)), .val (.int (1 : Int32))] [(.int (1 : Int32))]))
    refine Go.by' (fun t k => (XS.ifNo X67.here hx rfl (hb hby at_105) rfl ((if0 _ _).trans (feq (by decide)).1) (XS.iload X67.here hx rfl (hb hby at_108) rfl (XS.ifNo X67.here hx rfl (hb hby at_110) rfl ((if0 _ _).trans (feq (by decide)).1) (XS.iconst X67.here hx rfl (hb hby at_113) (XS.goto X67.here hx rfl (pc0 := 114) (pc' := 118) rfl (hb hby at_114) (by decide) (by decide) k)))))) ?_
    show Go p.tables e below Pf (T67.setTop (mkF m 118 #[.val (.int ip), .val (.int iq), .val (.int ia), .val (.int ib), .val (.ref wB), .val (.ref wA), .val (.double (FP.i2d ia)), .second, .val (.double (FP.i2d ib)), .second, .val (.int (1 : Int32)), .val (.int (1 : Int32)), .val (.int (1 : Int32))] [(.int (1 : Int32))]))
    rw [hPf]
    exact Go.retI' X67 hx hret hlk (by simp) rfl (hb hby at_118) (by decide) (by decide) ⟨rfl, rfl, e67⟩
  · show Go p.tables e below Pf (T53.setTop (mkF m 4 #[.val (.int ip), .val (.int iq), .val (.int ia), .val (.int ib), .unset, .unset, .unset, .unset, .unset, .unset, .unset, .unset, .unset] [(.ref wA)]))
    refine Go.by' (fun t k => (XS.astore X53.here hx rfl (hb hby at_4) rfl rfl (l' := #[.val (.int ip), .val (.int iq), .val (.int ia), .val (.int ib), .val (.ref wA), .unset, .unset, .unset, .unset, .unset, .unset, .unset, .unset]) rfl (XS.aload X53.here hx rfl (hb hby at_6) rfl rfl k))) ?_
    show Go p.tables e below Pf (T53.setTop (mkF m 8 #[.val (.int ip), .val (.int iq), .val (.int ia), .val (.int ib), .val (.ref wA), .unset, .unset, .unset, .unset, .unset, .unset, .unset, .unset] [(.ref wA)]))
    obtain ⟨cq68, kq68, q68a, q68b, q68c⟩ := isOf hZ e53 (G.2.2.2.2.2.1.ext O0.2)
    obtain ⟨_, _, ⟨T68, L68, k68, n68⟩, -, X68, ⟨Lc68, hQ68, l68, y68, z68⟩, st68⟩ := X53.virtualBack hx (y := (⟨"com/example/libfnseq/libfnseq/NumericValue$Relation", "converse", "()Lcom/example/libfnseq/libfnseq/NumericValue$Relation;"⟩ : MethodName)) (z := (⟨"com/example/libfnseq/libfnseq/NumericValue$Relation", "converse", "()Lcom/example/libfnseq/libfnseq/NumericValue$Relation;"⟩ : MethodName)) hown (mvT hZ hw8) (mvT hZ hw9) (notFace_of_selects (args := #[]) (mvT hZ hw11)) (mvT hZ hw11) (mvT hZ hw10) (by decide) (backOf (W := 0) (rmCA l Z a0 hw [] wE wB wA G  h0 n0 O0 ) hZ hw12 hw6 (by decide) (by decide)) q68a q68c (g := (mkF m 8 #[.val (.int ip), .val (.int iq), .val (.int ia), .val (.int ib), .val (.ref wA), .unset, .unset, .unset, .unset, .unset, .unset, .unset, .unset] [(.ref wA)])) rfl (by rw [hml]; rfl) (Steps.refl _) (argsL := []) (rest := []) (lenOf pd_1 rfl) rfl (by show 2 * 0 + _ ≤ _; exact Nat.le_of_eq rfl) (hb hby at_8) (fun _ _ => ⟨rfl, e53, (by decide : 0 + 0 ≤ _), (by decide : 0 + 0 ≤ _)⟩)
    dsimp only [Pt.U, Pt.locs, Pt.cells, Pt.slots] at X68 l68 y68 z68 st68 hQ68
    subst l68 y68 z68
    obtain ⟨rfl, rfl, e68⟩ := hQ68
    try rw [List.append_nil] at X68
    refine Go.by' (fun t k => st68.trans k) ?_
    show Go p.tables e below Pf (T68.setTop (mkF m 11 #[.val (.int ip), .val (.int iq), .val (.int ia), .val (.int ib), .val (.ref wA), .unset, .unset, .unset, .unset, .unset, .unset, .unset, .unset] [(.ref wB)]))
    refine Go.by' (fun t k => (XS.astore X68.here hx rfl (hb hby at_11) rfl rfl (l' := #[.val (.int ip), .val (.int iq), .val (.int ia), .val (.int ib), .val (.ref wA), .val (.ref wB), .unset, .unset, .unset, .unset, .unset, .unset, .unset]) rfl (XS.aload X68.here hx rfl (hb hby at_13) rfl rfl (XS.ifnonnullYes X68.here hx rfl (pc0 := 15) (pc' := 20) rfl (hb hby at_15) rfl (by decide) (by decide) (XS.iloadN X68.here hx rfl (hb hby at_20) rfl (XS.i2dS X68.here hx rfl (hb hby at_21) rfl rfl (XS.dstore X68.here hx rfl (hb hby at_22) rfl (l' := #[.val (.int ip), .val (.int iq), .val (.int ia), .val (.int ib), .val (.ref wA), .val (.ref wB), .val (.double (FP.i2d ia)), .second, .unset, .unset, .unset, .unset, .unset]) rfl k))))))) ?_
    show Go p.tables e below Pf (T68.setTop (mkF m 24 #[.val (.int ip), .val (.int iq), .val (.int ia), .val (.int ib), .val (.ref wA), .val (.ref wB), .val (.double (FP.i2d ia)), .second, .unset, .unset, .unset, .unset, .unset] []))
    refine Go.by' (fun t k => (XS.iloadN X68.here hx rfl (hb hby at_24) rfl (XS.i2dS X68.here hx rfl (hb hby at_25) rfl rfl (XS.dstore X68.here hx rfl (hb hby at_26) rfl (l' := #[.val (.int ip), .val (.int iq), .val (.int ia), .val (.int ib), .val (.ref wA), .val (.ref wB), .val (.double (FP.i2d ia)), .second, .val (.double (FP.i2d ib)), .second, .unset, .unset, .unset]) rfl (XS.aload X68.here hx rfl (hb hby at_28) rfl rfl (XS.iloadN X68.here hx rfl (hb hby at_30) rfl k)))))) ?_
    show Go p.tables e below Pf (T68.setTop (mkF m 31 #[.val (.int ip), .val (.int iq), .val (.int ia), .val (.int ib), .val (.ref wA), .val (.ref wB), .val (.double (FP.i2d ia)), .second, .val (.double (FP.i2d ib)), .second, .unset, .unset, .unset] [(.int iq), (.ref wB)]))
    obtain ⟨cq69, kq69, q69a, q69b, q69c⟩ := isOf hZ e68 (G.2.2.2.1.ext O0.2)
    obtain ⟨_, _, ⟨T69, L69, k69, n69⟩, -, X69, ⟨Lc69, hQ69, l69, y69, z69⟩, st69⟩ := X68.virtualBack hx (y := (⟨"com/example/libfnseq/libfnseq/NumericValue$Relation", "holds", "(I)Z"⟩ : MethodName)) (z := (⟨"com/example/libfnseq/libfnseq/NumericValue$Relation", "holds", "(I)Z"⟩ : MethodName)) hown (mvT hZ hw18) (mvT hZ hw19) (notFace_of_selects (args := #[]) (mvT hZ hw21)) (mvT hZ hw21) (mvT hZ hw20) (by decide) (backOf (W := 0) (rmHB l Z a0 hw [] wE wB wA G iq h0 n0 O0 ) hZ hw22 hw6 (by decide) (by decide)) q69a q69c (g := (mkF m 31 #[.val (.int ip), .val (.int iq), .val (.int ia), .val (.int ib), .val (.ref wA), .val (.ref wB), .val (.double (FP.i2d ia)), .second, .val (.double (FP.i2d ib)), .second, .unset, .unset, .unset] [(.int iq), (.ref wB)])) rfl (by rw [hml]; rfl) (Steps.refl _) (argsL := [(.int iq)]) (rest := []) (lenOf pd_2 rfl) rfl (by show 2 * 0 + _ ≤ _; exact Nat.le_of_eq rfl) (hb hby at_31) (fun _ _ => ⟨rfl, e68, (by decide : 0 + 0 ≤ _), (by decide : 0 + 0 ≤ _)⟩)
    dsimp only [Pt.U, Pt.locs, Pt.cells, Pt.slots] at X69 l69 y69 z69 st69 hQ69
    subst l69 y69 z69
    obtain ⟨r_69, rfl, rfl, e69, r69_0⟩ := hQ69
    try rw [List.append_nil] at X69
    refine Go.by' (fun t k => st69.trans k) ?_
    show Go p.tables e below Pf (T69.setTop (mkF m 34 #[.val (.int ip), .val (.int iq), .val (.int ia), .val (.int ib), .val (.ref wA), .val (.ref wB), .val (.double (FP.i2d ia)), .second, .val (.double (FP.i2d ib)), .second, .unset, .unset, .unset] [(.int r_69)]))
    refine Go.by' (fun t k => (XS.aload X69.here hx rfl (hb hby at_34) rfl rfl (XS.iloadN X69.here hx rfl (hb hby at_36) rfl k))) ?_
    show Go p.tables e below Pf (T69.setTop (mkF m 37 #[.val (.int ip), .val (.int iq), .val (.int ia), .val (.int ib), .val (.ref wA), .val (.ref wB), .val (.double (FP.i2d ia)), .second, .val (.double (FP.i2d ib)), .second, .unset, .unset, .unset] [(.int iq), (.ref wA), (.int r_69)]))
    obtain ⟨_, _, ⟨T70, L70, k70, n70⟩, -, X70, ⟨Lc70, hQ70, l70, y70, z70⟩, st70⟩ := Jvm.LawKit.callS X69 hx (y := (⟨"com/example/libfnseq/libfnseq/RelationConversePinLaw", "swapped", "(I)I"⟩ : MethodName)) hown (mvT hZ hw23) (mvT hZ hw24) (mvT hZ hw2) (mvT hZ hw25) (by decide) (backOf (W := 2) (rmSw l Z a0 hw [] wE wB wA G iq h0 n0 O0 ) hZ hw25 hw2 (by decide) (by decide)) (g := (mkF m 37 #[.val (.int ip), .val (.int iq), .val (.int ia), .val (.int ib), .val (.ref wA), .val (.ref wB), .val (.double (FP.i2d ia)), .second, .val (.double (FP.i2d ib)), .second, .unset, .unset, .unset] [(.int iq), (.ref wA), (.int r_69)])) rfl (by rw [hml]; rfl) (argsL := [(.int iq)]) (rest := [(.ref wA), (.int r_69)]) (lenOf pd_3 rfl) rfl (by show 2 * 0 + _ ≤ _; exact Nat.le_of_eq rfl) (hb hby at_37) (fun _ _ => ⟨rfl, e69, (by decide : 0 + 0 ≤ _), (by decide : 0 + 0 ≤ _)⟩)
    dsimp only [Pt.U, Pt.locs, Pt.cells, Pt.slots] at X70 l70 y70 z70 st70 hQ70
    subst l70 y70 z70
    obtain ⟨r_70, rfl, rfl, e70, r70_0⟩ := hQ70
    try rw [List.append_nil] at X70
    refine Go.by' st70 ?_
    show Go p.tables e below Pf (T70.setTop (mkF m 40 #[.val (.int ip), .val (.int iq), .val (.int ia), .val (.int ib), .val (.ref wA), .val (.ref wB), .val (.double (FP.i2d ia)), .second, .val (.double (FP.i2d ib)), .second, .unset, .unset, .unset] [(.int r_70), (.ref wA), (.int r_69)]))
    obtain ⟨cq71, kq71, q71a, q71b, q71c⟩ := isOf hZ e70 (G.2.2.2.2.2.1.ext O0.2)
    obtain ⟨_, _, ⟨T71, L71, k71, n71⟩, -, X71, ⟨Lc71, hQ71, l71, y71, z71⟩, st71⟩ := X70.virtualBack hx (y := (⟨"com/example/libfnseq/libfnseq/NumericValue$Relation", "holds", "(I)Z"⟩ : MethodName)) (z := (⟨"com/example/libfnseq/libfnseq/NumericValue$Relation", "holds", "(I)Z"⟩ : MethodName)) hown (mvT hZ hw18) (mvT hZ hw19) (notFace_of_selects (args := #[]) (mvT hZ hw21)) (mvT hZ hw21) (mvT hZ hw20) (by decide) (backOf (W := 1) (rmHA l Z a0 hw [] wE wB wA G r_70 h0 n0 O0 ) hZ hw22 hw6 (by decide) (by decide)) q71a q71c (g := (mkF m 40 #[.val (.int ip), .val (.int iq), .val (.int ia), .val (.int ib), .val (.ref wA), .val (.ref wB), .val (.double (FP.i2d ia)), .second, .val (.double (FP.i2d ib)), .second, .unset, .unset, .unset] [(.int r_70), (.ref wA), (.int r_69)])) rfl (by rw [hml]; rfl) (Steps.refl _) (argsL := [(.int r_70)]) (rest := [(.int r_69)]) (lenOf pd_2 rfl) rfl (by show 2 * 0 + _ ≤ _; exact Nat.le_of_eq rfl) (hb hby at_40) (fun _ _ => ⟨rfl, e70, (by decide : 0 + 0 ≤ _), (by decide : 0 + 0 ≤ _)⟩)
    dsimp only [Pt.U, Pt.locs, Pt.cells, Pt.slots] at X71 l71 y71 z71 st71 hQ71
    subst l71 y71 z71
    obtain ⟨r_71, rfl, rfl, e71, r71_0⟩ := hQ71
    try rw [List.append_nil] at X71
    refine Go.by' (fun t k => st71.trans k) ?_
    obtain rfl : r_69 = r_71 := by
      have := own_i0; have := own_i1; have := own_im; have hs := r70_0
      simp only [Int32.lt_iff_toInt_lt, ← Int32.toInt_inj] at r69_0 r71_0 hs ⊢
      omega
    show Go p.tables e below Pf (T71.setTop (mkF m 43 #[.val (.int ip), .val (.int iq), .val (.int ia), .val (.int ib), .val (.ref wA), .val (.ref wB), .val (.double (FP.i2d ia)), .second, .val (.double (FP.i2d ib)), .second, .unset, .unset, .unset] [(.int r_69), (.int r_69)]))
    refine Go.by' (fun t k => (XS.icmpNo X71.here hx rfl (hb hby at_43) rfl (teq rfl).2 (XS.iconst X71.here hx rfl (hb hby at_46) (XS.goto X71.here hx rfl (pc0 := 47) (pc' := 51) rfl (hb hby at_47) (by decide) (by decide) (XS.istore X71.here hx rfl (hb hby at_51) rfl (l' := #[.val (.int ip), .val (.int iq), .val (.int ia), .val (.int ib), .val (.ref wA), .val (.ref wB), .val (.double (FP.i2d ia)), .second, .val (.double (FP.i2d ib)), .second, .val (.int (1 : Int32)), .unset, .unset]) rfl (XS.aload X71.here hx rfl (hb hby at_53) rfl rfl (XS.dload X71.here hx rfl (hb hby at_55) rfl k))))))) ?_
    show Go p.tables e below Pf (T71.setTop (mkF m 57 #[.val (.int ip), .val (.int iq), .val (.int ia), .val (.int ib), .val (.ref wA), .val (.ref wB), .val (.double (FP.i2d ia)), .second, .val (.double (FP.i2d ib)), .second, .val (.int (1 : Int32)), .unset, .unset] [(.double (FP.i2d ia)), (.ref wB)]))
    refine Go.by' (fun t k => (XS.dload X71.here hx rfl (hb hby at_57) rfl k)) ?_
    show Go p.tables e below Pf (T71.setTop (mkF m 59 #[.val (.int ip), .val (.int iq), .val (.int ia), .val (.int ib), .val (.ref wA), .val (.ref wB), .val (.double (FP.i2d ia)), .second, .val (.double (FP.i2d ib)), .second, .val (.int (1 : Int32)), .unset, .unset] [(.double (FP.i2d ib)), (.double (FP.i2d ia)), (.ref wB)]))
    obtain ⟨cq72, kq72, q72a, q72b, q72c⟩ := isOf hZ e71 (G.2.2.2.1.ext O0.2)
    obtain ⟨_, _, ⟨T72, L72, k72, n72⟩, -, X72, ⟨Lc72, hQ72, l72, y72, z72⟩, st72⟩ := X71.virtualBack hx (y := (⟨"com/example/libfnseq/libfnseq/NumericValue$Relation", "holds", "(DD)Z"⟩ : MethodName)) (z := (⟨"com/example/libfnseq/libfnseq/NumericValue$Relation", "holds", "(DD)Z"⟩ : MethodName)) hown (mvT hZ hw26) (mvT hZ hw27) (notFace_of_selects (args := #[]) (mvT hZ hw29)) (mvT hZ hw29) (mvT hZ hw28) (by decide) (backOf (W := 0) (rmDB l Z a0 hw [] wE wB wA G ((FP.i2d ia)) ((FP.i2d ib)) h0 n0 O0 ) hZ hw30 hw6 (by decide) (by decide)) q72a q72c (g := (mkF m 59 #[.val (.int ip), .val (.int iq), .val (.int ia), .val (.int ib), .val (.ref wA), .val (.ref wB), .val (.double (FP.i2d ia)), .second, .val (.double (FP.i2d ib)), .second, .val (.int (1 : Int32)), .unset, .unset] [(.double (FP.i2d ib)), (.double (FP.i2d ia)), (.ref wB)])) rfl (by rw [hml]; rfl) (Steps.refl _) (argsL := [(.double (FP.i2d ia)), (.double (FP.i2d ib))]) (rest := []) (lenOf pd_4 rfl) rfl (by show 2 * 0 + _ ≤ _; exact Nat.le_of_eq rfl) (hb hby at_59) (fun _ _ => ⟨rfl, e71, (by decide : 0 + 0 ≤ _), (by decide : 0 + 0 ≤ _)⟩)
    dsimp only [Pt.U, Pt.locs, Pt.cells, Pt.slots] at X72 l72 y72 z72 st72 hQ72
    subst l72 y72 z72
    obtain ⟨r_72, rfl, rfl, e72, r72_0⟩ := hQ72
    try rw [List.append_nil] at X72
    refine Go.by' (fun t k => st72.trans k) ?_
    show Go p.tables e below Pf (T72.setTop (mkF m 62 #[.val (.int ip), .val (.int iq), .val (.int ia), .val (.int ib), .val (.ref wA), .val (.ref wB), .val (.double (FP.i2d ia)), .second, .val (.double (FP.i2d ib)), .second, .val (.int (1 : Int32)), .unset, .unset] [(.int r_72)]))
    refine Go.by' (fun t k => (XS.aload X72.here hx rfl (hb hby at_62) rfl rfl (XS.dload X72.here hx rfl (hb hby at_64) rfl (XS.dload X72.here hx rfl (hb hby at_66) rfl k)))) ?_
    show Go p.tables e below Pf (T72.setTop (mkF m 68 #[.val (.int ip), .val (.int iq), .val (.int ia), .val (.int ib), .val (.ref wA), .val (.ref wB), .val (.double (FP.i2d ia)), .second, .val (.double (FP.i2d ib)), .second, .val (.int (1 : Int32)), .unset, .unset] [(.double (FP.i2d ia)), (.double (FP.i2d ib)), (.ref wA), (.int r_72)]))
    obtain ⟨cq73, kq73, q73a, q73b, q73c⟩ := isOf hZ e72 (G.2.2.2.2.2.1.ext O0.2)
    obtain ⟨_, _, ⟨T73, L73, k73, n73⟩, -, X73, ⟨Lc73, hQ73, l73, y73, z73⟩, st73⟩ := X72.virtualBack hx (y := (⟨"com/example/libfnseq/libfnseq/NumericValue$Relation", "holds", "(DD)Z"⟩ : MethodName)) (z := (⟨"com/example/libfnseq/libfnseq/NumericValue$Relation", "holds", "(DD)Z"⟩ : MethodName)) hown (mvT hZ hw26) (mvT hZ hw27) (notFace_of_selects (args := #[]) (mvT hZ hw29)) (mvT hZ hw29) (mvT hZ hw28) (by decide) (backOf (W := 1) (rmDA l Z a0 hw [] wE wB wA G ((FP.i2d ib)) ((FP.i2d ia)) h0 n0 O0 ) hZ hw30 hw6 (by decide) (by decide)) q73a q73c (g := (mkF m 68 #[.val (.int ip), .val (.int iq), .val (.int ia), .val (.int ib), .val (.ref wA), .val (.ref wB), .val (.double (FP.i2d ia)), .second, .val (.double (FP.i2d ib)), .second, .val (.int (1 : Int32)), .unset, .unset] [(.double (FP.i2d ia)), (.double (FP.i2d ib)), (.ref wA), (.int r_72)])) rfl (by rw [hml]; rfl) (Steps.refl _) (argsL := [(.double (FP.i2d ib)), (.double (FP.i2d ia))]) (rest := [(.int r_72)]) (lenOf pd_4 rfl) rfl (by show 2 * 0 + _ ≤ _; exact Nat.le_of_eq rfl) (hb hby at_68) (fun _ _ => ⟨rfl, e72, (by decide : 0 + 0 ≤ _), (by decide : 0 + 0 ≤ _)⟩)
    dsimp only [Pt.U, Pt.locs, Pt.cells, Pt.slots] at X73 l73 y73 z73 st73 hQ73
    subst l73 y73 z73
    obtain ⟨r_73, rfl, rfl, e73, r73_0⟩ := hQ73
    try rw [List.append_nil] at X73
    refine Go.by' (fun t k => st73.trans k) ?_
    obtain rfl : r_72 = r_73 := by
      have q1 := own_l0 (FP.i2d ia) (FP.i2d ib); have q2 := own_gl (FP.i2d ia) (FP.i2d ib); have q3 := own_gl (FP.i2d ib) (FP.i2d ia)
      rcases r72_0 with ⟨a1, rfl⟩ | ⟨a1, rfl⟩ <;> rcases r73_0 with ⟨a2, rfl⟩ | ⟨a2, rfl⟩ <;> first | rfl | (exfalso; revert a1 a2; simp only [q1, q2, q3]; exact fun a b => (by first | exact a b | exact b a))
    show Go p.tables e below Pf (T73.setTop (mkF m 71 #[.val (.int ip), .val (.int iq), .val (.int ia), .val (.int ib), .val (.ref wA), .val (.ref wB), .val (.double (FP.i2d ia)), .second, .val (.double (FP.i2d ib)), .second, .val (.int (1 : Int32)), .unset, .unset] [(.int r_72), (.int r_72)]))
    refine Go.by' (fun t k => (XS.icmpNo X73.here hx rfl (hb hby at_71) rfl (teq rfl).2 (XS.iconst X73.here hx rfl (hb hby at_74) (XS.goto X73.here hx rfl (pc0 := 75) (pc' := 79) rfl (hb hby at_75) (by decide) (by decide) (XS.istore X73.here hx rfl (hb hby at_79) rfl (l' := #[.val (.int ip), .val (.int iq), .val (.int ia), .val (.int ib), .val (.ref wA), .val (.ref wB), .val (.double (FP.i2d ia)), .second, .val (.double (FP.i2d ib)), .second, .val (.int (1 : Int32)), .val (.int (1 : Int32)), .unset]) rfl (XS.aload X73.here hx rfl (hb hby at_81) rfl rfl k)))))) ?_
    show Go p.tables e below Pf (T73.setTop (mkF m 83 #[.val (.int ip), .val (.int iq), .val (.int ia), .val (.int ib), .val (.ref wA), .val (.ref wB), .val (.double (FP.i2d ia)), .second, .val (.double (FP.i2d ib)), .second, .val (.int (1 : Int32)), .val (.int (1 : Int32)), .unset] [(.ref wB)]))
    obtain ⟨cq74, kq74, q74a, q74b, q74c⟩ := isOf hZ e73 (G.2.2.2.1.ext O0.2)
    obtain ⟨_, _, ⟨T74, L74, k74, n74⟩, -, X74, ⟨Lc74, hQ74, l74, y74, z74⟩, st74⟩ := X73.virtualBack hx (y := (⟨"com/example/libfnseq/libfnseq/NumericValue$Relation", "converse", "()Lcom/example/libfnseq/libfnseq/NumericValue$Relation;"⟩ : MethodName)) (z := (⟨"com/example/libfnseq/libfnseq/NumericValue$Relation", "converse", "()Lcom/example/libfnseq/libfnseq/NumericValue$Relation;"⟩ : MethodName)) hown (mvT hZ hw8) (mvT hZ hw9) (notFace_of_selects (args := #[]) (mvT hZ hw11)) (mvT hZ hw11) (mvT hZ hw10) (by decide) (backOf (W := 0) (rmCB l Z a0 hw [] wE wB wA G  h0 n0 O0 ) hZ hw12 hw6 (by decide) (by decide)) q74a q74c (g := (mkF m 83 #[.val (.int ip), .val (.int iq), .val (.int ia), .val (.int ib), .val (.ref wA), .val (.ref wB), .val (.double (FP.i2d ia)), .second, .val (.double (FP.i2d ib)), .second, .val (.int (1 : Int32)), .val (.int (1 : Int32)), .unset] [(.ref wB)])) rfl (by rw [hml]; rfl) (Steps.refl _) (argsL := []) (rest := []) (lenOf pd_1 rfl) rfl (by show 2 * 0 + _ ≤ _; exact Nat.le_of_eq rfl) (hb hby at_83) (fun _ _ => ⟨rfl, e73, (by decide : 0 + 0 ≤ _), (by decide : 0 + 0 ≤ _)⟩)
    dsimp only [Pt.U, Pt.locs, Pt.cells, Pt.slots] at X74 l74 y74 z74 st74 hQ74
    subst l74 y74 z74
    obtain ⟨rfl, rfl, e74⟩ := hQ74
    try rw [List.append_nil] at X74
    refine Go.by' (fun t k => st74.trans k) ?_
    show Go p.tables e below Pf (T74.setTop (mkF m 86 #[.val (.int ip), .val (.int iq), .val (.int ia), .val (.int ib), .val (.ref wA), .val (.ref wB), .val (.double (FP.i2d ia)), .second, .val (.double (FP.i2d ib)), .second, .val (.int (1 : Int32)), .val (.int (1 : Int32)), .unset] [(.ref wA)]))
    refine Go.by' (fun t k => (XS.aload X74.here hx rfl (hb hby at_86) rfl rfl k)) ?_
    show Go p.tables e below Pf (T74.setTop (mkF m 88 #[.val (.int ip), .val (.int iq), .val (.int ia), .val (.int ib), .val (.ref wA), .val (.ref wB), .val (.double (FP.i2d ia)), .second, .val (.double (FP.i2d ib)), .second, .val (.int (1 : Int32)), .val (.int (1 : Int32)), .unset] [(.ref wA), (.ref wA)]))
    refine Go.by' (fun t k => Jvm.RoadKit.acmp (g := (mkF m 88 #[.val (.int ip), .val (.int iq), .val (.int ia), .val (.int ib), .val (.ref wA), .val (.ref wB), .val (.double (FP.i2d ia)), .second, .val (.double (FP.i2d ib)), .second, .val (.int (1 : Int32)), .val (.int (1 : Int32)), .unset] [(.ref wA), (.ref wA)])) X74 hx rfl rfl rfl (pc0 := 88) (pc' := 91) (same := true) rfl (hb hby at_88) rfl (decide_eq_true rfl) (by decide) (by decide) k) ?_
    show Go p.tables e below Pf (T74.setTop (mkF m 91 #[.val (.int ip), .val (.int iq), .val (.int ia), .val (.int ib), .val (.ref wA), .val (.ref wB), .val (.double (FP.i2d ia)), .second, .val (.double (FP.i2d ib)), .second, .val (.int (1 : Int32)), .val (.int (1 : Int32)), .unset] []))
    refine Go.by' (fun t k => (XS.iconst X74.here hx rfl (hb hby at_91) (XS.goto X74.here hx rfl (pc0 := 92) (pc' := 96) rfl (hb hby at_92) (by decide) (by decide) (XS.istore X74.here hx rfl (hb hby at_96) rfl (l' := #[.val (.int ip), .val (.int iq), .val (.int ia), .val (.int ib), .val (.ref wA), .val (.ref wB), .val (.double (FP.i2d ia)), .second, .val (.double (FP.i2d ib)), .second, .val (.int (1 : Int32)), .val (.int (1 : Int32)), .val (.int (1 : Int32))]) rfl (XS.iload X74.here hx rfl (hb hby at_98) rfl (XS.ifNo X74.here hx rfl (hb hby at_100) rfl ((if0 _ _).trans (feq (by decide)).1) (XS.iload X74.here hx rfl (hb hby at_103) rfl k))))))) ?_
    show Go p.tables e below Pf (T74.setTop (mkF m 105 #[.val (.int ip), .val (.int iq), .val (.int ia), .val (.int ib), .val (.ref wA), .val (.ref wB), .val (.double (FP.i2d ia)), .second, .val (.double (FP.i2d ib)), .second, .val (.int (1 : Int32)), .val (.int (1 : Int32)), .val (.int (1 : Int32))] [(.int (1 : Int32))]))
    refine Go.by' (fun t k => (XS.ifNo X74.here hx rfl (hb hby at_105) rfl ((if0 _ _).trans (feq (by decide)).1) (XS.iload X74.here hx rfl (hb hby at_108) rfl (XS.ifNo X74.here hx rfl (hb hby at_110) rfl ((if0 _ _).trans (feq (by decide)).1) (XS.iconst X74.here hx rfl (hb hby at_113) (XS.goto X74.here hx rfl (pc0 := 114) (pc' := 118) rfl (hb hby at_114) (by decide) (by decide) k)))))) ?_
    show Go p.tables e below Pf (T74.setTop (mkF m 118 #[.val (.int ip), .val (.int iq), .val (.int ia), .val (.int ib), .val (.ref wA), .val (.ref wB), .val (.double (FP.i2d ia)), .second, .val (.double (FP.i2d ib)), .second, .val (.int (1 : Int32)), .val (.int (1 : Int32)), .val (.int (1 : Int32))] [(.int (1 : Int32))]))
    rw [hPf]
    exact Go.retI' X74 hx hret hlk (by simp) rfl (hb hby at_118) (by decide) (by decide) ⟨rfl, rfl, e74⟩
set_option maxRecDepth 65536 in
set_option maxHeartbeats 40000000 in
theorem comes_1 {Post : Tables → Env → Array Value → State → Outcome → State → Prop} (hpost : ∀ tb e args s v u, (limb_1_1.after args s (.returned v) u = true ∧ limb_1_2.after args s (.returned v) u = true ∧ True) → FrameEnd s (.returned v) u (Jvm.fieldLocs frame_1_writes args s ++ Jvm.arrayLocs frame_1_arrays args s ++ Jvm.staticLocs frame_1_statics s) 0 0 → Post tb e args s (.returned v) u) :
    ArmFor flags0 classFile x code maxLocals ret World_1 tables_1 room_1 Calls_1 rest_1 Pre_1 Post := by
  intro l hfl _ _ p e ha hc hk s m args below hf hA hF happ hP
  obtain ⟨hcalls, hrest, hpre⟩ := hP
  obtain ⟨-, -, -, hnamed, -, -, -, hat⟩ := (Spec.applies_iff hf).mp happ
  obtain ⟨hg, hn⟩ := and_e (Cond.before_iff.mp (show (Jvm.Cond.and given_1 narrow_1).before args s = true from hpre))
  obtain ⟨ga1, gb1⟩ := and_e hg
  obtain ⟨ga2, gb2⟩ := and_e gb1
  obtain ⟨ga3, gb3⟩ := and_e gb2
  obtain ⟨ga4, gb4⟩ := and_e gb3
  obtain ⟨w0, w1, w2, w3, rfl⟩ : ∃ w0 w1 w2 w3 : Value, args = #[w0, w1, w2, w3] := by
    have hs : args.size = 4 := by simpa [Cond.value, given_1] using ga1
    obtain ⟨L⟩ := args
    match L, hs with
    | [w0, w1, w2, w3], _ => exact ⟨w0, w1, w2, w3, rfl⟩
  have hw := fun d (hd : d ∈ tables_1) => atoms_spec (ws := Jvm.Cond.code x code maxLocals ret :: tables_1) hat d (List.mem_cons_of_mem _ hd)
  have hfit : Fit s := fun {y c} hc i hi => by
    obtain ⟨ha, rfl⟩ := Array.getElem?_eq_some_iff.mp hc
    have q := List.all_eq_true.mp ((Array.all_eq_true_iff_forall_mem.mp hF) _ (Array.getElem_mem ha)) i (List.mem_range.mpr hi)
    simpa [Array.getElem?_eq_getElem hi] using q
  obtain ⟨ip, ei0⟩ := is_v ga2
  obtain rfl : w0 = (.int ip) := Option.some.inj ei0
  obtain ⟨iq, ei1⟩ := is_v ga3
  obtain rfl : w1 = (.int iq) := Option.some.inj ei1
  obtain ⟨ia, ei2⟩ := is_v ga4
  obtain rfl : w2 = (.int ia) := Option.some.inj ei2
  obtain ⟨ib, ei3⟩ := is_v gb4
  obtain rfl : w3 = (.int ib) := Option.some.inj ei3
  obtain ⟨na1, nb1⟩ := and_e hn
  obtain ⟨na2, nb2⟩ := and_e nb1
  obtain ⟨na3, nb3⟩ := and_e nb2
  obtain ⟨na4, nb4⟩ := and_e nb3
  obtain ⟨na5, nb5⟩ := and_e nb4
  obtain ⟨wE, evwE⟩ := exa_v na1
  have SwE := Sta.start evwE (Or.inr ⟨(hw _ (List.mem_of_getElem? (i := 6) rfl)), (hw _ (List.mem_of_getElem? (i := 7) rfl))⟩)
  have AwE := Exa.start evwE na1
  have FwE := Fld.start ((fld_at evwE).symm.trans (eqv_i (Term.int_eval _) na3))
  obtain ⟨wB, evwB⟩ := exa_v na2
  have SwB := Sta.start evwB (Or.inr ⟨(hw _ (List.mem_of_getElem? (i := 6) rfl)), (hw _ (List.mem_of_getElem? (i := 14) rfl))⟩)
  have AwB := Exa.start evwB na2
  have FwB := Fld.start ((fld_at evwB).symm.trans (eqv_i (Term.int_eval _) na4))
  obtain ⟨wA, evwA⟩ := exa_v na5
  have SwA := Sta.start evwA (Or.inr ⟨(hw _ (List.mem_of_getElem? (i := 6) rfl)), (hw _ (List.mem_of_getElem? (i := 16) rfl))⟩)
  have AwA := Exa.start evwA na5
  have FwA := Fld.start ((fld_at evwA).symm.trans (eqv_i (Term.int_eval _) nb5))
  have G : Gh s wE wB wA := ⟨SwE, AwE, SwB, AwB, SwA, AwA, FwE.ne FwB (by decide), FwE.ne FwA (by decide), FwB.ne FwA (by decide)⟩
  obtain ⟨n, o, h1, h2, h3, _, L, rfl, hQ, hq⟩ := rm0 l s _ hw tables_1 wE wB wA G ip iq ia ib s.heap s.heap.size (Old.start s)  p e ha hc hk s m _ below hf ((Spec.applies_iff_loose hf).mp happ).1 ⟨rfl, State.Warmed39.refl s, rfl⟩ trivial
  obtain ⟨rfl, rfl, -⟩ := hQ
  have N := Fr.nil s.heap.size
  refine ⟨n, _, h1, h2, h3, hpost _ _ _ _ _ _ ⟨Cond.after_iff.mpr rfl, Cond.after_iff.mpr (eq_i res_at (Term.int_eval (1)) rfl), trivial⟩ ⟨hq.1, hq.2.1, (hq.2.2.sift fun y hy => Or.inr (N y hy)).mono (by decide) (by decide)⟩⟩
theorem main_1_1 : Claimed_1_1 := comes_1 fun _ _ _ _ _ _ h hF => ⟨h.1, hF⟩
theorem main_1_2 : Claimed_1_2 := comes_1 fun _ _ _ _ _ _ h hF => ⟨h.2.1, hF⟩
end Jvm.Pilot.@@N@@
namespace Jvm.Pilot.@@N@@
open Jvm Jvm.ClassFile Sem Op Lib Jvm.Free Jvm.Stand Jvm.Pilot.@@N@@.Jvm.D
/-! MADE BY PROGRAM (witnessworld.py) out of the Statement's table words and the real class files: 12 classes; the members and pool entries that the words name. The judged class is class 1, her method 3. -/
namespace start1
open Jvm.ClassFile
def u (s : String) : CpInfo := .utf8 (stringToUtf16 s)
/-- a pool by its gaps: so many unusable entries, then the entry; so many at the end -/
def gap : Nat → List CpInfo → List CpInfo
  | 0, r => r
  | n + 1, r => .unusable :: gap n r
def poolList (es : List (Nat × CpInfo)) (last : Nat) : List CpInfo := es.foldr (fun e r => gap e.1 (e.2 :: r)) (gap last [])
def pool (es : List (Nat × CpInfo)) (last : Nat) : Array CpInfo := ⟨poolList es last⟩
def fileOf (pool : Array CpInfo) (this : Nat) (attrs : Array Attribute := #[]) (ms : Array MethodInfo := #[]) (fl : Nat := 33) (sup : Nat := 0) (ifs : Array Nat := #[]) (fds : Array FieldInfo := #[]) : ClassFile where
  minorVersion := 0
  majorVersion := 65
  constantPool := pool
  accessFlags := fl
  thisClass := this
  superClass := sup
  interfaces := ifs
  fields := fds
  methods := ms
  attributes := attrs
def plain (name : String) (sup : Option ClassId) : Class where
  name := name
  kind := .ordinary
  loader := none
  accessFlags := 33
  super := sup
  interfaces := #[]
  cf := none
  fields := #[]
  methods := #[]
  instanceTypes := #[]
  staticTypes := #[]
  resolved := #[]
  callSites := []
  init := .initialized
  statics := none
  mirror := none

def pool0 : Array CpInfo := pool [(5, u "<init>"), (0, u "()V"), (1, .class_ 10), (1, u "java/lang/Object")] 113

def k0m0 : Method := { name := "<init>", desc := "()V", sig := { parameters := [], returnType := none }, accessFlags := 1, code := none }
/-- java/lang/Object -/
def k0 : Class := { plain "java/lang/Object" none with
  accessFlags := 33
  interfaces := #[]
  cf := some (fileOf pool0 8 #[] #[{ accessFlags := 1, nameIndex := 5, descriptorIndex := 6, attributes := #[] }] 33 0 #[] #[])
  fields := #[]
  methods := #[k0m0]
  instanceTypes := #[]
  staticTypes := #[]
  resolved := Array.replicate 124 none
  statics := none }

def pool1 : Array CpInfo := pool [(2, .class_ 4), (1, u "java/lang/Object"), (0, u "<init>"), (0, u "()V"), (0, .integer 2147483647), (0, .fieldref 9 10), (0, .class_ 11), (0, .nameAndType 12 13), (0, u "com/example/libfnseq/libfnseq/NumericValue$Relation"), (0, u "EQUAL"), (0, u "Lcom/example/libfnseq/libfnseq/NumericValue$Relation;"), (0, .fieldref 9 15), (0, .nameAndType 16 13), (0, u "BELOW"), (0, .fieldref 9 18), (0, .nameAndType 19 13), (0, u "ABOVE"), (0, .methodref 21 22), (0, .class_ 23), (0, .nameAndType 24 25), (0, u "com/example/libfnseq/libfnseq/RelationConversePinLaw"), (0, u "pick"), (0, u "(I)Lcom/example/libfnseq/libfnseq/NumericValue$Relation;"), (0, .methodref 9 27), (0, .nameAndType 28 29), (0, u "converse"), (0, u "()Lcom/example/libfnseq/libfnseq/NumericValue$Relation;"), (0, .methodref 9 31), (0, .nameAndType 32 33), (0, u "holds"), (0, u "(I)Z"), (0, .methodref 21 35), (0, .nameAndType 36 37), (0, u "swapped"), (0, u "(I)I"), (0, .methodref 9 39), (0, .nameAndType 32 40), (0, u "(DD)Z"), (3, u "law"), (0, u "(IIII)Z")] 6

def k1m0 : Method := { name := "<init>", desc := "()V", sig := { parameters := [], returnType := none }, accessFlags := 2, code := none }
def k1c1 : Code := { maxStack := 2, maxLocals := 3, code := method_2_code, exceptionTable := #[], attributes := #[] }
def k1m1 : Method := { name := "pick", desc := "(I)Lcom/example/libfnseq/libfnseq/NumericValue$Relation;", sig := { parameters := [.int], returnType := some (.object "com/example/libfnseq/libfnseq/NumericValue$Relation") }, accessFlags := 10, code := some k1c1 }
def k1c2 : Code := { maxStack := 1, maxLocals := 2, code := method_3_code, exceptionTable := #[], attributes := #[] }
def k1m2 : Method := { name := "swapped", desc := "(I)I", sig := { parameters := [.int], returnType := some .int }, accessFlags := 10, code := some k1c2 }
def k1c3 : Code := { maxStack := 6, maxLocals := 13, code := code, exceptionTable := #[], attributes := #[] }
def k1m3 : Method := { name := "law", desc := "(IIII)Z", sig := { parameters := [.int, .int, .int, .int], returnType := some .boolean }, accessFlags := 9, code := some k1c3 }
/-- com/example/libfnseq/libfnseq/RelationConversePinLaw -/
def k1 : Class := { plain "com/example/libfnseq/libfnseq/RelationConversePinLaw" (some 0) with
  accessFlags := 49
  interfaces := #[]
  cf := some (fileOf pool1 21 #[] #[{ accessFlags := 2, nameIndex := 5, descriptorIndex := 6, attributes := #[] }, { accessFlags := 10, nameIndex := 24, descriptorIndex := 25, attributes := #[] }, { accessFlags := 10, nameIndex := 36, descriptorIndex := 37, attributes := #[] }, { accessFlags := 9, nameIndex := 44, descriptorIndex := 45, attributes := #[] }] 49 2 #[] #[])
  fields := #[]
  methods := #[k1m0, k1m1, k1m2, k1m3]
  instanceTypes := #[]
  staticTypes := #[]
  resolved := Array.replicate 52 none
  statics := none }

def pool2 : Array CpInfo := pool [(1, .class_ 2), (0, u "java/lang/constant/Constable"), (0, .class_ 4), (0, u "java/lang/Object")] 6

/-- java/lang/constant/Constable -/
def k2 : Class := { plain "java/lang/constant/Constable" (some 0) with
  accessFlags := 1537
  interfaces := #[]
  cf := some (fileOf pool2 1 #[] #[] 1537 3 #[] #[])
  fields := #[]
  methods := #[]
  instanceTypes := #[]
  staticTypes := #[]
  resolved := Array.replicate 11 none
  statics := none }

def pool3 : Array CpInfo := pool [(1, .class_ 2), (0, u "java/lang/Comparable"), (0, .class_ 4), (0, u "java/lang/Object")] 7

/-- java/lang/Comparable -/
def k3 : Class := { plain "java/lang/Comparable" (some 0) with
  accessFlags := 1537
  interfaces := #[]
  cf := some (fileOf pool3 1 #[] #[] 1537 3 #[] #[])
  fields := #[]
  methods := #[]
  instanceTypes := #[]
  staticTypes := #[]
  resolved := Array.replicate 12 none
  statics := none }

def pool4 : Array CpInfo := pool [(1, .class_ 2), (0, u "java/io/Serializable"), (0, .class_ 4), (0, u "java/lang/Object")] 2

/-- java/io/Serializable -/
def k4 : Class := { plain "java/io/Serializable" (some 0) with
  accessFlags := 1537
  interfaces := #[]
  cf := some (fileOf pool4 1 #[] #[] 1537 3 #[] #[])
  fields := #[]
  methods := #[]
  instanceTypes := #[]
  staticTypes := #[]
  resolved := Array.replicate 7 none
  statics := none }

def pool5 : Array CpInfo := pool [(2, .class_ 4), (1, u "java/lang/Enum"), (0, u "name"), (0, u "Ljava/lang/String;"), (2, u "ordinal"), (0, u "I"), (1, .class_ 14), (1, u "java/lang/Object"), (4, u "hash"), (86, .class_ 108), (1, u "java/lang/Enum$EnumDesc"), (2, .class_ 112), (0, u "java/lang/constant/Constable"), (0, .class_ 114), (0, u "java/lang/Comparable"), (0, .class_ 116), (0, u "java/io/Serializable")] 87

/-- java/lang/Enum -/
def k5 : Class := { plain "java/lang/Enum" (some 0) with
  accessFlags := 1057
  interfaces := #[2, 3, 4]
  cf := some (fileOf pool5 2 #[.nestMembers #[106]] #[] 1057 12 #[111, 113, 115] #[{ accessFlags := 18, nameIndex := 5, descriptorIndex := 6, attributes := #[] }, { accessFlags := 18, nameIndex := 9, descriptorIndex := 10, attributes := #[] }, { accessFlags := 2, nameIndex := 19, descriptorIndex := 10, attributes := #[] }])
  fields := #[{ name := "name", type := (.object "java/lang/String"), accessFlags := 18, slot := 0, constantValue := 0 }, { name := "ordinal", type := .int, accessFlags := 18, slot := 1, constantValue := 0 }, { name := "hash", type := .int, accessFlags := 2, slot := 2, constantValue := 0 }]
  methods := #[]
  instanceTypes := #[(.object "java/lang/String"), .int, .int]
  staticTypes := #[]
  resolved := Array.replicate 204 none
  statics := none }

def pool6 : Array CpInfo := pool [(1, .class_ 2), (0, u "com/example/libfnseq/libfnseq/NumericValue$Relation"), (0, .fieldref 1 4), (0, .nameAndType 5 6), (0, u "EQUAL"), (0, u "Lcom/example/libfnseq/libfnseq/NumericValue$Relation;"), (0, .fieldref 1 8), (0, .nameAndType 9 6), (0, u "BELOW"), (0, .fieldref 1 11), (0, .nameAndType 12 6), (0, u "ABOVE"), (2, u "$VALUES"), (0, u "[Lcom/example/libfnseq/libfnseq/NumericValue$Relation;"), (6, .class_ 25), (1, u "java/lang/Enum"), (21, u "converse"), (0, u "()Lcom/example/libfnseq/libfnseq/NumericValue$Relation;"), (1, u "holds"), (0, u "(I)Z"), (0, u "(DD)Z"), (5, .class_ 59), (0, u "com/example/libfnseq/libfnseq/NumericValue")] 2

def k6c0 : Code := { maxStack := 2, maxLocals := 2, code := prog_65_method_4_code, exceptionTable := #[], attributes := #[] }
def k6m0 : Method := { name := "converse", desc := "()Lcom/example/libfnseq/libfnseq/NumericValue$Relation;", sig := { parameters := [], returnType := some (.object "com/example/libfnseq/libfnseq/NumericValue$Relation") }, accessFlags := 0, code := some k6c0 }
def k6c1 : Code := { maxStack := 2, maxLocals := 3, code := prog_65_method_5_code, exceptionTable := #[], attributes := #[] }
def k6m1 : Method := { name := "holds", desc := "(I)Z", sig := { parameters := [.int], returnType := some .boolean }, accessFlags := 0, code := some k6c1 }
def k6c2 : Code := { maxStack := 4, maxLocals := 6, code := prog_65_method_6_code, exceptionTable := #[], attributes := #[] }
def k6m2 : Method := { name := "holds", desc := "(DD)Z", sig := { parameters := [.double, .double], returnType := some .boolean }, accessFlags := 0, code := some k6c2 }
/-- com/example/libfnseq/libfnseq/NumericValue$Relation -/
def k6 : Class := { plain "com/example/libfnseq/libfnseq/NumericValue$Relation" (some 5) with
  accessFlags := 16432
  interfaces := #[]
  cf := some (fileOf pool6 1 #[.nestHost 58] #[{ accessFlags := 0, nameIndex := 47, descriptorIndex := 48, attributes := #[] }, { accessFlags := 0, nameIndex := 50, descriptorIndex := 51, attributes := #[] }, { accessFlags := 0, nameIndex := 50, descriptorIndex := 52, attributes := #[] }] 16432 23 #[] #[{ accessFlags := 16409, nameIndex := 5, descriptorIndex := 6, attributes := #[] }, { accessFlags := 16409, nameIndex := 9, descriptorIndex := 6, attributes := #[] }, { accessFlags := 16409, nameIndex := 12, descriptorIndex := 6, attributes := #[] }, { accessFlags := 4122, nameIndex := 15, descriptorIndex := 16, attributes := #[] }])
  fields := #[{ name := "EQUAL", type := (.object "com/example/libfnseq/libfnseq/NumericValue$Relation"), accessFlags := 16409, slot := 0, constantValue := 0 }, { name := "BELOW", type := (.object "com/example/libfnseq/libfnseq/NumericValue$Relation"), accessFlags := 16409, slot := 1, constantValue := 0 }, { name := "ABOVE", type := (.object "com/example/libfnseq/libfnseq/NumericValue$Relation"), accessFlags := 16409, slot := 2, constantValue := 0 }, { name := "$VALUES", type := (.array (.object "com/example/libfnseq/libfnseq/NumericValue$Relation")), accessFlags := 4122, slot := 3, constantValue := 0 }]
  methods := #[k6m0, k6m1, k6m2]
  instanceTypes := #[(.object "java/lang/String"), .int, .int]
  staticTypes := #[(.object "com/example/libfnseq/libfnseq/NumericValue$Relation"), (.object "com/example/libfnseq/libfnseq/NumericValue$Relation"), (.object "com/example/libfnseq/libfnseq/NumericValue$Relation"), (.array (.object "com/example/libfnseq/libfnseq/NumericValue$Relation"))]
  resolved := Array.replicate 62 none
  statics := some 0 }

def pool7 : Array CpInfo := pool [(1, u "java/lang/Cloneable"), (0, .class_ 1), (0, u "java/lang/Object"), (0, .class_ 3)] 3

/-- java/lang/Cloneable -/
def k7 : Class := { plain "java/lang/Cloneable" (some 0) with
  accessFlags := 1537
  interfaces := #[]
  cf := some (fileOf pool7 2 #[] #[] 1537 4 #[] #[])
  fields := #[]
  methods := #[]
  instanceTypes := #[]
  staticTypes := #[]
  resolved := Array.replicate 8 none
  statics := none }

/-- the primitive byte -/
def k8 : Class := { plain "byte" none with kind := .primitive 'B', accessFlags := 0x411 }
/-- [B -/
def k9 : Class := { plain "[B" (some 0) with kind := .array 8 .byte, interfaces := #[7, 4], accessFlags := 1041 }

/-- the primitive int -/
def k10 : Class := { plain "int" none with kind := .primitive 'I', accessFlags := 0x411 }
/-- [I -/
def k11 : Class := { plain "[I" (some 0) with kind := .array 10 .int, interfaces := #[7, 4], accessFlags := 1041 }

def heap : Heap := #[{ cls := 6, slots := #[.ref 1, .ref 2, .ref 3, .null], vm := .statics 6 },
  { cls := 6, slots := #[.null, .int 0, .int 0], vm := .none },
  { cls := 6, slots := #[.null, .int 1, .int 0], vm := .none },
  { cls := 6, slots := #[.null, .int 2, .int 0], vm := .none }]
def classes : Array Class := #[k0, k1, k2, k3, k4, k5, k6, k7, k8, k9, k10, k11]
def interned : List (Array UInt16 × Addr) := []
def slotsUsed : Nat := 13
def theMethod : MethodId := ⟨1, 3⟩
def args0 : Array Value := #[.int 5, .int 7, .int 1, .int 2]
def aboutOver (below : List Frame) : State where
  vm := { classes := classes, interned := interned.toArray }
  heap := heap
  slotsUsed := slotsUsed
  threads := #[{ frames := .invoking theMethod args0 :: below }]
def below0 : List Frame := [.native { method := ⟨0, 0⟩, args := #[] }]
def about1 : State := aboutOver below0
def p0 : Program := .bare "" "" ""
def e0 : Env := launch0.env 0 0 0
theorem w_frames : about1.frames = Frame.invoking theMethod args0 :: below0 := rfl
set_option maxRecDepth 65536 in
theorem w_args : argsFit about1.vm theMethod args0 = true := by decide +kernel
set_option maxRecDepth 65536 in
theorem w_heap : heapFits about1 = true := by decide +kernel
set_option maxRecDepth 65536 in
theorem w_runnable : about1.curStatus? = some .runnable := by decide +kernel
set_option maxRecDepth 65536 in
theorem w_alone : about1.alone = true := by decide +kernel
set_option maxRecDepth 65536 in
theorem w_named : about1.methodNamed? x = some theMethod := by decide +kernel
set_option maxRecDepth 65536 in
theorem w_hears : about1.hears theMethod below0 = true := by decide +kernel
set_option maxRecDepth 65536 in
theorem w_ripe : about1.ripe theMethod args0 below0 = true := by decide +kernel
theorem w_running : about1.status = .running := rfl
set_option maxRecDepth 65536 in
theorem w_room : about1.hasRoom e0.platform room_1 = true :=
  launch0.hasRoom_least _ room_1 (by decide +kernel) (by decide +kernel) (by decide +kernel) (by decide +kernel) (by decide +kernel) (by decide +kernel)
theorem allAtoms_all (ts : List Jvm.Cond) (a : Array Jvm.Value) (st : Jvm.State) : (allAtoms ts).before a st = ts.all (fun c => c.before a st) := by
  induction ts with
  | nil => rfl
  | cons c t ih =>
    show (Jvm.Cond.and c (allAtoms t)).before a st = _
    rw [Jvm.Cond.before_and, ih, List.all_cons]
def words1 : List Jvm.Cond := Jvm.Cond.code x code maxLocals ret :: tables_1
/-- a 'code' word, met by the world's own term for the bytes: nothing is compared byte by byte -/
theorem code_word {y : MethodName} {bytes : ByteArray} {mx : Nat} {rt : Option FieldType} {a : Array Value} {s : State} {m : MethodId} {meth : Method} {c : Code} (h1 : s.methodNamed? y = some m) (h2 : s.vm.method? m = some meth) (h3 : meth.code = some c) (h4 : c.code = bytes)
    (h5 : (c.maxLocals == mx && c.exceptionTable.isEmpty && decide (c.maxStack ≤ mostOperands) && decide (meth.sig.returnType = rt) && !meth.locks && decide (parseMethodDescriptor y.desc = some meth.sig)) = true) : (Jvm.Cond.code y bytes mx rt).before a s = true := by
  simp only [Bool.and_eq_true, beq_iff_eq, Bool.not_eq_true', decide_eq_true_eq] at h5
  obtain ⟨⟨⟨⟨⟨g1, g2⟩, g3⟩, g4⟩, g5⟩, g6⟩ := h5
  simp [Cond.before, Cond.holds, Cond.value, h1, h2, h3, h4, g1, g2, g3, g4, g5, g6]
def isCode : Jvm.Cond → Bool
  | .code _ _ _ _ => true
  | _ => false
theorem all_split {L : List Jvm.Cond} {P : Jvm.Cond → Bool} (h1 : L.all (fun c => isCode c || P c) = true) (h2 : ∀ c ∈ L.filter isCode, P c = true) : L.all P = true := by
  refine List.all_eq_true.mpr fun c hc => ?_
  have h := List.all_eq_true.mp h1 c hc
  rcases Bool.eq_false_or_eq_true (isCode c) with hi | hi
  · exact h2 c (List.mem_filter.mpr ⟨hc, hi⟩)
  · simpa [hi] using h
set_option maxRecDepth 65536 in
theorem w_c0 : (Jvm.Cond.code x code maxLocals ret).before args0 about1 = true := code_word (m := ⟨1, 3⟩) (meth := k1m3) (c := k1c3) (by decide +kernel) rfl rfl rfl (by decide +kernel)
set_option maxRecDepth 65536 in
theorem w_c1 : (Jvm.Cond.code ({ cls := "com/example/libfnseq/libfnseq/RelationConversePinLaw", name := "pick", desc := "(I)Lcom/example/libfnseq/libfnseq/NumericValue$Relation;" } : Jvm.MethodName) method_2_code (3 : Nat) (Option.some (Jvm.ClassFile.FieldType.object "com/example/libfnseq/libfnseq/NumericValue$Relation"))).before args0 about1 = true := code_word (m := ⟨1, 1⟩) (meth := k1m1) (c := k1c1) (by decide +kernel) rfl rfl rfl (by decide +kernel)
set_option maxRecDepth 65536 in
theorem w_c2 : (Jvm.Cond.code ({ cls := "com/example/libfnseq/libfnseq/NumericValue$Relation", name := "converse", desc := "()Lcom/example/libfnseq/libfnseq/NumericValue$Relation;" } : Jvm.MethodName) prog_65_method_4_code (2 : Nat) (Option.some (Jvm.ClassFile.FieldType.object "com/example/libfnseq/libfnseq/NumericValue$Relation"))).before args0 about1 = true := code_word (m := ⟨6, 0⟩) (meth := k6m0) (c := k6c0) (by decide +kernel) rfl rfl rfl (by decide +kernel)
set_option maxRecDepth 65536 in
theorem w_c3 : (Jvm.Cond.code ({ cls := "com/example/libfnseq/libfnseq/NumericValue$Relation", name := "holds", desc := "(I)Z" } : Jvm.MethodName) prog_65_method_5_code (3 : Nat) (Option.some Jvm.ClassFile.FieldType.boolean)).before args0 about1 = true := code_word (m := ⟨6, 1⟩) (meth := k6m1) (c := k6c1) (by decide +kernel) rfl rfl rfl (by decide +kernel)
set_option maxRecDepth 65536 in
theorem w_c4 : (Jvm.Cond.code ({ cls := "com/example/libfnseq/libfnseq/RelationConversePinLaw", name := "swapped", desc := "(I)I" } : Jvm.MethodName) method_3_code (2 : Nat) (Option.some Jvm.ClassFile.FieldType.int)).before args0 about1 = true := code_word (m := ⟨1, 2⟩) (meth := k1m2) (c := k1c2) (by decide +kernel) rfl rfl rfl (by decide +kernel)
set_option maxRecDepth 65536 in
theorem w_c5 : (Jvm.Cond.code ({ cls := "com/example/libfnseq/libfnseq/NumericValue$Relation", name := "holds", desc := "(DD)Z" } : Jvm.MethodName) prog_65_method_6_code (6 : Nat) (Option.some Jvm.ClassFile.FieldType.boolean)).before args0 about1 = true := code_word (m := ⟨6, 2⟩) (meth := k6m2) (c := k6c2) (by decide +kernel) rfl rfl rfl (by decide +kernel)
def codes1 : List Jvm.Cond := [Jvm.Cond.code x code maxLocals ret, Jvm.Cond.code ({ cls := "com/example/libfnseq/libfnseq/RelationConversePinLaw", name := "pick", desc := "(I)Lcom/example/libfnseq/libfnseq/NumericValue$Relation;" } : Jvm.MethodName) method_2_code (3 : Nat) (Option.some (Jvm.ClassFile.FieldType.object "com/example/libfnseq/libfnseq/NumericValue$Relation")), Jvm.Cond.code ({ cls := "com/example/libfnseq/libfnseq/NumericValue$Relation", name := "converse", desc := "()Lcom/example/libfnseq/libfnseq/NumericValue$Relation;" } : Jvm.MethodName) prog_65_method_4_code (2 : Nat) (Option.some (Jvm.ClassFile.FieldType.object "com/example/libfnseq/libfnseq/NumericValue$Relation")), Jvm.Cond.code ({ cls := "com/example/libfnseq/libfnseq/NumericValue$Relation", name := "holds", desc := "(I)Z" } : Jvm.MethodName) prog_65_method_5_code (3 : Nat) (Option.some Jvm.ClassFile.FieldType.boolean), Jvm.Cond.code ({ cls := "com/example/libfnseq/libfnseq/RelationConversePinLaw", name := "swapped", desc := "(I)I" } : Jvm.MethodName) method_3_code (2 : Nat) (Option.some Jvm.ClassFile.FieldType.int), Jvm.Cond.code ({ cls := "com/example/libfnseq/libfnseq/NumericValue$Relation", name := "holds", desc := "(DD)Z" } : Jvm.MethodName) prog_65_method_6_code (6 : Nat) (Option.some Jvm.ClassFile.FieldType.boolean)]
set_option maxRecDepth 65536 in
theorem codes_eq : words1.filter isCode = codes1 := rfl
theorem w_codes : ∀ c ∈ words1.filter isCode, c.before args0 about1 = true := by
  rw [codes_eq]
  intro c hc
  simp only [codes1, List.mem_cons, List.not_mem_nil, or_false] at hc
  rcases hc with rfl | rfl | rfl | rfl | rfl | rfl
  · exact w_c0
  · exact w_c1
  · exact w_c2
  · exact w_c3
  · exact w_c4
  · exact w_c5
set_option maxRecDepth 65536 in
theorem w_t1 : (words1.take 24).all (fun c => isCode c || c.before args0 about1) = true := by decide +kernel
set_option maxRecDepth 65536 in
theorem w_t2 : (words1.drop 24).all (fun c => isCode c || c.before args0 about1) = true := by decide +kernel
theorem w_tables : (allAtoms (Jvm.Cond.code x code maxLocals ret :: tables_1)).before args0 about1 = true := by
  rw [allAtoms_all]
  show words1.all (fun c => c.before args0 about1) = true
  refine all_split ?_ w_codes
  rw [← List.take_append_drop 24 words1, List.all_append, w_t1, w_t2]
  rfl
set_option maxRecDepth 65536 in
theorem w_case : (Jvm.Cond.and given_1 narrow_1).before args0 about1 = true := by decide +kernel
theorem w_applies : (headSpec (Jvm.Cond.code x code maxLocals ret :: tables_1) room_1).applies x e0.platform about1 = true :=
  (Spec.applies_iff w_frames).mpr ⟨w_running, w_runnable, w_alone, w_named, w_hears, w_ripe, w_room, w_tables⟩
theorem atStart : AtStart classFile x code maxLocals ret World_1 tables_1 room_1 Calls_1 rest_1 Pre_1 launch0 p0 e0 about1 theMethod args0 below0 :=
  ⟨lists_1, trivial, launch0.admits_env _ _ _, launch0.least_env, fairChoices_fair.cas, fairChoices_fair.clock, w_frames, w_args, w_heap, w_applies, trivial, trivial, w_case⟩
end start1
theorem witness_1 : WitnessClaimed_1 := ⟨start1.p0, start1.e0, start1.about1, start1.theMethod, start1.args0, start1.below0, start1.atStart⟩
end Jvm.Pilot.@@N@@
