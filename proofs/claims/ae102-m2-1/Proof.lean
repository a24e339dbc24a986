import JvmDerived
import JvmDerived.Pilot.@@N@@Statement
import JvmDerived.Pilot.@@N@@Code
set_option linter.unusedVariables false
set_option linter.unusedSimpArgs false
namespace Jvm.Pilot.@@N@@
open Jvm Jvm.ClassFile Sem Op Lib Jvm.Free Jvm.Stand Jvm.LawKit Jvm.RoadKit Bundle Jvm.Pilot.@@N@@.Jvm.D
/-! my own words: Go (the run comes from T to a state with P), a step, a return -/
def Go (tb : Tables) (e : Env) (below : List Frame) (P : State → Prop) (T : State) : Prop := ∃ u, P u ∧ ∀ t, Steps tb e below u t → Steps tb e below T t
theorem Go.by' {tb : Tables} {e : Env} {below : List Frame} {P : State → Prop} {T T' : State} (h : ∀ t, Steps tb e below T' t → Steps tb e below T t) (k : Go tb e below P T') : Go tb e below P T :=
  k.elim fun u q => ⟨u, q.1, fun t z => h t (q.2 t z)⟩
theorem Go.cast {tb : Tables} {e : Env} {below : List Frame} {P : State → Prop} {T : State} {g g' : JFrame} (q : g = g') (k : Go tb e below P (T.setTop g')) : Go tb e below P (T.setTop g) := q ▸ k
def Fin' (s : State) (below : List Frame) (ce sl : Nat) (Q : Option Value → Heap → List Loc → Prop) (u : State) : Prop := u.status = .running ∧ ∃ o, Ended u below o ∧ ∃ v L, o = .returned v ∧ Q v u.heap L ∧ FrameEnd s o u L ce sl
theorem Go.body {tb : Tables} {e : Env} {below : List Frame} {s : State} {ce sl : Nat} {Q : Option Value → Heap → List Loc → Prop} {T : State} (h : Go tb e below (Fin' s below ce sl Q) T) :
    ∃ s₂ o, Steps tb e below T s₂ ∧ s₂.status = .running ∧ Ended s₂ below o ∧ ∃ v L, o = .returned v ∧ Q v s₂.heap L ∧ FrameEnd s o s₂ L ce sl := by
  obtain ⟨u, ⟨h1, o, h2, h3⟩, h4⟩ := h
  exact ⟨u, o, h4 u (Steps.refl _), h1, h2, h3⟩
section OwnStand
variable {p : Program} {l : Launch} {e : Env} {R : Room} {s : State} {m : MethodId} {args : Array Value} {below : List Frame} {meth : Method} {c : Code} {T : State} {locs : List Loc} {cells slots : Nat}
def Like (X : Stand p l e R s m args below meth c T locs cells slots) (T' : State) : Prop := Stand p l e R s m args below meth c T' locs cells slots
theorem Go.out (X : Stand p l e R s m args below meth c T locs cells slots) {v : Option Value} (hv : meth.sig.returnType = none → v = none) (hlocks : meth.locks = false) {g : JFrame} {ce sl : Nat} {Q : Option Value → Heap → List Loc → Prop}
    (st : ∀ fs : List Frame, (∀ (f : JFrame) (acts : List Action), f.method = m → f.locked = none → f.entered = [] → (doReturn e (T.setTop f) acts v).1 = T.setFrames fs) → Steps p.tables e below (T.setTop g) (T.setFrames fs))
    (hc : cells ≤ ce) (hs : slots ≤ sl) (q : Q v T.heap locs) : Go p.tables e below (Fin' s below ce sl Q) (T.setTop g) := by
  obtain ⟨fs, hr, hrun, hended, hW, hsame⟩ := X.leave (v := v) hv hlocks
  exact ⟨T.setFrames fs, ⟨hrun, _, hended, v, locs, rfl, q, ⟨_, rfl⟩, hW, hsame.mono hc hs⟩, fun t k => (st fs hr).trans k⟩
theorem Go.retI' (X : Stand p l e R s m args below meth c T locs cells slots) (hx : p.tables.exec = Jvm.exec) {pc : Nat} {Ls : Array Slot} {z : Int32} {rest : List Value} {t : FieldType} (hret : meth.sig.returnType = some t) (hlocks : meth.locks = false)
    (ht : t = .int ∨ t = .boolean ∨ t = .byte ∨ t = .char ∨ t = .short) (hn : narrow t (.int z) = .int z) (hd : decode c.code pc = .ok (.ireturn, 1)) {ce sl : Nat} {Q : Option Value → Heap → List Loc → Prop} (hc : cells ≤ ce) (hs : slots ≤ sl) (q : Q (some (.int z)) T.heap locs) :
    Go p.tables e below (Fin' s below ce sl Q) (T.setTop (mkF m pc Ls (.int z :: rest))) :=
  Go.out X (fun h => by rw [hret] at h; cases h) hlocks (fun _ hl => retOut X hx hret hn (Or.inl ⟨rfl, ht, z, rfl⟩) hd hl) hc hs q
theorem Go.retA' (X : Stand p l e R s m args below meth c T locs cells slots) (hx : p.tables.exec = Jvm.exec) {pc : Nat} {Ls : Array Slot} {w : Value} {rest : List Value} {t : FieldType} (hret : meth.sig.returnType = some t) (hlocks : meth.locks = false)
    (ht : t.isReference = true) (hw : w.isRef = true) (hd : decode c.code pc = .ok (.areturn, 1)) {ce sl : Nat} {Q : Option Value → Heap → List Loc → Prop} (hc : cells ≤ ce) (hs : slots ≤ sl) (q : Q (some w) T.heap locs) :
    Go p.tables e below (Fin' s below ce sl Q) (T.setTop (mkF m pc Ls (w :: rest))) :=
  Go.out X (fun h => by rw [hret] at h; cases h) hlocks (fun _ hl => retOut X hx hret (by cases t <;> first | (cases ht; done) | (rcases ref_cases hw with rfl | ⟨z, rfl⟩ <;> rfl)) (Or.inr (Or.inr (Or.inr (Or.inr ⟨rfl, ht, hw⟩)))) hd hl) hc hs q
theorem Go.retD' (X : Stand p l e R s m args below meth c T locs cells slots) (hx : p.tables.exec = Jvm.exec) {pc : Nat} {Ls : Array Slot} {z : UInt64} {rest : List Value} (hret : meth.sig.returnType = some .double) (hlocks : meth.locks = false)
    (hd : decode c.code pc = .ok (.dreturn, 1)) {ce sl : Nat} {Q : Option Value → Heap → List Loc → Prop} (hc : cells ≤ ce) (hs : slots ≤ sl) (q : Q (some (.double z)) T.heap locs) :
    Go p.tables e below (Fin' s below ce sl Q) (T.setTop (mkF m pc Ls (.double z :: rest))) :=
  Go.out X (fun h => by rw [hret] at h; cases h) hlocks (fun _ hl => retOut X hx hret rfl (Or.inr (Or.inr (Or.inl ⟨rfl, rfl, z, rfl⟩))) hd hl) hc hs q
theorem Go.retV' (X : Stand p l e R s m args below meth c T locs cells slots) (hx : p.tables.exec = Jvm.exec) {pc : Nat} {Ls : Array Slot} (hret : meth.sig.returnType = none) (hlocks : meth.locks = false)
    (hd : decode c.code pc = .ok (.return_, 1)) {ce sl : Nat} {Q : Option Value → Heap → List Loc → Prop} (hc : cells ≤ ce) (hs : slots ≤ sl) (q : Q none T.heap locs) :
    Go p.tables e below (Fin' s below ce sl Q) (T.setTop (mkF m pc Ls [])) :=
  Go.out X (fun _ => rfl) hlocks (fun _ hl => X.returnOut hx hret hd hl) hc hs q
end OwnStand
theorem own_nb {z : Int32} (h : z = 0 ∨ z = 1) : narrow .boolean (.int z) = .int z := by rcases h with rfl | rfl <;> rfl
theorem own_fb {z : Int32} (h : z = 0 ∨ z = 1) : fits .boolean (.int z) = true := by rcases h with rfl | rfl <;> rfl
theorem own_bb {x : Int32} : nar .byte (x.toInt8.toInt32) = x.toInt8.toInt32 := by show x.toInt8.toInt32.toInt8.toInt32 = x.toInt8.toInt32; simp
theorem own_nm (x : Int32) : nar .char (x &&& (255 : Int32)) = (x &&& (255 : Int32)) := i2c_mask x
theorem own_i2c {x : Int32} (h0 : ¬ x < (0 : Int32)) (h1 : ¬ (255 : Int32) < x) : x.toUInt32.toUInt16.toUInt32.toInt32 = x := by
  have a := c_i2c x
  have z0 : (0 : Int32).toInt = 0 := rfl
  have z1 : (255 : Int32).toInt = 255 := rfl
  rw [Int32.lt_iff_toInt_lt] at h0 h1
  rw [← Int32.toInt_inj]; omega
theorem own_nc {x : Int32} (h0 : ¬ x < (0 : Int32)) (h1 : ¬ (255 : Int32) < x) : nar .char x = x := own_i2c h0 h1
theorem own_b8 {x y : Int32} (h0 : ¬ x < (0 : Int32)) (h1 : ¬ (255 : Int32) < x) (h2 : ¬ y < (0 : Int32)) (h3 : ¬ (255 : Int32) < y) : (x.toInt8.toInt32) = (y.toInt8.toInt32) ↔ x = y := by
  have a := c_i2b x
  have b := c_i2b y
  have z0 : (0 : Int32).toInt = 0 := rfl
  have z1 : (255 : Int32).toInt = 255 := rfl
  rw [Int32.lt_iff_toInt_lt] at h0 h1 h2 h3
  rw [← Int32.toInt_inj, ← Int32.toInt_inj]; omega
theorem own_m (x : Int32) : ¬ (x &&& (255 : Int32)) < (0 : Int32) ∧ ¬ (255 : Int32) < (x &&& (255 : Int32)) := by
  have h := c_mask x 255 8 (by decide) (by decide)
  have z0 : (0 : Int32).toInt = 0 := rfl
  have z1 : (255 : Int32).toInt = 255 := rfl
  rw [Int32.lt_iff_toInt_lt, Int32.lt_iff_toInt_lt]; omega
theorem own_le {Z : State} {n0 : Nat} {h : Heap} (X : Old Z n0 h) : n0 ≤ h.size := X.1 ▸ X.2.1
def Gh (Z : State) (wE : Addr) (wB : Addr) (wA : Addr) : Prop := (Sta Z Z.heap "com/example/libfnseq/libfnseq/NumericValue$Relation" "EQUAL" "Lcom/example/libfnseq/libfnseq/NumericValue$Relation;" (.ref wE)) ∧ (Exa Z Z.heap wE "com/example/libfnseq/libfnseq/NumericValue$Relation") ∧ (Sta Z Z.heap "com/example/libfnseq/libfnseq/NumericValue$Relation" "BELOW" "Lcom/example/libfnseq/libfnseq/NumericValue$Relation;" (.ref wB)) ∧ (Exa Z Z.heap wB "com/example/libfnseq/libfnseq/NumericValue$Relation") ∧ (Sta Z Z.heap "com/example/libfnseq/libfnseq/NumericValue$Relation" "ABOVE" "Lcom/example/libfnseq/libfnseq/NumericValue$Relation;" (.ref wA)) ∧ (Exa Z Z.heap wA "com/example/libfnseq/libfnseq/NumericValue$Relation") ∧ (wE ≠ wB) ∧ (wE ≠ wA) ∧ (wB ≠ wA)
theorem own_i0 : (0 : Int32).toInt = 0 := rfl
theorem own_i1 : (1 : Int32).toInt = 1 := rfl
theorem own_im : (-1 : Int32).toInt = -1 := rfl
theorem d1_0 : decode jdk_29_method_69_code 0 = .ok (.iload_n 0, 1) := by decide +kernel
theorem d1_1 : decode jdk_29_method_69_code 1 = .ok (.iload_n 1, 1) := by decide +kernel
theorem d1_2 : decode jdk_29_method_69_code 2 = .ok (.if_icmp .gt 7, 3) := by decide +kernel
theorem d1_9 : decode jdk_29_method_69_code 9 = .ok (.iload_n 1, 1) := by decide +kernel
theorem d1_5 : decode jdk_29_method_69_code 5 = .ok (.iload_n 0, 1) := by decide +kernel
theorem d1_6 : decode jdk_29_method_69_code 6 = .ok (.goto 4, 3) := by decide +kernel
theorem d1_10 : decode jdk_29_method_69_code 10 = .ok (.ireturn, 1) := by decide +kernel
set_option maxHeartbeats 4000000 in
theorem ef_rmMin (m : MethodId) {ia : Int32} {ib : Int32} : entryFrame m #[(.int ia), (.int ib)] 2 = mkF m 0 #[.val (.int ia), .val (.int ib)] [] := by first | (simp [entryFrame, mkF, argsToLocals, Value.category]; done) | rfl
def QrmMin (Z : State) (wE : Addr) (wB : Addr) (wA : Addr) (ia : Int32) (ib : Int32) (h0 : Heap) (n0 : Nat) (v : Option Value) (h : Heap) (L : List Loc) : Prop := ∃ (r : Int32), (v = some (.int r)) ∧ (L = []) ∧ (h = h0) ∧ ((ib < ia ∧ r = ib) ∨ (¬ (ib < ia) ∧ r = ia))
set_option maxRecDepth 65536 in
set_option maxHeartbeats 40000000 in
theorem rmMin (l : Launch) (Z : State) (a0 : Array Value) (hw : ∀ d ∈ tables_1, d.before a0 Z = true) (ws : List Jvm.Cond) (wE : Addr) (wB : Addr) (wA : Addr) (G : Gh Z wE wB wA) (ia : Int32) (ib : Int32) (h0 : Heap) (n0 : Nat) (O0 : Old Z n0 h0) :
    MetFree l (⟨"java/lang/Math", "min", "(II)I"⟩ : MethodName) (head1 (Jvm.Cond.code (⟨"java/lang/Math", "min", "(II)I"⟩ : MethodName) jdk_29_method_69_code 2 (some .int) :: ws) ({ frames := 0, cells := 0, slots := 0, locals := 0 } : Room)) (fun aa' UU' => aa' = #[(.int ia), (.int ib)] ∧ Z.Warmed39 UU'.vm ∧ UU'.heap = h0) (fun _ _ _ _ _ => True) (fun _ UU' oo' VV' => ∃ v' L', oo' = .returned v' ∧ QrmMin Z wE wB wA ia ib h0 n0 v' VV'.heap L' ∧ FrameEnd UU' oo' VV' L' ({ frames := 0, cells := 0, slots := 0, locals := 0 } : Room).cells ({ frames := 0, cells := 0, slots := 0, locals := 0 } : Room).slots) := by
  refine MetFree.of_bodySF (Jvm.Free.JP.mathPlain rfl (by decide +kernel)) hisR ?_
  intro p e s m args below meth c s₁ Bd hml0 hP hK
  obtain ⟨rfl, hZ, hh⟩ := hP
  have hx := Bd.exec
  have hby := Bd.bytes
  have hlk := Bd.notSynchronized
  have hml : c.maxLocals = 2 := hml0
  have hown : s.vm.findClass "java/lang/Math" = some m.cls := findClass_of_methodNamed Bd.named
  have hnm := (name_of_methodNamed Bd.named Bd.method).1
  have hret := Bd.returns
  have X0 : Stand p l e ({ frames := 0, cells := 0, slots := 0, locals := 0 } : Room) s m #[(.int ia), (.int ib)] below meth c s₁ [] 0 0 := Stand.of_body Bd
  have e0 : s₁.heap = h0 := by rw [← hh, Bd.state]; rfl
  have N0 := Fr.nil n0
  refine Go.body ?_
  obtain ⟨Pf, hPf⟩ : ∃ P, P = Fin' s below ({ frames := 0, cells := 0, slots := 0, locals := 0 } : Room).cells ({ frames := 0, cells := 0, slots := 0, locals := 0 } : Room).slots (QrmMin Z wE wB wA ia ib h0 n0) := ⟨_, rfl⟩
  rw [← hPf]
  refine Go.cast (ef_rmMin m) ?_
  show Go p.tables e below Pf (s₁.setTop (mkF m 0 #[.val (.int ia), .val (.int ib)] []))
  refine Go.by' (fun t k => (XS.iloadN X0.here hx rfl (hb hby d1_0) rfl (XS.iloadN X0.here hx rfl (hb hby d1_1) rfl k))) ?_
  show Go p.tables e below Pf (s₁.setTop (mkF m 2 #[.val (.int ia), .val (.int ib)] [(.int ib), (.int ia)]))
  have jn2 : ∀ (T' : State) (w2_0 : Int32), Like X0 T' → T'.heap = h0 → ((ib < ia ∧ w2_0 = ib) ∨ (¬ (ib < ia) ∧ w2_0 = ia)) → Go p.tables e below Pf (T'.setTop (mkF m 10 #[.val (.int ia), .val (.int ib)] [(.int w2_0)])) := by
    intro T2 w2_0 X2 e2 hm2
    unfold Like at X2
    show Go p.tables e below Pf (T2.setTop (mkF m 10 #[.val (.int ia), .val (.int ib)] [(.int w2_0)]))
    rw [hPf]
    exact Go.retI' X2 hx hret hlk (by simp) rfl (hb hby d1_10) (by decide) (by decide) ⟨w2_0, rfl, rfl, e2, hm2⟩
  by_cases hc3 : ib < ia
  · refine Go.by' (fun t k => (XS.icmpYes X0.here hx rfl (pc0 := 2) (pc' := 9) rfl (hb hby d1_2) rfl (tlt hc3).2.2.1 (by decide) (by decide) (XS.iloadN X0.here hx rfl (hb hby d1_9) rfl k))) ?_
    show Go p.tables e below Pf (s₁.setTop (mkF m 10 #[.val (.int ia), .val (.int ib)] [(.int ib)]))
    exact jn2 s₁ (ib) X0 e0  (Or.inl ⟨hc3, rfl⟩)
  · refine Go.by' (fun t k => (XS.icmpNo X0.here hx rfl (hb hby d1_2) rfl (flt hc3).2.2.1 (XS.iloadN X0.here hx rfl (hb hby d1_5) rfl (XS.goto X0.here hx rfl (pc0 := 6) (pc' := 10) rfl (hb hby d1_6) (by decide) (by decide) k)))) ?_
    show Go p.tables e below Pf (s₁.setTop (mkF m 10 #[.val (.int ia), .val (.int ib)] [(.int ia)]))
    exact jn2 s₁ (ia) X0 e0  (Or.inr ⟨hc3, rfl⟩)
theorem d2_0 : decode jdk_29_method_65_code 0 = .ok (.iload_n 0, 1) := by decide +kernel
theorem d2_1 : decode jdk_29_method_65_code 1 = .ok (.iload_n 1, 1) := by decide +kernel
theorem d2_2 : decode jdk_29_method_65_code 2 = .ok (.if_icmp .lt 7, 3) := by decide +kernel
theorem d2_9 : decode jdk_29_method_65_code 9 = .ok (.iload_n 1, 1) := by decide +kernel
theorem d2_5 : decode jdk_29_method_65_code 5 = .ok (.iload_n 0, 1) := by decide +kernel
theorem d2_6 : decode jdk_29_method_65_code 6 = .ok (.goto 4, 3) := by decide +kernel
theorem d2_10 : decode jdk_29_method_65_code 10 = .ok (.ireturn, 1) := by decide +kernel
set_option maxHeartbeats 4000000 in
theorem ef_rmMax (m : MethodId) {ia : Int32} {ib : Int32} : entryFrame m #[(.int ia), (.int ib)] 2 = mkF m 0 #[.val (.int ia), .val (.int ib)] [] := by first | (simp [entryFrame, mkF, argsToLocals, Value.category]; done) | rfl
def QrmMax (Z : State) (wE : Addr) (wB : Addr) (wA : Addr) (ia : Int32) (ib : Int32) (h0 : Heap) (n0 : Nat) (v : Option Value) (h : Heap) (L : List Loc) : Prop := ∃ (r : Int32), (v = some (.int r)) ∧ (L = []) ∧ (h = h0) ∧ ((ia < ib ∧ r = ib) ∨ (¬ (ia < ib) ∧ r = ia))
set_option maxRecDepth 65536 in
set_option maxHeartbeats 40000000 in
theorem rmMax (l : Launch) (Z : State) (a0 : Array Value) (hw : ∀ d ∈ tables_1, d.before a0 Z = true) (ws : List Jvm.Cond) (wE : Addr) (wB : Addr) (wA : Addr) (G : Gh Z wE wB wA) (ia : Int32) (ib : Int32) (h0 : Heap) (n0 : Nat) (O0 : Old Z n0 h0) :
    MetFree l (⟨"java/lang/Math", "max", "(II)I"⟩ : MethodName) (head1 (Jvm.Cond.code (⟨"java/lang/Math", "max", "(II)I"⟩ : MethodName) jdk_29_method_65_code 2 (some .int) :: ws) ({ frames := 0, cells := 0, slots := 0, locals := 0 } : Room)) (fun aa' UU' => aa' = #[(.int ia), (.int ib)] ∧ Z.Warmed39 UU'.vm ∧ UU'.heap = h0) (fun _ _ _ _ _ => True) (fun _ UU' oo' VV' => ∃ v' L', oo' = .returned v' ∧ QrmMax Z wE wB wA ia ib h0 n0 v' VV'.heap L' ∧ FrameEnd UU' oo' VV' L' ({ frames := 0, cells := 0, slots := 0, locals := 0 } : Room).cells ({ frames := 0, cells := 0, slots := 0, locals := 0 } : Room).slots) := by
  refine MetFree.of_bodySF (Jvm.Free.JP.mathPlain rfl (by decide +kernel)) hisR ?_
  intro p e s m args below meth c s₁ Bd hml0 hP hK
  obtain ⟨rfl, hZ, hh⟩ := hP
  have hx := Bd.exec
  have hby := Bd.bytes
  have hlk := Bd.notSynchronized
  have hml : c.maxLocals = 2 := hml0
  have hown : s.vm.findClass "java/lang/Math" = some m.cls := findClass_of_methodNamed Bd.named
  have hnm := (name_of_methodNamed Bd.named Bd.method).1
  have hret := Bd.returns
  have X0 : Stand p l e ({ frames := 0, cells := 0, slots := 0, locals := 0 } : Room) s m #[(.int ia), (.int ib)] below meth c s₁ [] 0 0 := Stand.of_body Bd
  have e0 : s₁.heap = h0 := by rw [← hh, Bd.state]; rfl
  have N0 := Fr.nil n0
  refine Go.body ?_
  obtain ⟨Pf, hPf⟩ : ∃ P, P = Fin' s below ({ frames := 0, cells := 0, slots := 0, locals := 0 } : Room).cells ({ frames := 0, cells := 0, slots := 0, locals := 0 } : Room).slots (QrmMax Z wE wB wA ia ib h0 n0) := ⟨_, rfl⟩
  rw [← hPf]
  refine Go.cast (ef_rmMax m) ?_
  show Go p.tables e below Pf (s₁.setTop (mkF m 0 #[.val (.int ia), .val (.int ib)] []))
  refine Go.by' (fun t k => (XS.iloadN X0.here hx rfl (hb hby d2_0) rfl (XS.iloadN X0.here hx rfl (hb hby d2_1) rfl k))) ?_
  show Go p.tables e below Pf (s₁.setTop (mkF m 2 #[.val (.int ia), .val (.int ib)] [(.int ib), (.int ia)]))
  have jn5 : ∀ (T' : State) (w5_0 : Int32), Like X0 T' → T'.heap = h0 → ((ia < ib ∧ w5_0 = ib) ∨ (¬ (ia < ib) ∧ w5_0 = ia)) → Go p.tables e below Pf (T'.setTop (mkF m 10 #[.val (.int ia), .val (.int ib)] [(.int w5_0)])) := by
    intro T5 w5_0 X5 e5 hm5
    unfold Like at X5
    show Go p.tables e below Pf (T5.setTop (mkF m 10 #[.val (.int ia), .val (.int ib)] [(.int w5_0)]))
    rw [hPf]
    exact Go.retI' X5 hx hret hlk (by simp) rfl (hb hby d2_10) (by decide) (by decide) ⟨w5_0, rfl, rfl, e5, hm5⟩
  by_cases hc6 : ia < ib
  · refine Go.by' (fun t k => (XS.icmpYes X0.here hx rfl (pc0 := 2) (pc' := 9) rfl (hb hby d2_2) rfl (tlt hc6).1 (by decide) (by decide) (XS.iloadN X0.here hx rfl (hb hby d2_9) rfl k))) ?_
    show Go p.tables e below Pf (s₁.setTop (mkF m 10 #[.val (.int ia), .val (.int ib)] [(.int ib)]))
    exact jn5 s₁ (ib) X0 e0  (Or.inl ⟨hc6, rfl⟩)
  · refine Go.by' (fun t k => (XS.icmpNo X0.here hx rfl (hb hby d2_2) rfl (flt hc6).1 (XS.iloadN X0.here hx rfl (hb hby d2_5) rfl (XS.goto X0.here hx rfl (pc0 := 6) (pc' := 10) rfl (hb hby d2_6) (by decide) (by decide) k)))) ?_
    show Go p.tables e below Pf (s₁.setTop (mkF m 10 #[.val (.int ia), .val (.int ib)] [(.int ia)]))
    exact jn5 s₁ (ia) X0 e0  (Or.inr ⟨hc6, rfl⟩)
theorem d3_0 : decode prog_65_method_5_code 0 = .ok (.aload_n 0, 1) := by decide +kernel
theorem d3_1 : decode prog_65_method_5_code 1 = .ok (.getstatic 3, 3) := by decide +kernel
theorem d3_4 : decode prog_65_method_5_code 4 = .ok (.if_acmp .ne 16, 3) := by decide +kernel
theorem d3_7 : decode prog_65_method_5_code 7 = .ok (.iload_n 1, 1) := by decide +kernel
theorem d3_8 : decode prog_65_method_5_code 8 = .ok (.ifCond .ne 7, 3) := by decide +kernel
theorem d3_11 : decode prog_65_method_5_code 11 = .ok (.iconst 1, 1) := by decide +kernel
theorem d3_12 : decode prog_65_method_5_code 12 = .ok (.goto 4, 3) := by decide +kernel
theorem d3_15 : decode prog_65_method_5_code 15 = .ok (.iconst 0, 1) := by decide +kernel
theorem d3_16 : decode prog_65_method_5_code 16 = .ok (.istore_n 2, 1) := by decide +kernel
theorem d3_17 : decode prog_65_method_5_code 17 = .ok (.goto 33, 3) := by decide +kernel
theorem d3_50 : decode prog_65_method_5_code 50 = .ok (.iload_n 2, 1) := by decide +kernel
theorem d3_51 : decode prog_65_method_5_code 51 = .ok (.ireturn, 1) := by decide +kernel
theorem pn_3 : plainName "com/example/libfnseq/libfnseq/NumericValue$Relation" = true := by first | (simp [plainName, overriddenIn]; done) | decide +kernel
set_option maxHeartbeats 4000000 in
theorem ef_rmHE (m : MethodId) {wE : Addr} {ip : Int32} : entryFrame m #[(.ref wE), (.int ip)] 3 = mkF m 0 #[.val (.ref wE), .val (.int ip), .unset] [] := by first | (simp [entryFrame, mkF, argsToLocals, Value.category]; done) | rfl
def QrmHE (Z : State) (wE : Addr) (wB : Addr) (wA : Addr) (ip : Int32) (h0 : Heap) (n0 : Nat) (v : Option Value) (h : Heap) (L : List Loc) : Prop := ∃ (r : Int32), (v = some (.int r)) ∧ (L = []) ∧ (h = h0) ∧ ((ip = (0 : Int32) ∧ r = (1 : Int32)) ∨ (¬ (ip = (0 : Int32)) ∧ r = (0 : Int32)))
set_option maxRecDepth 65536 in
set_option maxHeartbeats 40000000 in
theorem rmHE (l : Launch) (Z : State) (a0 : Array Value) (hw : ∀ d ∈ tables_1, d.before a0 Z = true) (ws : List Jvm.Cond) (wE : Addr) (wB : Addr) (wA : Addr) (G : Gh Z wE wB wA) (ip : Int32) (h0 : Heap) (n0 : Nat) (O0 : Old Z n0 h0) :
    MetFree l (⟨"com/example/libfnseq/libfnseq/NumericValue$Relation", "holds", "(I)Z"⟩ : MethodName) (head1 (Jvm.Cond.code (⟨"com/example/libfnseq/libfnseq/NumericValue$Relation", "holds", "(I)Z"⟩ : MethodName) prog_65_method_5_code 3 (some .boolean) :: ws) ({ frames := 0, cells := 0, slots := 0, locals := 0 } : Room)) (fun aa' UU' => aa' = #[(.ref wE), (.int ip)] ∧ Z.Warmed39 UU'.vm ∧ UU'.heap = h0) (fun _ _ _ _ _ => True) (fun _ UU' oo' VV' => ∃ v' L', oo' = .returned v' ∧ QrmHE Z wE wB wA ip h0 n0 v' VV'.heap L' ∧ FrameEnd UU' oo' VV' L' ({ frames := 0, cells := 0, slots := 0, locals := 0 } : Room).cells ({ frames := 0, cells := 0, slots := 0, locals := 0 } : Room).slots) := by
  refine MetFree.of_bodySF (plainFor_of_name pn_3) hisR ?_
  intro p e s m args below meth c s₁ Bd hml0 hP hK
  obtain ⟨rfl, hZ, hh⟩ := hP
  have hx := Bd.exec
  have hby := Bd.bytes
  have hlk := Bd.notSynchronized
  have hml : c.maxLocals = 3 := hml0
  have hown : s.vm.findClass "com/example/libfnseq/libfnseq/NumericValue$Relation" = some m.cls := findClass_of_methodNamed Bd.named
  have hnm := (name_of_methodNamed Bd.named Bd.method).1
  have hret := Bd.returns
  have X0 : Stand p l e ({ frames := 0, cells := 0, slots := 0, locals := 0 } : Room) s m #[(.ref wE), (.int ip)] below meth c s₁ [] 0 0 := Stand.of_body Bd
  have e0 : s₁.heap = h0 := by rw [← hh, Bd.state]; rfl
  have N0 := Fr.nil n0
  refine Go.body ?_
  obtain ⟨Pf, hPf⟩ : ∃ P, P = Fin' s below ({ frames := 0, cells := 0, slots := 0, locals := 0 } : Room).cells ({ frames := 0, cells := 0, slots := 0, locals := 0 } : Room).slots (QrmHE Z wE wB wA ip h0 n0) := ⟨_, rfl⟩
  rw [← hPf]
  refine Go.cast (ef_rmHE m) ?_
  have hw15 := (hw _ (List.mem_of_getElem? (i := 15) rfl))
  show Go p.tables e below Pf (s₁.setTop (mkF m 0 #[.val (.ref wE), .val (.int ip), .unset] []))
  refine Go.by' (fun t k => (XS.aloadN X0.here hx rfl (hb hby d3_0) rfl rfl k)) ?_
  show Go p.tables e below Pf (s₁.setTop (mkF m 1 #[.val (.ref wE), .val (.int ip), .unset] [(.ref wE)]))
  obtain ⟨T7, X7, e7, st7⟩ := getS2 X0 hx hZ hown (host := "") (Or.inl hw15) Via.refl e0 (G.1.ext O0.2) (g := (mkF m 1 #[.val (.ref wE), .val (.int ip), .unset] [(.ref wE)])) rfl (hb hby d3_1)
  refine Go.by' st7 ?_
  show Go p.tables e below Pf (T7.setTop (mkF m 4 #[.val (.ref wE), .val (.int ip), .unset] [(.ref wE), (.ref wE)]))
  refine Go.by' (fun t k => Jvm.RoadKit.acmp (g := (mkF m 4 #[.val (.ref wE), .val (.int ip), .unset] [(.ref wE), (.ref wE)])) X7 hx rfl rfl rfl (pc0 := 4) (pc' := 7) (same := true) rfl (hb hby d3_4) rfl (decide_eq_true rfl) (by decide) (by decide) k) ?_
  show Go p.tables e below Pf (T7.setTop (mkF m 7 #[.val (.ref wE), .val (.int ip), .unset] []))
  refine Go.by' (fun t k => (XS.iloadN X7.here hx rfl (hb hby d3_7) rfl k)) ?_
  show Go p.tables e below Pf (T7.setTop (mkF m 8 #[.val (.ref wE), .val (.int ip), .unset] [(.int ip)]))
  have jn9 : ∀ (T' : State) (w9_0 : Int32), Like X7 T' → T'.heap = h0 → ((ip = (0 : Int32) ∧ w9_0 = (1 : Int32)) ∨ (¬ (ip = (0 : Int32)) ∧ w9_0 = (0 : Int32))) → Go p.tables e below Pf (T'.setTop (mkF m 16 #[.val (.ref wE), .val (.int ip), .unset] [(.int w9_0)])) := by
    intro T9 w9_0 X9 e9 hm9
    unfold Like at X9
    have bw9_0 : w9_0 = 0 ∨ w9_0 = 1 := by rcases hm9 with ⟨_, h⟩ | ⟨_, h⟩ <;> first | exact Or.inl h | exact Or.inr h
    show Go p.tables e below Pf (T9.setTop (mkF m 16 #[.val (.ref wE), .val (.int ip), .unset] [(.int w9_0)]))
    refine Go.by' (fun t k => (XS.istoreN X9.here hx rfl (hb hby d3_16) rfl (l' := #[.val (.ref wE), .val (.int ip), .val (.int w9_0)]) rfl (XS.goto X9.here hx rfl (pc0 := 17) (pc' := 50) rfl (hb hby d3_17) (by decide) (by decide) (XS.iloadN X9.here hx rfl (hb hby d3_50) rfl k)))) ?_
    show Go p.tables e below Pf (T9.setTop (mkF m 51 #[.val (.ref wE), .val (.int ip), .val (.int w9_0)] [(.int w9_0)]))
    rw [hPf]
    exact Go.retI' X9 hx hret hlk (by simp) (by rcases hm9 with ⟨_, rfl⟩ | ⟨_, rfl⟩ <;> rfl) (hb hby d3_51) (by decide) (by decide) ⟨w9_0, rfl, rfl, e9, hm9⟩
  by_cases hc10 : ip = (0 : Int32)
  · refine Go.by' (fun t k => (XS.ifNo X7.here hx rfl (hb hby d3_8) rfl ((if0 _ _).trans (teq hc10).2) (XS.iconst X7.here hx rfl (hb hby d3_11) (XS.goto X7.here hx rfl (pc0 := 12) (pc' := 16) rfl (hb hby d3_12) (by decide) (by decide) k)))) ?_
    show Go p.tables e below Pf (T7.setTop (mkF m 16 #[.val (.ref wE), .val (.int ip), .unset] [(.int (1 : Int32))]))
    exact jn9 T7 ((1 : Int32)) X7 e7  (Or.inl ⟨hc10, rfl⟩)
  · refine Go.by' (fun t k => (XS.ifYes X7.here hx rfl (pc0 := 8) (pc' := 15) rfl (hb hby d3_8) rfl ((if0 _ _).trans (feq hc10).2) (by decide) (by decide) (XS.iconst X7.here hx rfl (hb hby d3_15) k))) ?_
    show Go p.tables e below Pf (T7.setTop (mkF m 16 #[.val (.ref wE), .val (.int ip), .unset] [(.int (0 : Int32))]))
    exact jn9 T7 ((0 : Int32)) X7 e7  (Or.inr ⟨hc10, rfl⟩)
theorem d3_20 : decode prog_65_method_5_code 20 = .ok (.aload_n 0, 1) := by decide +kernel
theorem d3_21 : decode prog_65_method_5_code 21 = .ok (.getstatic 7, 3) := by decide +kernel
theorem d3_24 : decode prog_65_method_5_code 24 = .ok (.if_acmp .ne 16, 3) := by decide +kernel
theorem d3_27 : decode prog_65_method_5_code 27 = .ok (.iload_n 1, 1) := by decide +kernel
theorem d3_28 : decode prog_65_method_5_code 28 = .ok (.ifCond .ge 7, 3) := by decide +kernel
theorem d3_31 : decode prog_65_method_5_code 31 = .ok (.iconst 1, 1) := by decide +kernel
theorem d3_32 : decode prog_65_method_5_code 32 = .ok (.goto 4, 3) := by decide +kernel
theorem d3_35 : decode prog_65_method_5_code 35 = .ok (.iconst 0, 1) := by decide +kernel
theorem d3_36 : decode prog_65_method_5_code 36 = .ok (.istore_n 2, 1) := by decide +kernel
theorem d3_37 : decode prog_65_method_5_code 37 = .ok (.goto 13, 3) := by decide +kernel
set_option maxHeartbeats 4000000 in
theorem ef_rmHB (m : MethodId) {wB : Addr} {ip : Int32} : entryFrame m #[(.ref wB), (.int ip)] 3 = mkF m 0 #[.val (.ref wB), .val (.int ip), .unset] [] := by first | (simp [entryFrame, mkF, argsToLocals, Value.category]; done) | rfl
def QrmHB (Z : State) (wE : Addr) (wB : Addr) (wA : Addr) (ip : Int32) (h0 : Heap) (n0 : Nat) (v : Option Value) (h : Heap) (L : List Loc) : Prop := ∃ (r : Int32), (v = some (.int r)) ∧ (L = []) ∧ (h = h0) ∧ ((ip < (0 : Int32) ∧ r = (1 : Int32)) ∨ (¬ (ip < (0 : Int32)) ∧ r = (0 : Int32)))
set_option maxRecDepth 65536 in
set_option maxHeartbeats 40000000 in
theorem rmHB (l : Launch) (Z : State) (a0 : Array Value) (hw : ∀ d ∈ tables_1, d.before a0 Z = true) (ws : List Jvm.Cond) (wE : Addr) (wB : Addr) (wA : Addr) (G : Gh Z wE wB wA) (ip : Int32) (h0 : Heap) (n0 : Nat) (O0 : Old Z n0 h0) :
    MetFree l (⟨"com/example/libfnseq/libfnseq/NumericValue$Relation", "holds", "(I)Z"⟩ : MethodName) (head1 (Jvm.Cond.code (⟨"com/example/libfnseq/libfnseq/NumericValue$Relation", "holds", "(I)Z"⟩ : MethodName) prog_65_method_5_code 3 (some .boolean) :: ws) ({ frames := 0, cells := 0, slots := 0, locals := 0 } : Room)) (fun aa' UU' => aa' = #[(.ref wB), (.int ip)] ∧ Z.Warmed39 UU'.vm ∧ UU'.heap = h0) (fun _ _ _ _ _ => True) (fun _ UU' oo' VV' => ∃ v' L', oo' = .returned v' ∧ QrmHB Z wE wB wA ip h0 n0 v' VV'.heap L' ∧ FrameEnd UU' oo' VV' L' ({ frames := 0, cells := 0, slots := 0, locals := 0 } : Room).cells ({ frames := 0, cells := 0, slots := 0, locals := 0 } : Room).slots) := by
  refine MetFree.of_bodySF (plainFor_of_name pn_3) hisR ?_
  intro p e s m args below meth c s₁ Bd hml0 hP hK
  obtain ⟨rfl, hZ, hh⟩ := hP
  have hx := Bd.exec
  have hby := Bd.bytes
  have hlk := Bd.notSynchronized
  have hml : c.maxLocals = 3 := hml0
  have hown : s.vm.findClass "com/example/libfnseq/libfnseq/NumericValue$Relation" = some m.cls := findClass_of_methodNamed Bd.named
  have hnm := (name_of_methodNamed Bd.named Bd.method).1
  have hret := Bd.returns
  have X0 : Stand p l e ({ frames := 0, cells := 0, slots := 0, locals := 0 } : Room) s m #[(.ref wB), (.int ip)] below meth c s₁ [] 0 0 := Stand.of_body Bd
  have e0 : s₁.heap = h0 := by rw [← hh, Bd.state]; rfl
  have N0 := Fr.nil n0
  refine Go.body ?_
  obtain ⟨Pf, hPf⟩ : ∃ P, P = Fin' s below ({ frames := 0, cells := 0, slots := 0, locals := 0 } : Room).cells ({ frames := 0, cells := 0, slots := 0, locals := 0 } : Room).slots (QrmHB Z wE wB wA ip h0 n0) := ⟨_, rfl⟩
  rw [← hPf]
  refine Go.cast (ef_rmHB m) ?_
  have hw15 := (hw _ (List.mem_of_getElem? (i := 15) rfl))
  have hw18 := (hw _ (List.mem_of_getElem? (i := 18) rfl))
  show Go p.tables e below Pf (s₁.setTop (mkF m 0 #[.val (.ref wB), .val (.int ip), .unset] []))
  refine Go.by' (fun t k => (XS.aloadN X0.here hx rfl (hb hby d3_0) rfl rfl k)) ?_
  show Go p.tables e below Pf (s₁.setTop (mkF m 1 #[.val (.ref wB), .val (.int ip), .unset] [(.ref wB)]))
  obtain ⟨T11, X11, e11, st11⟩ := getS2 X0 hx hZ hown (host := "") (Or.inl hw15) Via.refl e0 (G.1.ext O0.2) (g := (mkF m 1 #[.val (.ref wB), .val (.int ip), .unset] [(.ref wB)])) rfl (hb hby d3_1)
  refine Go.by' st11 ?_
  show Go p.tables e below Pf (T11.setTop (mkF m 4 #[.val (.ref wB), .val (.int ip), .unset] [(.ref wE), (.ref wB)]))
  refine Go.by' (fun t k => Jvm.RoadKit.acmp (g := (mkF m 4 #[.val (.ref wB), .val (.int ip), .unset] [(.ref wE), (.ref wB)])) X11 hx rfl rfl rfl (pc0 := 4) (pc' := 20) (same := false) rfl (hb hby d3_4) rfl (decide_eq_false (fun q => (Ne.symm G.2.2.2.2.2.2.1) (Value.ref.inj q))) (by decide) (by decide) k) ?_
  show Go p.tables e below Pf (T11.setTop (mkF m 20 #[.val (.ref wB), .val (.int ip), .unset] []))
  refine Go.by' (fun t k => (XS.aloadN X11.here hx rfl (hb hby d3_20) rfl rfl k)) ?_
  show Go p.tables e below Pf (T11.setTop (mkF m 21 #[.val (.ref wB), .val (.int ip), .unset] [(.ref wB)]))
  obtain ⟨T12, X12, e12, st12⟩ := getS2 X11 hx hZ hown (host := "") (Or.inl hw18) Via.refl e11 (G.2.2.1.ext O0.2) (g := (mkF m 21 #[.val (.ref wB), .val (.int ip), .unset] [(.ref wB)])) rfl (hb hby d3_21)
  refine Go.by' st12 ?_
  show Go p.tables e below Pf (T12.setTop (mkF m 24 #[.val (.ref wB), .val (.int ip), .unset] [(.ref wB), (.ref wB)]))
  refine Go.by' (fun t k => Jvm.RoadKit.acmp (g := (mkF m 24 #[.val (.ref wB), .val (.int ip), .unset] [(.ref wB), (.ref wB)])) X12 hx rfl rfl rfl (pc0 := 24) (pc' := 27) (same := true) rfl (hb hby d3_24) rfl (decide_eq_true rfl) (by decide) (by decide) k) ?_
  show Go p.tables e below Pf (T12.setTop (mkF m 27 #[.val (.ref wB), .val (.int ip), .unset] []))
  refine Go.by' (fun t k => (XS.iloadN X12.here hx rfl (hb hby d3_27) rfl k)) ?_
  show Go p.tables e below Pf (T12.setTop (mkF m 28 #[.val (.ref wB), .val (.int ip), .unset] [(.int ip)]))
  have jn14 : ∀ (T' : State) (w14_0 : Int32), Like X12 T' → T'.heap = h0 → ((ip < (0 : Int32) ∧ w14_0 = (1 : Int32)) ∨ (¬ (ip < (0 : Int32)) ∧ w14_0 = (0 : Int32))) → Go p.tables e below Pf (T'.setTop (mkF m 36 #[.val (.ref wB), .val (.int ip), .unset] [(.int w14_0)])) := by
    intro T14 w14_0 X14 e14 hm14
    unfold Like at X14
    have bw14_0 : w14_0 = 0 ∨ w14_0 = 1 := by rcases hm14 with ⟨_, h⟩ | ⟨_, h⟩ <;> first | exact Or.inl h | exact Or.inr h
    show Go p.tables e below Pf (T14.setTop (mkF m 36 #[.val (.ref wB), .val (.int ip), .unset] [(.int w14_0)]))
    refine Go.by' (fun t k => (XS.istoreN X14.here hx rfl (hb hby d3_36) rfl (l' := #[.val (.ref wB), .val (.int ip), .val (.int w14_0)]) rfl (XS.goto X14.here hx rfl (pc0 := 37) (pc' := 50) rfl (hb hby d3_37) (by decide) (by decide) (XS.iloadN X14.here hx rfl (hb hby d3_50) rfl k)))) ?_
    show Go p.tables e below Pf (T14.setTop (mkF m 51 #[.val (.ref wB), .val (.int ip), .val (.int w14_0)] [(.int w14_0)]))
    rw [hPf]
    exact Go.retI' X14 hx hret hlk (by simp) (by rcases hm14 with ⟨_, rfl⟩ | ⟨_, rfl⟩ <;> rfl) (hb hby d3_51) (by decide) (by decide) ⟨w14_0, rfl, rfl, e14, hm14⟩
  by_cases hc15 : ip < (0 : Int32)
  · refine Go.by' (fun t k => (XS.ifNo X12.here hx rfl (hb hby d3_28) rfl ((if0 _ _).trans (tlt hc15).2.1) (XS.iconst X12.here hx rfl (hb hby d3_31) (XS.goto X12.here hx rfl (pc0 := 32) (pc' := 36) rfl (hb hby d3_32) (by decide) (by decide) k)))) ?_
    show Go p.tables e below Pf (T12.setTop (mkF m 36 #[.val (.ref wB), .val (.int ip), .unset] [(.int (1 : Int32))]))
    exact jn14 T12 ((1 : Int32)) X12 e12  (Or.inl ⟨hc15, rfl⟩)
  · refine Go.by' (fun t k => (XS.ifYes X12.here hx rfl (pc0 := 28) (pc' := 35) rfl (hb hby d3_28) rfl ((if0 _ _).trans (flt hc15).2.1) (by decide) (by decide) (XS.iconst X12.here hx rfl (hb hby d3_35) k))) ?_
    show Go p.tables e below Pf (T12.setTop (mkF m 36 #[.val (.ref wB), .val (.int ip), .unset] [(.int (0 : Int32))]))
    exact jn14 T12 ((0 : Int32)) X12 e12  (Or.inr ⟨hc15, rfl⟩)
theorem d3_40 : decode prog_65_method_5_code 40 = .ok (.iload_n 1, 1) := by decide +kernel
theorem d3_41 : decode prog_65_method_5_code 41 = .ok (.ifCond .le 7, 3) := by decide +kernel
theorem d3_44 : decode prog_65_method_5_code 44 = .ok (.iconst 1, 1) := by decide +kernel
theorem d3_45 : decode prog_65_method_5_code 45 = .ok (.goto 4, 3) := by decide +kernel
theorem d3_48 : decode prog_65_method_5_code 48 = .ok (.iconst 0, 1) := by decide +kernel
theorem d3_49 : decode prog_65_method_5_code 49 = .ok (.istore_n 2, 1) := by decide +kernel
set_option maxHeartbeats 4000000 in
theorem ef_rmHA (m : MethodId) {wA : Addr} {ip : Int32} : entryFrame m #[(.ref wA), (.int ip)] 3 = mkF m 0 #[.val (.ref wA), .val (.int ip), .unset] [] := by first | (simp [entryFrame, mkF, argsToLocals, Value.category]; done) | rfl
def QrmHA (Z : State) (wE : Addr) (wB : Addr) (wA : Addr) (ip : Int32) (h0 : Heap) (n0 : Nat) (v : Option Value) (h : Heap) (L : List Loc) : Prop := ∃ (r : Int32), (v = some (.int r)) ∧ (L = []) ∧ (h = h0) ∧ (((0 : Int32) < ip ∧ r = (1 : Int32)) ∨ (¬ ((0 : Int32) < ip) ∧ r = (0 : Int32)))
set_option maxRecDepth 65536 in
set_option maxHeartbeats 40000000 in
theorem rmHA (l : Launch) (Z : State) (a0 : Array Value) (hw : ∀ d ∈ tables_1, d.before a0 Z = true) (ws : List Jvm.Cond) (wE : Addr) (wB : Addr) (wA : Addr) (G : Gh Z wE wB wA) (ip : Int32) (h0 : Heap) (n0 : Nat) (O0 : Old Z n0 h0) :
    MetFree l (⟨"com/example/libfnseq/libfnseq/NumericValue$Relation", "holds", "(I)Z"⟩ : MethodName) (head1 (Jvm.Cond.code (⟨"com/example/libfnseq/libfnseq/NumericValue$Relation", "holds", "(I)Z"⟩ : MethodName) prog_65_method_5_code 3 (some .boolean) :: ws) ({ frames := 0, cells := 0, slots := 0, locals := 0 } : Room)) (fun aa' UU' => aa' = #[(.ref wA), (.int ip)] ∧ Z.Warmed39 UU'.vm ∧ UU'.heap = h0) (fun _ _ _ _ _ => True) (fun _ UU' oo' VV' => ∃ v' L', oo' = .returned v' ∧ QrmHA Z wE wB wA ip h0 n0 v' VV'.heap L' ∧ FrameEnd UU' oo' VV' L' ({ frames := 0, cells := 0, slots := 0, locals := 0 } : Room).cells ({ frames := 0, cells := 0, slots := 0, locals := 0 } : Room).slots) := by
  refine MetFree.of_bodySF (plainFor_of_name pn_3) hisR ?_
  intro p e s m args below meth c s₁ Bd hml0 hP hK
  obtain ⟨rfl, hZ, hh⟩ := hP
  have hx := Bd.exec
  have hby := Bd.bytes
  have hlk := Bd.notSynchronized
  have hml : c.maxLocals = 3 := hml0
  have hown : s.vm.findClass "com/example/libfnseq/libfnseq/NumericValue$Relation" = some m.cls := findClass_of_methodNamed Bd.named
  have hnm := (name_of_methodNamed Bd.named Bd.method).1
  have hret := Bd.returns
  have X0 : Stand p l e ({ frames := 0, cells := 0, slots := 0, locals := 0 } : Room) s m #[(.ref wA), (.int ip)] below meth c s₁ [] 0 0 := Stand.of_body Bd
  have e0 : s₁.heap = h0 := by rw [← hh, Bd.state]; rfl
  have N0 := Fr.nil n0
  refine Go.body ?_
  obtain ⟨Pf, hPf⟩ : ∃ P, P = Fin' s below ({ frames := 0, cells := 0, slots := 0, locals := 0 } : Room).cells ({ frames := 0, cells := 0, slots := 0, locals := 0 } : Room).slots (QrmHA Z wE wB wA ip h0 n0) := ⟨_, rfl⟩
  rw [← hPf]
  refine Go.cast (ef_rmHA m) ?_
  have hw15 := (hw _ (List.mem_of_getElem? (i := 15) rfl))
  have hw18 := (hw _ (List.mem_of_getElem? (i := 18) rfl))
  show Go p.tables e below Pf (s₁.setTop (mkF m 0 #[.val (.ref wA), .val (.int ip), .unset] []))
  refine Go.by' (fun t k => (XS.aloadN X0.here hx rfl (hb hby d3_0) rfl rfl k)) ?_
  show Go p.tables e below Pf (s₁.setTop (mkF m 1 #[.val (.ref wA), .val (.int ip), .unset] [(.ref wA)]))
  obtain ⟨T16, X16, e16, st16⟩ := getS2 X0 hx hZ hown (host := "") (Or.inl hw15) Via.refl e0 (G.1.ext O0.2) (g := (mkF m 1 #[.val (.ref wA), .val (.int ip), .unset] [(.ref wA)])) rfl (hb hby d3_1)
  refine Go.by' st16 ?_
  show Go p.tables e below Pf (T16.setTop (mkF m 4 #[.val (.ref wA), .val (.int ip), .unset] [(.ref wE), (.ref wA)]))
  refine Go.by' (fun t k => Jvm.RoadKit.acmp (g := (mkF m 4 #[.val (.ref wA), .val (.int ip), .unset] [(.ref wE), (.ref wA)])) X16 hx rfl rfl rfl (pc0 := 4) (pc' := 20) (same := false) rfl (hb hby d3_4) rfl (decide_eq_false (fun q => (Ne.symm G.2.2.2.2.2.2.2.1) (Value.ref.inj q))) (by decide) (by decide) k) ?_
  show Go p.tables e below Pf (T16.setTop (mkF m 20 #[.val (.ref wA), .val (.int ip), .unset] []))
  refine Go.by' (fun t k => (XS.aloadN X16.here hx rfl (hb hby d3_20) rfl rfl k)) ?_
  show Go p.tables e below Pf (T16.setTop (mkF m 21 #[.val (.ref wA), .val (.int ip), .unset] [(.ref wA)]))
  obtain ⟨T17, X17, e17, st17⟩ := getS2 X16 hx hZ hown (host := "") (Or.inl hw18) Via.refl e16 (G.2.2.1.ext O0.2) (g := (mkF m 21 #[.val (.ref wA), .val (.int ip), .unset] [(.ref wA)])) rfl (hb hby d3_21)
  refine Go.by' st17 ?_
  show Go p.tables e below Pf (T17.setTop (mkF m 24 #[.val (.ref wA), .val (.int ip), .unset] [(.ref wB), (.ref wA)]))
  refine Go.by' (fun t k => Jvm.RoadKit.acmp (g := (mkF m 24 #[.val (.ref wA), .val (.int ip), .unset] [(.ref wB), (.ref wA)])) X17 hx rfl rfl rfl (pc0 := 24) (pc' := 40) (same := false) rfl (hb hby d3_24) rfl (decide_eq_false (fun q => (Ne.symm G.2.2.2.2.2.2.2.2) (Value.ref.inj q))) (by decide) (by decide) k) ?_
  show Go p.tables e below Pf (T17.setTop (mkF m 40 #[.val (.ref wA), .val (.int ip), .unset] []))
  refine Go.by' (fun t k => (XS.iloadN X17.here hx rfl (hb hby d3_40) rfl k)) ?_
  show Go p.tables e below Pf (T17.setTop (mkF m 41 #[.val (.ref wA), .val (.int ip), .unset] [(.int ip)]))
  have jn19 : ∀ (T' : State) (w19_0 : Int32), Like X17 T' → T'.heap = h0 → (((0 : Int32) < ip ∧ w19_0 = (1 : Int32)) ∨ (¬ ((0 : Int32) < ip) ∧ w19_0 = (0 : Int32))) → Go p.tables e below Pf (T'.setTop (mkF m 49 #[.val (.ref wA), .val (.int ip), .unset] [(.int w19_0)])) := by
    intro T19 w19_0 X19 e19 hm19
    unfold Like at X19
    have bw19_0 : w19_0 = 0 ∨ w19_0 = 1 := by rcases hm19 with ⟨_, h⟩ | ⟨_, h⟩ <;> first | exact Or.inl h | exact Or.inr h
    show Go p.tables e below Pf (T19.setTop (mkF m 49 #[.val (.ref wA), .val (.int ip), .unset] [(.int w19_0)]))
    refine Go.by' (fun t k => (XS.istoreN X19.here hx rfl (hb hby d3_49) rfl (l' := #[.val (.ref wA), .val (.int ip), .val (.int w19_0)]) rfl (XS.iloadN X19.here hx rfl (hb hby d3_50) rfl k))) ?_
    show Go p.tables e below Pf (T19.setTop (mkF m 51 #[.val (.ref wA), .val (.int ip), .val (.int w19_0)] [(.int w19_0)]))
    rw [hPf]
    exact Go.retI' X19 hx hret hlk (by simp) (by rcases hm19 with ⟨_, rfl⟩ | ⟨_, rfl⟩ <;> rfl) (hb hby d3_51) (by decide) (by decide) ⟨w19_0, rfl, rfl, e19, hm19⟩
  by_cases hc20 : (0 : Int32) < ip
  · refine Go.by' (fun t k => (XS.ifNo X17.here hx rfl (hb hby d3_41) rfl ((if0 _ _).trans (tlt hc20).2.2.2) (XS.iconst X17.here hx rfl (hb hby d3_44) (XS.goto X17.here hx rfl (pc0 := 45) (pc' := 49) rfl (hb hby d3_45) (by decide) (by decide) k)))) ?_
    show Go p.tables e below Pf (T17.setTop (mkF m 49 #[.val (.ref wA), .val (.int ip), .unset] [(.int (1 : Int32))]))
    exact jn19 T17 ((1 : Int32)) X17 e17  (Or.inl ⟨hc20, rfl⟩)
  · refine Go.by' (fun t k => (XS.ifYes X17.here hx rfl (pc0 := 41) (pc' := 48) rfl (hb hby d3_41) rfl ((if0 _ _).trans (flt hc20).2.2.2) (by decide) (by decide) (XS.iconst X17.here hx rfl (hb hby d3_48) k))) ?_
    show Go p.tables e below Pf (T17.setTop (mkF m 49 #[.val (.ref wA), .val (.int ip), .unset] [(.int (0 : Int32))]))
    exact jn19 T17 ((0 : Int32)) X17 e17  (Or.inr ⟨hc20, rfl⟩)
theorem pd_0 : parseMethodDescriptor "(II)I" = some ⟨[.int, .int], some .int⟩ := by decide +kernel
theorem pd_1 : parseMethodDescriptor "(I)Z" = some ⟨[.int], some .boolean⟩ := by decide +kernel
theorem pn_0 : plainName "com/example/libfnseq/libfnseq/RelationHolds277PinLaw" = true := by first | (simp [plainName, overriddenIn]; done) | decide +kernel
set_option maxHeartbeats 4000000 in
theorem ef_rm0 (m : MethodId) {ip : Int32} : entryFrame m #[(.int ip)] maxLocals = mkF m 0 #[.val (.int ip), .unset, .unset, .unset, .unset] [] := by first | (simp [entryFrame, mkF, argsToLocals, Value.category, maxLocals]; done) | rfl
def Qrm0 (Z : State) (wE : Addr) (wB : Addr) (wA : Addr) (ip : Int32) (h0 : Heap) (n0 : Nat) (v : Option Value) (h : Heap) (L : List Loc) : Prop := (v = some (.int (1 : Int32))) ∧ (L = []) ∧ (h = h0)
set_option maxRecDepth 65536 in
set_option maxHeartbeats 40000000 in
theorem rm0 (l : Launch) (Z : State) (a0 : Array Value) (hw : ∀ d ∈ tables_1, d.before a0 Z = true) (ws : List Jvm.Cond) (wE : Addr) (wB : Addr) (wA : Addr) (G : Gh Z wE wB wA) (ip : Int32) (h0 : Heap) (n0 : Nat) (O0 : Old Z n0 h0) :
    MetFree l x (head1 (Jvm.Cond.code x code maxLocals ret :: ws) room_1) (fun aa' UU' => aa' = #[(.int ip)] ∧ Z.Warmed39 UU'.vm ∧ UU'.heap = h0) (fun _ _ _ _ _ => True) (fun _ UU' oo' VV' => ∃ v' L', oo' = .returned v' ∧ Qrm0 Z wE wB wA ip h0 n0 v' VV'.heap L' ∧ FrameEnd UU' oo' VV' L' 0 0) := by
  refine MetFree.of_bodySF (plainFor_of_name pn_0) hisR ?_
  intro p e s m args below meth c s₁ Bd hml0 hP hK
  obtain ⟨rfl, hZ, hh⟩ := hP
  have hx := Bd.exec
  have hby := Bd.bytes
  have hlk := Bd.notSynchronized
  have hml : c.maxLocals = 5 := hml0
  have hown : s.vm.findClass "com/example/libfnseq/libfnseq/RelationHolds277PinLaw" = some m.cls := findClass_of_methodNamed Bd.named
  have hnm := (name_of_methodNamed Bd.named Bd.method).1
  have hret := Bd.returns
  have X0 : Stand p l e room_1 s m #[(.int ip)] below meth c s₁ [] 0 0 := Stand.of_body Bd
  have e0 : s₁.heap = h0 := by rw [← hh, Bd.state]; rfl
  have N0 := Fr.nil n0
  refine Go.body ?_
  obtain ⟨Pf, hPf⟩ : ∃ P, P = Fin' s below 0 0 (Qrm0 Z wE wB wA ip h0 n0) := ⟨_, rfl⟩
  rw [← hPf]
  refine Go.cast (ef_rm0 m) ?_
  have hw0 := (hw _ (List.mem_of_getElem? (i := 0) rfl))
  have hw1 := (hw _ (List.mem_of_getElem? (i := 1) rfl))
  have hw2 := (hw _ (List.mem_of_getElem? (i := 2) rfl))
  have hw3 := (hw _ (List.mem_of_getElem? (i := 3) rfl))
  have hw4 := (hw _ (List.mem_of_getElem? (i := 4) rfl))
  have hw5 := (hw _ (List.mem_of_getElem? (i := 5) rfl))
  have hw6 := (hw _ (List.mem_of_getElem? (i := 6) rfl))
  have hw7 := (hw _ (List.mem_of_getElem? (i := 7) rfl))
  have hw8 := (hw _ (List.mem_of_getElem? (i := 8) rfl))
  have hw10 := (hw _ (List.mem_of_getElem? (i := 10) rfl))
  have hw11 := (hw _ (List.mem_of_getElem? (i := 11) rfl))
  have hw12 := (hw _ (List.mem_of_getElem? (i := 12) rfl))
  have hw13 := (hw _ (List.mem_of_getElem? (i := 13) rfl))
  have hw14 := (hw _ (List.mem_of_getElem? (i := 14) rfl))
  have hw16 := (hw _ (List.mem_of_getElem? (i := 16) rfl))
  have hw19 := (hw _ (List.mem_of_getElem? (i := 19) rfl))
  show Go p.tables e below Pf (s₁.setTop (mkF m 0 #[.val (.int ip), .unset, .unset, .unset, .unset] []))
  refine Go.by' (fun t k => (XS.iconst X0.here hx rfl (hb hby at_0) (XS.iloadN X0.here hx rfl (hb hby at_1) rfl (XS.iconst X0.here hx rfl (hb hby at_2) k)))) ?_
  show Go p.tables e below Pf (s₁.setTop (mkF m 3 #[.val (.int ip), .unset, .unset, .unset, .unset] [(.int (1 : Int32)), (.int ip), (.int (-1 : Int32))]))
  obtain ⟨_, _, ⟨T21, L21, k21, n21⟩, -, X21, ⟨Lc21, hQ21, l21, y21, z21⟩, st21⟩ := Jvm.LawKit.callS X0 hx (y := (⟨"java/lang/Math", "min", "(II)I"⟩ : MethodName)) hown (mvT hZ hw0) (mvT hZ hw1) (mvT hZ hw2) (mvT hZ hw3) (by decide) (backOf (W := 1) (rmMin l Z a0 hw [] wE wB wA G ip ((1 : Int32)) h0 n0 O0 ) hZ hw3 hw2 (by decide) (by decide)) (g := (mkF m 3 #[.val (.int ip), .unset, .unset, .unset, .unset] [(.int (1 : Int32)), (.int ip), (.int (-1 : Int32))])) rfl (by rw [hml]; rfl) (argsL := [(.int ip), (.int (1 : Int32))]) (rest := [(.int (-1 : Int32))]) (lenOf pd_0 rfl) rfl (by show 2 * 0 + _ ≤ _; exact Nat.le_of_eq rfl) (hb hby at_3) (fun _ _ => ⟨rfl, e0, (by decide : 0 + 0 ≤ _), (by decide : 0 + 0 ≤ _)⟩)
  dsimp only [Pt.U, Pt.locs, Pt.cells, Pt.slots] at X21 l21 y21 z21 st21 hQ21
  subst l21 y21 z21
  obtain ⟨r_21, rfl, rfl, e21, r21_0⟩ := hQ21
  try rw [List.append_nil] at X21
  refine Go.by' st21 ?_
  show Go p.tables e below Pf (T21.setTop (mkF m 6 #[.val (.int ip), .unset, .unset, .unset, .unset] [(.int r_21), (.int (-1 : Int32))]))
  obtain ⟨_, _, ⟨T22, L22, k22, n22⟩, -, X22, ⟨Lc22, hQ22, l22, y22, z22⟩, st22⟩ := Jvm.LawKit.callS X21 hx (y := (⟨"java/lang/Math", "max", "(II)I"⟩ : MethodName)) hown (mvT hZ hw4) (mvT hZ hw5) (mvT hZ hw2) (mvT hZ hw6) (by decide) (backOf (W := 0) (rmMax l Z a0 hw [] wE wB wA G ((-1 : Int32)) r_21 h0 n0 O0 ) hZ hw6 hw2 (by decide) (by decide)) (g := (mkF m 6 #[.val (.int ip), .unset, .unset, .unset, .unset] [(.int r_21), (.int (-1 : Int32))])) rfl (by rw [hml]; rfl) (argsL := [(.int (-1 : Int32)), (.int r_21)]) (rest := []) (lenOf pd_0 rfl) rfl (by show 2 * 0 + _ ≤ _; exact Nat.le_of_eq rfl) (hb hby at_6) (fun _ _ => ⟨rfl, e21, (by decide : 0 + 0 ≤ _), (by decide : 0 + 0 ≤ _)⟩)
  dsimp only [Pt.U, Pt.locs, Pt.cells, Pt.slots] at X22 l22 y22 z22 st22 hQ22
  subst l22 y22 z22
  obtain ⟨r_22, rfl, rfl, e22, r22_0⟩ := hQ22
  try rw [List.append_nil] at X22
  refine Go.by' st22 ?_
  have sg22 : (ip < (0 : Int32) ∧ r_22 = (-1 : Int32)) ∨ (ip = (0 : Int32) ∧ r_22 = (0 : Int32)) ∨ ((0 : Int32) < ip ∧ r_22 = (1 : Int32)) := by
    have := own_i0; have := own_i1; have := own_im
    simp only [Int32.lt_iff_toInt_lt, ← Int32.toInt_inj] at r21_0 r22_0 ⊢
    omega
  rcases sg22 with ⟨hp, rfl⟩ | ⟨hp, rfl⟩ | ⟨hp, rfl⟩
  · show Go p.tables e below Pf (T22.setTop (mkF m 9 #[.val (.int ip), .unset, .unset, .unset, .unset] [(.int (-1 : Int32))]))
    refine Go.by' (fun t k => (XS.istoreN X22.here hx rfl (hb hby at_9) rfl (l' := #[.val (.int ip), .val (.int (-1 : Int32)), .unset, .unset, .unset]) rfl k)) ?_
    show Go p.tables e below Pf (T22.setTop (mkF m 10 #[.val (.int ip), .val (.int (-1 : Int32)), .unset, .unset, .unset] []))
    obtain ⟨T23, X23, e23, st23⟩ := getS2 X22 hx hZ hown (host := "") (Or.inl hw7) Via.refl e22 (G.1.ext O0.2) (g := (mkF m 10 #[.val (.int ip), .val (.int (-1 : Int32)), .unset, .unset, .unset] [])) rfl (hb hby at_10)
    refine Go.by' st23 ?_
    show Go p.tables e below Pf (T23.setTop (mkF m 13 #[.val (.int ip), .val (.int (-1 : Int32)), .unset, .unset, .unset] [(.ref wE)]))
    refine Go.by' (fun t k => (XS.iloadN X23.here hx rfl (hb hby at_13) rfl k)) ?_
    show Go p.tables e below Pf (T23.setTop (mkF m 14 #[.val (.int ip), .val (.int (-1 : Int32)), .unset, .unset, .unset] [(.int ip), (.ref wE)]))
    obtain ⟨cq24, kq24, q24a, q24b, q24c⟩ := isOf hZ e23 (G.2.1.ext O0.2)
    obtain ⟨_, _, ⟨T24, L24, k24, n24⟩, -, X24, ⟨Lc24, hQ24, l24, y24, z24⟩, st24⟩ := X23.virtualBack hx (y := (⟨"com/example/libfnseq/libfnseq/NumericValue$Relation", "holds", "(I)Z"⟩ : MethodName)) (z := (⟨"com/example/libfnseq/libfnseq/NumericValue$Relation", "holds", "(I)Z"⟩ : MethodName)) hown (mvT hZ hw10) (mvT hZ hw11) (notFace_of_selects (args := #[]) (mvT hZ hw13)) (mvT hZ hw13) (mvT hZ hw12) (by decide) (backOf (W := 0) (rmHE l Z a0 hw [] wE wB wA G ip h0 n0 O0 ) hZ hw14 hw8 (by decide) (by decide)) q24a q24c (g := (mkF m 14 #[.val (.int ip), .val (.int (-1 : Int32)), .unset, .unset, .unset] [(.int ip), (.ref wE)])) rfl (by rw [hml]; rfl) (Steps.refl _) (argsL := [(.int ip)]) (rest := []) (lenOf pd_1 rfl) rfl (by show 2 * 0 + _ ≤ _; exact Nat.le_of_eq rfl) (hb hby at_14) (fun _ _ => ⟨rfl, e23, (by decide : 0 + 0 ≤ _), (by decide : 0 + 0 ≤ _)⟩)
    dsimp only [Pt.U, Pt.locs, Pt.cells, Pt.slots] at X24 l24 y24 z24 st24 hQ24
    subst l24 y24 z24
    obtain ⟨r_24, rfl, rfl, e24, r24_0⟩ := hQ24
    try rw [List.append_nil] at X24
    refine Go.by' (fun t k => st24.trans k) ?_
    obtain rfl : r_24 = (0 : Int32) := by
      rcases r24_0 with ⟨h1, h2⟩ | ⟨h1, h2⟩ <;> first | exact h2 | (exfalso; have := own_i0; simp only [Int32.lt_iff_toInt_lt, ← Int32.toInt_inj] at h1 hp; omega)
    show Go p.tables e below Pf (T24.setTop (mkF m 17 #[.val (.int ip), .val (.int (-1 : Int32)), .unset, .unset, .unset] [(.int (0 : Int32))]))
    refine Go.by' (fun t k => (XS.istoreN X24.here hx rfl (hb hby at_17) rfl (l' := #[.val (.int ip), .val (.int (-1 : Int32)), .val (.int (0 : Int32)), .unset, .unset]) rfl k)) ?_
    show Go p.tables e below Pf (T24.setTop (mkF m 18 #[.val (.int ip), .val (.int (-1 : Int32)), .val (.int (0 : Int32)), .unset, .unset] []))
    obtain ⟨T25, X25, e25, st25⟩ := getS2 X24 hx hZ hown (host := "") (Or.inl hw16) Via.refl e24 (G.2.2.1.ext O0.2) (g := (mkF m 18 #[.val (.int ip), .val (.int (-1 : Int32)), .val (.int (0 : Int32)), .unset, .unset] [])) rfl (hb hby at_18)
    refine Go.by' st25 ?_
    show Go p.tables e below Pf (T25.setTop (mkF m 21 #[.val (.int ip), .val (.int (-1 : Int32)), .val (.int (0 : Int32)), .unset, .unset] [(.ref wB)]))
    refine Go.by' (fun t k => (XS.iloadN X25.here hx rfl (hb hby at_21) rfl k)) ?_
    show Go p.tables e below Pf (T25.setTop (mkF m 22 #[.val (.int ip), .val (.int (-1 : Int32)), .val (.int (0 : Int32)), .unset, .unset] [(.int ip), (.ref wB)]))
    obtain ⟨cq26, kq26, q26a, q26b, q26c⟩ := isOf hZ e25 (G.2.2.2.1.ext O0.2)
    obtain ⟨_, _, ⟨T26, L26, k26, n26⟩, -, X26, ⟨Lc26, hQ26, l26, y26, z26⟩, st26⟩ := X25.virtualBack hx (y := (⟨"com/example/libfnseq/libfnseq/NumericValue$Relation", "holds", "(I)Z"⟩ : MethodName)) (z := (⟨"com/example/libfnseq/libfnseq/NumericValue$Relation", "holds", "(I)Z"⟩ : MethodName)) hown (mvT hZ hw10) (mvT hZ hw11) (notFace_of_selects (args := #[]) (mvT hZ hw13)) (mvT hZ hw13) (mvT hZ hw12) (by decide) (backOf (W := 0) (rmHB l Z a0 hw [] wE wB wA G ip h0 n0 O0 ) hZ hw14 hw8 (by decide) (by decide)) q26a q26c (g := (mkF m 22 #[.val (.int ip), .val (.int (-1 : Int32)), .val (.int (0 : Int32)), .unset, .unset] [(.int ip), (.ref wB)])) rfl (by rw [hml]; rfl) (Steps.refl _) (argsL := [(.int ip)]) (rest := []) (lenOf pd_1 rfl) rfl (by show 2 * 0 + _ ≤ _; exact Nat.le_of_eq rfl) (hb hby at_22) (fun _ _ => ⟨rfl, e25, (by decide : 0 + 0 ≤ _), (by decide : 0 + 0 ≤ _)⟩)
    dsimp only [Pt.U, Pt.locs, Pt.cells, Pt.slots] at X26 l26 y26 z26 st26 hQ26
    subst l26 y26 z26
    obtain ⟨r_26, rfl, rfl, e26, r26_0⟩ := hQ26
    try rw [List.append_nil] at X26
    refine Go.by' (fun t k => st26.trans k) ?_
    obtain rfl : r_26 = (1 : Int32) := by
      rcases r26_0 with ⟨h1, h2⟩ | ⟨h1, h2⟩ <;> first | exact h2 | (exfalso; have := own_i0; simp only [Int32.lt_iff_toInt_lt, ← Int32.toInt_inj] at h1 hp; omega)
    show Go p.tables e below Pf (T26.setTop (mkF m 25 #[.val (.int ip), .val (.int (-1 : Int32)), .val (.int (0 : Int32)), .unset, .unset] [(.int (1 : Int32))]))
    refine Go.by' (fun t k => (XS.istoreN X26.here hx rfl (hb hby at_25) rfl (l' := #[.val (.int ip), .val (.int (-1 : Int32)), .val (.int (0 : Int32)), .val (.int (1 : Int32)), .unset]) rfl k)) ?_
    show Go p.tables e below Pf (T26.setTop (mkF m 26 #[.val (.int ip), .val (.int (-1 : Int32)), .val (.int (0 : Int32)), .val (.int (1 : Int32)), .unset] []))
    obtain ⟨T27, X27, e27, st27⟩ := getS2 X26 hx hZ hown (host := "") (Or.inl hw19) Via.refl e26 (G.2.2.2.2.1.ext O0.2) (g := (mkF m 26 #[.val (.int ip), .val (.int (-1 : Int32)), .val (.int (0 : Int32)), .val (.int (1 : Int32)), .unset] [])) rfl (hb hby at_26)
    refine Go.by' st27 ?_
    show Go p.tables e below Pf (T27.setTop (mkF m 29 #[.val (.int ip), .val (.int (-1 : Int32)), .val (.int (0 : Int32)), .val (.int (1 : Int32)), .unset] [(.ref wA)]))
    refine Go.by' (fun t k => (XS.iloadN X27.here hx rfl (hb hby at_29) rfl k)) ?_
    show Go p.tables e below Pf (T27.setTop (mkF m 30 #[.val (.int ip), .val (.int (-1 : Int32)), .val (.int (0 : Int32)), .val (.int (1 : Int32)), .unset] [(.int ip), (.ref wA)]))
    obtain ⟨cq28, kq28, q28a, q28b, q28c⟩ := isOf hZ e27 (G.2.2.2.2.2.1.ext O0.2)
    obtain ⟨_, _, ⟨T28, L28, k28, n28⟩, -, X28, ⟨Lc28, hQ28, l28, y28, z28⟩, st28⟩ := X27.virtualBack hx (y := (⟨"com/example/libfnseq/libfnseq/NumericValue$Relation", "holds", "(I)Z"⟩ : MethodName)) (z := (⟨"com/example/libfnseq/libfnseq/NumericValue$Relation", "holds", "(I)Z"⟩ : MethodName)) hown (mvT hZ hw10) (mvT hZ hw11) (notFace_of_selects (args := #[]) (mvT hZ hw13)) (mvT hZ hw13) (mvT hZ hw12) (by decide) (backOf (W := 0) (rmHA l Z a0 hw [] wE wB wA G ip h0 n0 O0 ) hZ hw14 hw8 (by decide) (by decide)) q28a q28c (g := (mkF m 30 #[.val (.int ip), .val (.int (-1 : Int32)), .val (.int (0 : Int32)), .val (.int (1 : Int32)), .unset] [(.int ip), (.ref wA)])) rfl (by rw [hml]; rfl) (Steps.refl _) (argsL := [(.int ip)]) (rest := []) (lenOf pd_1 rfl) rfl (by show 2 * 0 + _ ≤ _; exact Nat.le_of_eq rfl) (hb hby at_30) (fun _ _ => ⟨rfl, e27, (by decide : 0 + 0 ≤ _), (by decide : 0 + 0 ≤ _)⟩)
    dsimp only [Pt.U, Pt.locs, Pt.cells, Pt.slots] at X28 l28 y28 z28 st28 hQ28
    subst l28 y28 z28
    obtain ⟨r_28, rfl, rfl, e28, r28_0⟩ := hQ28
    try rw [List.append_nil] at X28
    refine Go.by' (fun t k => st28.trans k) ?_
    obtain rfl : r_28 = (0 : Int32) := by
      rcases r28_0 with ⟨h1, h2⟩ | ⟨h1, h2⟩ <;> first | exact h2 | (exfalso; have := own_i0; simp only [Int32.lt_iff_toInt_lt, ← Int32.toInt_inj] at h1 hp; omega)
    show Go p.tables e below Pf (T28.setTop (mkF m 33 #[.val (.int ip), .val (.int (-1 : Int32)), .val (.int (0 : Int32)), .val (.int (1 : Int32)), .unset] [(.int (0 : Int32))]))
    refine Go.by' (fun t k => (XS.istore X28.here hx rfl (hb hby at_33) rfl (l' := #[.val (.int ip), .val (.int (-1 : Int32)), .val (.int (0 : Int32)), .val (.int (1 : Int32)), .val (.int (0 : Int32))]) rfl (XS.iloadN X28.here hx rfl (hb hby at_35) rfl (XS.iloadN X28.here hx rfl (hb hby at_36) rfl (XS.ifYes X28.here hx rfl (pc0 := 37) (pc' := 44) rfl (hb hby at_37) rfl ((if0 _ _).trans (feq (by decide)).2) (by decide) (by decide) (XS.iconst X28.here hx rfl (hb hby at_44) (XS.icmpNo X28.here hx rfl (hb hby at_45) rfl (teq (by decide)).2 k))))))) ?_
    show Go p.tables e below Pf (T28.setTop (mkF m 48 #[.val (.int ip), .val (.int (-1 : Int32)), .val (.int (0 : Int32)), .val (.int (1 : Int32)), .val (.int (0 : Int32))] []))
    refine Go.by' (fun t k => (XS.iloadN X28.here hx rfl (hb hby at_48) rfl (XS.iloadN X28.here hx rfl (hb hby at_49) rfl (XS.iconst X28.here hx rfl (hb hby at_50) (XS.icmpNo X28.here hx rfl (hb hby at_51) rfl (teq (by decide)).2 (XS.iconst X28.here hx rfl (hb hby at_54) (XS.goto X28.here hx rfl (pc0 := 55) (pc' := 59) rfl (hb hby at_55) (by decide) (by decide) k))))))) ?_
    show Go p.tables e below Pf (T28.setTop (mkF m 59 #[.val (.int ip), .val (.int (-1 : Int32)), .val (.int (0 : Int32)), .val (.int (1 : Int32)), .val (.int (0 : Int32))] [(.int (1 : Int32)), (.int (1 : Int32))]))
    refine Go.by' (fun t k => (XS.icmpNo X28.here hx rfl (hb hby at_59) rfl (teq (by decide)).2 (XS.iload X28.here hx rfl (hb hby at_62) rfl (XS.iloadN X28.here hx rfl (hb hby at_64) rfl (XS.iconst X28.here hx rfl (hb hby at_65) (XS.icmpYes X28.here hx rfl (pc0 := 66) (pc' := 73) rfl (hb hby at_66) rfl (feq (by decide)).2 (by decide) (by decide) (XS.iconst X28.here hx rfl (hb hby at_73) k))))))) ?_
    show Go p.tables e below Pf (T28.setTop (mkF m 74 #[.val (.int ip), .val (.int (-1 : Int32)), .val (.int (0 : Int32)), .val (.int (1 : Int32)), .val (.int (0 : Int32))] [(.int (0 : Int32)), (.int (0 : Int32))]))
    refine Go.by' (fun t k => (XS.icmpNo X28.here hx rfl (hb hby at_74) rfl (teq (by decide)).2 (XS.iconst X28.here hx rfl (hb hby at_77) (XS.goto X28.here hx rfl (pc0 := 78) (pc' := 82) rfl (hb hby at_78) (by decide) (by decide) k)))) ?_
    show Go p.tables e below Pf (T28.setTop (mkF m 82 #[.val (.int ip), .val (.int (-1 : Int32)), .val (.int (0 : Int32)), .val (.int (1 : Int32)), .val (.int (0 : Int32))] [(.int (1 : Int32))]))
    rw [hPf]
    exact Go.retI' X28 hx hret hlk (by simp) rfl (hb hby at_82) (by decide) (by decide) ⟨rfl, rfl, e28⟩
  · show Go p.tables e below Pf (T22.setTop (mkF m 9 #[.val (.int ip), .unset, .unset, .unset, .unset] [(.int (0 : Int32))]))
    refine Go.by' (fun t k => (XS.istoreN X22.here hx rfl (hb hby at_9) rfl (l' := #[.val (.int ip), .val (.int (0 : Int32)), .unset, .unset, .unset]) rfl k)) ?_
    show Go p.tables e below Pf (T22.setTop (mkF m 10 #[.val (.int ip), .val (.int (0 : Int32)), .unset, .unset, .unset] []))
    obtain ⟨T29, X29, e29, st29⟩ := getS2 X22 hx hZ hown (host := "") (Or.inl hw7) Via.refl e22 (G.1.ext O0.2) (g := (mkF m 10 #[.val (.int ip), .val (.int (0 : Int32)), .unset, .unset, .unset] [])) rfl (hb hby at_10)
    refine Go.by' st29 ?_
    show Go p.tables e below Pf (T29.setTop (mkF m 13 #[.val (.int ip), .val (.int (0 : Int32)), .unset, .unset, .unset] [(.ref wE)]))
    refine Go.by' (fun t k => (XS.iloadN X29.here hx rfl (hb hby at_13) rfl k)) ?_
    show Go p.tables e below Pf (T29.setTop (mkF m 14 #[.val (.int ip), .val (.int (0 : Int32)), .unset, .unset, .unset] [(.int ip), (.ref wE)]))
    obtain ⟨cq30, kq30, q30a, q30b, q30c⟩ := isOf hZ e29 (G.2.1.ext O0.2)
    obtain ⟨_, _, ⟨T30, L30, k30, n30⟩, -, X30, ⟨Lc30, hQ30, l30, y30, z30⟩, st30⟩ := X29.virtualBack hx (y := (⟨"com/example/libfnseq/libfnseq/NumericValue$Relation", "holds", "(I)Z"⟩ : MethodName)) (z := (⟨"com/example/libfnseq/libfnseq/NumericValue$Relation", "holds", "(I)Z"⟩ : MethodName)) hown (mvT hZ hw10) (mvT hZ hw11) (notFace_of_selects (args := #[]) (mvT hZ hw13)) (mvT hZ hw13) (mvT hZ hw12) (by decide) (backOf (W := 0) (rmHE l Z a0 hw [] wE wB wA G ip h0 n0 O0 ) hZ hw14 hw8 (by decide) (by decide)) q30a q30c (g := (mkF m 14 #[.val (.int ip), .val (.int (0 : Int32)), .unset, .unset, .unset] [(.int ip), (.ref wE)])) rfl (by rw [hml]; rfl) (Steps.refl _) (argsL := [(.int ip)]) (rest := []) (lenOf pd_1 rfl) rfl (by show 2 * 0 + _ ≤ _; exact Nat.le_of_eq rfl) (hb hby at_14) (fun _ _ => ⟨rfl, e29, (by decide : 0 + 0 ≤ _), (by decide : 0 + 0 ≤ _)⟩)
    dsimp only [Pt.U, Pt.locs, Pt.cells, Pt.slots] at X30 l30 y30 z30 st30 hQ30
    subst l30 y30 z30
    obtain ⟨r_30, rfl, rfl, e30, r30_0⟩ := hQ30
    try rw [List.append_nil] at X30
    refine Go.by' (fun t k => st30.trans k) ?_
    obtain rfl : r_30 = (1 : Int32) := by
      rcases r30_0 with ⟨h1, h2⟩ | ⟨h1, h2⟩ <;> first | exact h2 | (exfalso; have := own_i0; simp only [Int32.lt_iff_toInt_lt, ← Int32.toInt_inj] at h1 hp; omega)
    show Go p.tables e below Pf (T30.setTop (mkF m 17 #[.val (.int ip), .val (.int (0 : Int32)), .unset, .unset, .unset] [(.int (1 : Int32))]))
    refine Go.by' (fun t k => (XS.istoreN X30.here hx rfl (hb hby at_17) rfl (l' := #[.val (.int ip), .val (.int (0 : Int32)), .val (.int (1 : Int32)), .unset, .unset]) rfl k)) ?_
    show Go p.tables e below Pf (T30.setTop (mkF m 18 #[.val (.int ip), .val (.int (0 : Int32)), .val (.int (1 : Int32)), .unset, .unset] []))
    obtain ⟨T31, X31, e31, st31⟩ := getS2 X30 hx hZ hown (host := "") (Or.inl hw16) Via.refl e30 (G.2.2.1.ext O0.2) (g := (mkF m 18 #[.val (.int ip), .val (.int (0 : Int32)), .val (.int (1 : Int32)), .unset, .unset] [])) rfl (hb hby at_18)
    refine Go.by' st31 ?_
    show Go p.tables e below Pf (T31.setTop (mkF m 21 #[.val (.int ip), .val (.int (0 : Int32)), .val (.int (1 : Int32)), .unset, .unset] [(.ref wB)]))
    refine Go.by' (fun t k => (XS.iloadN X31.here hx rfl (hb hby at_21) rfl k)) ?_
    show Go p.tables e below Pf (T31.setTop (mkF m 22 #[.val (.int ip), .val (.int (0 : Int32)), .val (.int (1 : Int32)), .unset, .unset] [(.int ip), (.ref wB)]))
    obtain ⟨cq32, kq32, q32a, q32b, q32c⟩ := isOf hZ e31 (G.2.2.2.1.ext O0.2)
    obtain ⟨_, _, ⟨T32, L32, k32, n32⟩, -, X32, ⟨Lc32, hQ32, l32, y32, z32⟩, st32⟩ := X31.virtualBack hx (y := (⟨"com/example/libfnseq/libfnseq/NumericValue$Relation", "holds", "(I)Z"⟩ : MethodName)) (z := (⟨"com/example/libfnseq/libfnseq/NumericValue$Relation", "holds", "(I)Z"⟩ : MethodName)) hown (mvT hZ hw10) (mvT hZ hw11) (notFace_of_selects (args := #[]) (mvT hZ hw13)) (mvT hZ hw13) (mvT hZ hw12) (by decide) (backOf (W := 0) (rmHB l Z a0 hw [] wE wB wA G ip h0 n0 O0 ) hZ hw14 hw8 (by decide) (by decide)) q32a q32c (g := (mkF m 22 #[.val (.int ip), .val (.int (0 : Int32)), .val (.int (1 : Int32)), .unset, .unset] [(.int ip), (.ref wB)])) rfl (by rw [hml]; rfl) (Steps.refl _) (argsL := [(.int ip)]) (rest := []) (lenOf pd_1 rfl) rfl (by show 2 * 0 + _ ≤ _; exact Nat.le_of_eq rfl) (hb hby at_22) (fun _ _ => ⟨rfl, e31, (by decide : 0 + 0 ≤ _), (by decide : 0 + 0 ≤ _)⟩)
    dsimp only [Pt.U, Pt.locs, Pt.cells, Pt.slots] at X32 l32 y32 z32 st32 hQ32
    subst l32 y32 z32
    obtain ⟨r_32, rfl, rfl, e32, r32_0⟩ := hQ32
    try rw [List.append_nil] at X32
    refine Go.by' (fun t k => st32.trans k) ?_
    obtain rfl : r_32 = (0 : Int32) := by
      rcases r32_0 with ⟨h1, h2⟩ | ⟨h1, h2⟩ <;> first | exact h2 | (exfalso; have := own_i0; simp only [Int32.lt_iff_toInt_lt, ← Int32.toInt_inj] at h1 hp; omega)
    show Go p.tables e below Pf (T32.setTop (mkF m 25 #[.val (.int ip), .val (.int (0 : Int32)), .val (.int (1 : Int32)), .unset, .unset] [(.int (0 : Int32))]))
    refine Go.by' (fun t k => (XS.istoreN X32.here hx rfl (hb hby at_25) rfl (l' := #[.val (.int ip), .val (.int (0 : Int32)), .val (.int (1 : Int32)), .val (.int (0 : Int32)), .unset]) rfl k)) ?_
    show Go p.tables e below Pf (T32.setTop (mkF m 26 #[.val (.int ip), .val (.int (0 : Int32)), .val (.int (1 : Int32)), .val (.int (0 : Int32)), .unset] []))
    obtain ⟨T33, X33, e33, st33⟩ := getS2 X32 hx hZ hown (host := "") (Or.inl hw19) Via.refl e32 (G.2.2.2.2.1.ext O0.2) (g := (mkF m 26 #[.val (.int ip), .val (.int (0 : Int32)), .val (.int (1 : Int32)), .val (.int (0 : Int32)), .unset] [])) rfl (hb hby at_26)
    refine Go.by' st33 ?_
    show Go p.tables e below Pf (T33.setTop (mkF m 29 #[.val (.int ip), .val (.int (0 : Int32)), .val (.int (1 : Int32)), .val (.int (0 : Int32)), .unset] [(.ref wA)]))
    refine Go.by' (fun t k => (XS.iloadN X33.here hx rfl (hb hby at_29) rfl k)) ?_
    show Go p.tables e below Pf (T33.setTop (mkF m 30 #[.val (.int ip), .val (.int (0 : Int32)), .val (.int (1 : Int32)), .val (.int (0 : Int32)), .unset] [(.int ip), (.ref wA)]))
    obtain ⟨cq34, kq34, q34a, q34b, q34c⟩ := isOf hZ e33 (G.2.2.2.2.2.1.ext O0.2)
    obtain ⟨_, _, ⟨T34, L34, k34, n34⟩, -, X34, ⟨Lc34, hQ34, l34, y34, z34⟩, st34⟩ := X33.virtualBack hx (y := (⟨"com/example/libfnseq/libfnseq/NumericValue$Relation", "holds", "(I)Z"⟩ : MethodName)) (z := (⟨"com/example/libfnseq/libfnseq/NumericValue$Relation", "holds", "(I)Z"⟩ : MethodName)) hown (mvT hZ hw10) (mvT hZ hw11) (notFace_of_selects (args := #[]) (mvT hZ hw13)) (mvT hZ hw13) (mvT hZ hw12) (by decide) (backOf (W := 0) (rmHA l Z a0 hw [] wE wB wA G ip h0 n0 O0 ) hZ hw14 hw8 (by decide) (by decide)) q34a q34c (g := (mkF m 30 #[.val (.int ip), .val (.int (0 : Int32)), .val (.int (1 : Int32)), .val (.int (0 : Int32)), .unset] [(.int ip), (.ref wA)])) rfl (by rw [hml]; rfl) (Steps.refl _) (argsL := [(.int ip)]) (rest := []) (lenOf pd_1 rfl) rfl (by show 2 * 0 + _ ≤ _; exact Nat.le_of_eq rfl) (hb hby at_30) (fun _ _ => ⟨rfl, e33, (by decide : 0 + 0 ≤ _), (by decide : 0 + 0 ≤ _)⟩)
    dsimp only [Pt.U, Pt.locs, Pt.cells, Pt.slots] at X34 l34 y34 z34 st34 hQ34
    subst l34 y34 z34
    obtain ⟨r_34, rfl, rfl, e34, r34_0⟩ := hQ34
    try rw [List.append_nil] at X34
    refine Go.by' (fun t k => st34.trans k) ?_
    obtain rfl : r_34 = (0 : Int32) := by
      rcases r34_0 with ⟨h1, h2⟩ | ⟨h1, h2⟩ <;> first | exact h2 | (exfalso; have := own_i0; simp only [Int32.lt_iff_toInt_lt, ← Int32.toInt_inj] at h1 hp; omega)
    show Go p.tables e below Pf (T34.setTop (mkF m 33 #[.val (.int ip), .val (.int (0 : Int32)), .val (.int (1 : Int32)), .val (.int (0 : Int32)), .unset] [(.int (0 : Int32))]))
    refine Go.by' (fun t k => (XS.istore X34.here hx rfl (hb hby at_33) rfl (l' := #[.val (.int ip), .val (.int (0 : Int32)), .val (.int (1 : Int32)), .val (.int (0 : Int32)), .val (.int (0 : Int32))]) rfl (XS.iloadN X34.here hx rfl (hb hby at_35) rfl (XS.iloadN X34.here hx rfl (hb hby at_36) rfl (XS.ifNo X34.here hx rfl (hb hby at_37) rfl ((if0 _ _).trans (teq (by decide)).2) (XS.iconst X34.here hx rfl (hb hby at_40) (XS.goto X34.here hx rfl (pc0 := 41) (pc' := 45) rfl (hb hby at_41) (by decide) (by decide) k))))))) ?_
    show Go p.tables e below Pf (T34.setTop (mkF m 45 #[.val (.int ip), .val (.int (0 : Int32)), .val (.int (1 : Int32)), .val (.int (0 : Int32)), .val (.int (0 : Int32))] [(.int (1 : Int32)), (.int (1 : Int32))]))
    refine Go.by' (fun t k => (XS.icmpNo X34.here hx rfl (hb hby at_45) rfl (teq (by decide)).2 (XS.iloadN X34.here hx rfl (hb hby at_48) rfl (XS.iloadN X34.here hx rfl (hb hby at_49) rfl (XS.iconst X34.here hx rfl (hb hby at_50) (XS.icmpYes X34.here hx rfl (pc0 := 51) (pc' := 58) rfl (hb hby at_51) rfl (feq (by decide)).2 (by decide) (by decide) (XS.iconst X34.here hx rfl (hb hby at_58) k))))))) ?_
    show Go p.tables e below Pf (T34.setTop (mkF m 59 #[.val (.int ip), .val (.int (0 : Int32)), .val (.int (1 : Int32)), .val (.int (0 : Int32)), .val (.int (0 : Int32))] [(.int (0 : Int32)), (.int (0 : Int32))]))
    refine Go.by' (fun t k => (XS.icmpNo X34.here hx rfl (hb hby at_59) rfl (teq (by decide)).2 (XS.iload X34.here hx rfl (hb hby at_62) rfl (XS.iloadN X34.here hx rfl (hb hby at_64) rfl (XS.iconst X34.here hx rfl (hb hby at_65) (XS.icmpYes X34.here hx rfl (pc0 := 66) (pc' := 73) rfl (hb hby at_66) rfl (feq (by decide)).2 (by decide) (by decide) (XS.iconst X34.here hx rfl (hb hby at_73) k))))))) ?_
    show Go p.tables e below Pf (T34.setTop (mkF m 74 #[.val (.int ip), .val (.int (0 : Int32)), .val (.int (1 : Int32)), .val (.int (0 : Int32)), .val (.int (0 : Int32))] [(.int (0 : Int32)), (.int (0 : Int32))]))
    refine Go.by' (fun t k => (XS.icmpNo X34.here hx rfl (hb hby at_74) rfl (teq (by decide)).2 (XS.iconst X34.here hx rfl (hb hby at_77) (XS.goto X34.here hx rfl (pc0 := 78) (pc' := 82) rfl (hb hby at_78) (by decide) (by decide) k)))) ?_
    show Go p.tables e below Pf (T34.setTop (mkF m 82 #[.val (.int ip), .val (.int (0 : Int32)), .val (.int (1 : Int32)), .val (.int (0 : Int32)), .val (.int (0 : Int32))] [(.int (1 : Int32))]))
    rw [hPf]
    exact Go.retI' X34 hx hret hlk (by simp) rfl (hb hby at_82) (by decide) (by decide) ⟨rfl, rfl, e34⟩
  · show Go p.tables e below Pf (T22.setTop (mkF m 9 #[.val (.int ip), .unset, .unset, .unset, .unset] [(.int (1 : Int32))]))
    refine Go.by' (fun t k => (XS.istoreN X22.here hx rfl (hb hby at_9) rfl (l' := #[.val (.int ip), .val (.int (1 : Int32)), .unset, .unset, .unset]) rfl k)) ?_
    show Go p.tables e below Pf (T22.setTop (mkF m 10 #[.val (.int ip), .val (.int (1 : Int32)), .unset, .unset, .unset] []))
    obtain ⟨T35, X35, e35, st35⟩ := getS2 X22 hx hZ hown (host := "") (Or.inl hw7) Via.refl e22 (G.1.ext O0.2) (g := (mkF m 10 #[.val (.int ip), .val (.int (1 : Int32)), .unset, .unset, .unset] [])) rfl (hb hby at_10)
    refine Go.by' st35 ?_
    show Go p.tables e below Pf (T35.setTop (mkF m 13 #[.val (.int ip), .val (.int (1 : Int32)), .unset, .unset, .unset] [(.ref wE)]))
    refine Go.by' (fun t k => (XS.iloadN X35.here hx rfl (hb hby at_13) rfl k)) ?_
    show Go p.tables e below Pf (T35.setTop (mkF m 14 #[.val (.int ip), .val (.int (1 : Int32)), .unset, .unset, .unset] [(.int ip), (.ref wE)]))
    obtain ⟨cq36, kq36, q36a, q36b, q36c⟩ := isOf hZ e35 (G.2.1.ext O0.2)
    obtain ⟨_, _, ⟨T36, L36, k36, n36⟩, -, X36, ⟨Lc36, hQ36, l36, y36, z36⟩, st36⟩ := X35.virtualBack hx (y := (⟨"com/example/libfnseq/libfnseq/NumericValue$Relation", "holds", "(I)Z"⟩ : MethodName)) (z := (⟨"com/example/libfnseq/libfnseq/NumericValue$Relation", "holds", "(I)Z"⟩ : MethodName)) hown (mvT hZ hw10) (mvT hZ hw11) (notFace_of_selects (args := #[]) (mvT hZ hw13)) (mvT hZ hw13) (mvT hZ hw12) (by decide) (backOf (W := 0) (rmHE l Z a0 hw [] wE wB wA G ip h0 n0 O0 ) hZ hw14 hw8 (by decide) (by decide)) q36a q36c (g := (mkF m 14 #[.val (.int ip), .val (.int (1 : Int32)), .unset, .unset, .unset] [(.int ip), (.ref wE)])) rfl (by rw [hml]; rfl) (Steps.refl _) (argsL := [(.int ip)]) (rest := []) (lenOf pd_1 rfl) rfl (by show 2 * 0 + _ ≤ _; exact Nat.le_of_eq rfl) (hb hby at_14) (fun _ _ => ⟨rfl, e35, (by decide : 0 + 0 ≤ _), (by decide : 0 + 0 ≤ _)⟩)
    dsimp only [Pt.U, Pt.locs, Pt.cells, Pt.slots] at X36 l36 y36 z36 st36 hQ36
    subst l36 y36 z36
    obtain ⟨r_36, rfl, rfl, e36, r36_0⟩ := hQ36
    try rw [List.append_nil] at X36
    refine Go.by' (fun t k => st36.trans k) ?_
    obtain rfl : r_36 = (0 : Int32) := by
      rcases r36_0 with ⟨h1, h2⟩ | ⟨h1, h2⟩ <;> first | exact h2 | (exfalso; have := own_i0; simp only [Int32.lt_iff_toInt_lt, ← Int32.toInt_inj] at h1 hp; omega)
    show Go p.tables e below Pf (T36.setTop (mkF m 17 #[.val (.int ip), .val (.int (1 : Int32)), .unset, .unset, .unset] [(.int (0 : Int32))]))
    refine Go.by' (fun t k => (XS.istoreN X36.here hx rfl (hb hby at_17) rfl (l' := #[.val (.int ip), .val (.int (1 : Int32)), .val (.int (0 : Int32)), .unset, .unset]) rfl k)) ?_
    show Go p.tables e below Pf (T36.setTop (mkF m 18 #[.val (.int ip), .val (.int (1 : Int32)), .val (.int (0 : Int32)), .unset, .unset] []))
    obtain ⟨T37, X37, e37, st37⟩ := getS2 X36 hx hZ hown (host := "") (Or.inl hw16) Via.refl e36 (G.2.2.1.ext O0.2) (g := (mkF m 18 #[.val (.int ip), .val (.int (1 : Int32)), .val (.int (0 : Int32)), .unset, .unset] [])) rfl (hb hby at_18)
    refine Go.by' st37 ?_
    show Go p.tables e below Pf (T37.setTop (mkF m 21 #[.val (.int ip), .val (.int (1 : Int32)), .val (.int (0 : Int32)), .unset, .unset] [(.ref wB)]))
    refine Go.by' (fun t k => (XS.iloadN X37.here hx rfl (hb hby at_21) rfl k)) ?_
    show Go p.tables e below Pf (T37.setTop (mkF m 22 #[.val (.int ip), .val (.int (1 : Int32)), .val (.int (0 : Int32)), .unset, .unset] [(.int ip), (.ref wB)]))
    obtain ⟨cq38, kq38, q38a, q38b, q38c⟩ := isOf hZ e37 (G.2.2.2.1.ext O0.2)
    obtain ⟨_, _, ⟨T38, L38, k38, n38⟩, -, X38, ⟨Lc38, hQ38, l38, y38, z38⟩, st38⟩ := X37.virtualBack hx (y := (⟨"com/example/libfnseq/libfnseq/NumericValue$Relation", "holds", "(I)Z"⟩ : MethodName)) (z := (⟨"com/example/libfnseq/libfnseq/NumericValue$Relation", "holds", "(I)Z"⟩ : MethodName)) hown (mvT hZ hw10) (mvT hZ hw11) (notFace_of_selects (args := #[]) (mvT hZ hw13)) (mvT hZ hw13) (mvT hZ hw12) (by decide) (backOf (W := 0) (rmHB l Z a0 hw [] wE wB wA G ip h0 n0 O0 ) hZ hw14 hw8 (by decide) (by decide)) q38a q38c (g := (mkF m 22 #[.val (.int ip), .val (.int (1 : Int32)), .val (.int (0 : Int32)), .unset, .unset] [(.int ip), (.ref wB)])) rfl (by rw [hml]; rfl) (Steps.refl _) (argsL := [(.int ip)]) (rest := []) (lenOf pd_1 rfl) rfl (by show 2 * 0 + _ ≤ _; exact Nat.le_of_eq rfl) (hb hby at_22) (fun _ _ => ⟨rfl, e37, (by decide : 0 + 0 ≤ _), (by decide : 0 + 0 ≤ _)⟩)
    dsimp only [Pt.U, Pt.locs, Pt.cells, Pt.slots] at X38 l38 y38 z38 st38 hQ38
    subst l38 y38 z38
    obtain ⟨r_38, rfl, rfl, e38, r38_0⟩ := hQ38
    try rw [List.append_nil] at X38
    refine Go.by' (fun t k => st38.trans k) ?_
    obtain rfl : r_38 = (0 : Int32) := by
      rcases r38_0 with ⟨h1, h2⟩ | ⟨h1, h2⟩ <;> first | exact h2 | (exfalso; have := own_i0; simp only [Int32.lt_iff_toInt_lt, ← Int32.toInt_inj] at h1 hp; omega)
    show Go p.tables e below Pf (T38.setTop (mkF m 25 #[.val (.int ip), .val (.int (1 : Int32)), .val (.int (0 : Int32)), .unset, .unset] [(.int (0 : Int32))]))
    refine Go.by' (fun t k => (XS.istoreN X38.here hx rfl (hb hby at_25) rfl (l' := #[.val (.int ip), .val (.int (1 : Int32)), .val (.int (0 : Int32)), .val (.int (0 : Int32)), .unset]) rfl k)) ?_
    show Go p.tables e below Pf (T38.setTop (mkF m 26 #[.val (.int ip), .val (.int (1 : Int32)), .val (.int (0 : Int32)), .val (.int (0 : Int32)), .unset] []))
    obtain ⟨T39, X39, e39, st39⟩ := getS2 X38 hx hZ hown (host := "") (Or.inl hw19) Via.refl e38 (G.2.2.2.2.1.ext O0.2) (g := (mkF m 26 #[.val (.int ip), .val (.int (1 : Int32)), .val (.int (0 : Int32)), .val (.int (0 : Int32)), .unset] [])) rfl (hb hby at_26)
    refine Go.by' st39 ?_
    show Go p.tables e below Pf (T39.setTop (mkF m 29 #[.val (.int ip), .val (.int (1 : Int32)), .val (.int (0 : Int32)), .val (.int (0 : Int32)), .unset] [(.ref wA)]))
    refine Go.by' (fun t k => (XS.iloadN X39.here hx rfl (hb hby at_29) rfl k)) ?_
    show Go p.tables e below Pf (T39.setTop (mkF m 30 #[.val (.int ip), .val (.int (1 : Int32)), .val (.int (0 : Int32)), .val (.int (0 : Int32)), .unset] [(.int ip), (.ref wA)]))
    obtain ⟨cq40, kq40, q40a, q40b, q40c⟩ := isOf hZ e39 (G.2.2.2.2.2.1.ext O0.2)
    obtain ⟨_, _, ⟨T40, L40, k40, n40⟩, -, X40, ⟨Lc40, hQ40, l40, y40, z40⟩, st40⟩ := X39.virtualBack hx (y := (⟨"com/example/libfnseq/libfnseq/NumericValue$Relation", "holds", "(I)Z"⟩ : MethodName)) (z := (⟨"com/example/libfnseq/libfnseq/NumericValue$Relation", "holds", "(I)Z"⟩ : MethodName)) hown (mvT hZ hw10) (mvT hZ hw11) (notFace_of_selects (args := #[]) (mvT hZ hw13)) (mvT hZ hw13) (mvT hZ hw12) (by decide) (backOf (W := 0) (rmHA l Z a0 hw [] wE wB wA G ip h0 n0 O0 ) hZ hw14 hw8 (by decide) (by decide)) q40a q40c (g := (mkF m 30 #[.val (.int ip), .val (.int (1 : Int32)), .val (.int (0 : Int32)), .val (.int (0 : Int32)), .unset] [(.int ip), (.ref wA)])) rfl (by rw [hml]; rfl) (Steps.refl _) (argsL := [(.int ip)]) (rest := []) (lenOf pd_1 rfl) rfl (by show 2 * 0 + _ ≤ _; exact Nat.le_of_eq rfl) (hb hby at_30) (fun _ _ => ⟨rfl, e39, (by decide : 0 + 0 ≤ _), (by decide : 0 + 0 ≤ _)⟩)
    dsimp only [Pt.U, Pt.locs, Pt.cells, Pt.slots] at X40 l40 y40 z40 st40 hQ40
    subst l40 y40 z40
    obtain ⟨r_40, rfl, rfl, e40, r40_0⟩ := hQ40
    try rw [List.append_nil] at X40
    refine Go.by' (fun t k => st40.trans k) ?_
    obtain rfl : r_40 = (1 : Int32) := by
      rcases r40_0 with ⟨h1, h2⟩ | ⟨h1, h2⟩ <;> first | exact h2 | (exfalso; have := own_i0; simp only [Int32.lt_iff_toInt_lt, ← Int32.toInt_inj] at h1 hp; omega)
    show Go p.tables e below Pf (T40.setTop (mkF m 33 #[.val (.int ip), .val (.int (1 : Int32)), .val (.int (0 : Int32)), .val (.int (0 : Int32)), .unset] [(.int (1 : Int32))]))
    refine Go.by' (fun t k => (XS.istore X40.here hx rfl (hb hby at_33) rfl (l' := #[.val (.int ip), .val (.int (1 : Int32)), .val (.int (0 : Int32)), .val (.int (0 : Int32)), .val (.int (1 : Int32))]) rfl (XS.iloadN X40.here hx rfl (hb hby at_35) rfl (XS.iloadN X40.here hx rfl (hb hby at_36) rfl (XS.ifYes X40.here hx rfl (pc0 := 37) (pc' := 44) rfl (hb hby at_37) rfl ((if0 _ _).trans (feq (by decide)).2) (by decide) (by decide) (XS.iconst X40.here hx rfl (hb hby at_44) (XS.icmpNo X40.here hx rfl (hb hby at_45) rfl (teq (by decide)).2 k))))))) ?_
    show Go p.tables e below Pf (T40.setTop (mkF m 48 #[.val (.int ip), .val (.int (1 : Int32)), .val (.int (0 : Int32)), .val (.int (0 : Int32)), .val (.int (1 : Int32))] []))
    refine Go.by' (fun t k => (XS.iloadN X40.here hx rfl (hb hby at_48) rfl (XS.iloadN X40.here hx rfl (hb hby at_49) rfl (XS.iconst X40.here hx rfl (hb hby at_50) (XS.icmpYes X40.here hx rfl (pc0 := 51) (pc' := 58) rfl (hb hby at_51) rfl (feq (by decide)).2 (by decide) (by decide) (XS.iconst X40.here hx rfl (hb hby at_58) (XS.icmpNo X40.here hx rfl (hb hby at_59) rfl (teq (by decide)).2 k))))))) ?_
    show Go p.tables e below Pf (T40.setTop (mkF m 62 #[.val (.int ip), .val (.int (1 : Int32)), .val (.int (0 : Int32)), .val (.int (0 : Int32)), .val (.int (1 : Int32))] []))
    refine Go.by' (fun t k => (XS.iload X40.here hx rfl (hb hby at_62) rfl (XS.iloadN X40.here hx rfl (hb hby at_64) rfl (XS.iconst X40.here hx rfl (hb hby at_65) (XS.icmpNo X40.here hx rfl (hb hby at_66) rfl (teq (by decide)).2 (XS.iconst X40.here hx rfl (hb hby at_69) (XS.goto X40.here hx rfl (pc0 := 70) (pc' := 74) rfl (hb hby at_70) (by decide) (by decide) k))))))) ?_
    show Go p.tables e below Pf (T40.setTop (mkF m 74 #[.val (.int ip), .val (.int (1 : Int32)), .val (.int (0 : Int32)), .val (.int (0 : Int32)), .val (.int (1 : Int32))] [(.int (1 : Int32)), (.int (1 : Int32))]))
    refine Go.by' (fun t k => (XS.icmpNo X40.here hx rfl (hb hby at_74) rfl (teq (by decide)).2 (XS.iconst X40.here hx rfl (hb hby at_77) (XS.goto X40.here hx rfl (pc0 := 78) (pc' := 82) rfl (hb hby at_78) (by decide) (by decide) k)))) ?_
    show Go p.tables e below Pf (T40.setTop (mkF m 82 #[.val (.int ip), .val (.int (1 : Int32)), .val (.int (0 : Int32)), .val (.int (0 : Int32)), .val (.int (1 : Int32))] [(.int (1 : Int32))]))
    rw [hPf]
    exact Go.retI' X40 hx hret hlk (by simp) rfl (hb hby at_82) (by decide) (by decide) ⟨rfl, rfl, e40⟩
set_option maxRecDepth 65536 in
set_option maxHeartbeats 40000000 in
theorem comes_1 {Post : Tables → Env → Array Value → State → Outcome → State → Prop} (hpost : ∀ tb e args s v u, (limb_1_1.after args s (.returned v) u = true ∧ limb_1_2.after args s (.returned v) u = true ∧ True) → FrameEnd s (.returned v) u (Jvm.fieldLocs frame_1_writes args s ++ Jvm.arrayLocs frame_1_arrays args s ++ Jvm.staticLocs frame_1_statics s) 0 0 → Post tb e args s (.returned v) u) :
    ArmFor flags0 classFile x code maxLocals ret World_1 tables_1 room_1 Calls_1 rest_1 Pre_1 Post := by
  intro l hfl _ _ p e ha hc hk s m args below hf hA hF happ hP
  obtain ⟨hcalls, hrest, hpre⟩ := hP
  obtain ⟨-, -, -, hnamed, -, -, -, hat⟩ := (Spec.applies_iff hf).mp happ
  obtain ⟨hg, hn⟩ := and_e (Cond.before_iff.mp (show (Jvm.Cond.and given_1 narrow_1).before args s = true from hpre))
  obtain ⟨ga1, gb1⟩ := and_e hg
  obtain ⟨w0, rfl⟩ : ∃ w0 : Value, args = #[w0] := by
    have hs : args.size = 1 := by simpa [Cond.value, given_1] using ga1
    obtain ⟨L⟩ := args
    match L, hs with
    | [w0], _ => exact ⟨w0, rfl⟩
  have hw := fun d (hd : d ∈ tables_1) => atoms_spec (ws := Jvm.Cond.code x code maxLocals ret :: tables_1) hat d (List.mem_cons_of_mem _ hd)
  have hfit : Fit s := fun {y c} hc i hi => by
    obtain ⟨ha, rfl⟩ := Array.getElem?_eq_some_iff.mp hc
    have q := List.all_eq_true.mp ((Array.all_eq_true_iff_forall_mem.mp hF) _ (Array.getElem_mem ha)) i (List.mem_range.mpr hi)
    simpa [Array.getElem?_eq_getElem hi] using q
  obtain ⟨ip, ei0⟩ := is_v gb1
  obtain rfl : w0 = (.int ip) := Option.some.inj ei0
  obtain ⟨na1, nb1⟩ := and_e hn
  obtain ⟨na2, nb2⟩ := and_e nb1
  obtain ⟨na3, nb3⟩ := and_e nb2
  obtain ⟨na4, nb4⟩ := and_e nb3
  obtain ⟨na5, nb5⟩ := and_e nb4
  obtain ⟨wE, evwE⟩ := exa_v na1
  have SwE := Sta.start evwE (Or.inr ⟨(hw _ (List.mem_of_getElem? (i := 8) rfl)), (hw _ (List.mem_of_getElem? (i := 9) rfl))⟩)
  have AwE := Exa.start evwE na1
  have FwE := Fld.start ((fld_at evwE).symm.trans (eqv_i (Term.int_eval _) na4))
  obtain ⟨wB, evwB⟩ := exa_v na2
  have SwB := Sta.start evwB (Or.inr ⟨(hw _ (List.mem_of_getElem? (i := 8) rfl)), (hw _ (List.mem_of_getElem? (i := 17) rfl))⟩)
  have AwB := Exa.start evwB na2
  have FwB := Fld.start ((fld_at evwB).symm.trans (eqv_i (Term.int_eval _) na3))
  obtain ⟨wA, evwA⟩ := exa_v na5
  have SwA := Sta.start evwA (Or.inr ⟨(hw _ (List.mem_of_getElem? (i := 8) rfl)), (hw _ (List.mem_of_getElem? (i := 20) rfl))⟩)
  have AwA := Exa.start evwA na5
  have FwA := Fld.start ((fld_at evwA).symm.trans (eqv_i (Term.int_eval _) nb5))
  have G : Gh s wE wB wA := ⟨SwE, AwE, SwB, AwB, SwA, AwA, FwE.ne FwB (by decide), FwE.ne FwA (by decide), FwB.ne FwA (by decide)⟩
  obtain ⟨n, o, h1, h2, h3, _, L, rfl, hQ, hq⟩ := rm0 l s _ hw tables_1 wE wB wA G ip s.heap s.heap.size (Old.start s)  p e ha hc hk s m _ below hf ((Spec.applies_iff_loose hf).mp happ).1 ⟨rfl, State.Warmed39.refl s, rfl⟩ trivial
  obtain ⟨rfl, rfl, -⟩ := hQ
  have N := Fr.nil s.heap.size
  refine ⟨n, _, h1, h2, h3, hpost _ _ _ _ _ _ ⟨Cond.after_iff.mpr rfl, Cond.after_iff.mpr (eq_i res_at (Term.int_eval (1)) rfl), trivial⟩ ⟨hq.1, hq.2.1, (hq.2.2.sift fun y hy => Or.inr (N y hy)).mono (by decide) (by decide)⟩⟩
theorem main_1_1 : Claimed_1_1 := comes_1 fun _ _ _ _ _ _ h hF => ⟨h.1, hF⟩
theorem main_1_2 : Claimed_1_2 := comes_1 fun _ _ _ _ _ _ h hF => ⟨h.2.1, hF⟩
end Jvm.Pilot.@@N@@
namespace Jvm.Pilot.@@N@@
open Jvm Jvm.ClassFile Sem Op Lib Jvm.Free Jvm.Stand Jvm.Pilot.@@N@@.Jvm.D
/-! MADE BY PROGRAM (witnessworld.py) out of the Statement's table words and the real class files: 13 classes; the members and pool entries that the words name. The judged class is class 1, her method 1. -/
namespace start1
open Jvm.ClassFile
def u (s : String) : CpInfo := .utf8 (stringToUtf16 s)
/-- a pool by its gaps: so many unusable entries, then the entry; so many at the end -/
def gap : Nat → List CpInfo → List CpInfo
  | 0, r => r
  | n + 1, r => .unusable :: gap n r
def poolList (es : List (Nat × CpInfo)) (last : Nat) : List CpInfo := es.foldr (fun e r => gap e.1 (e.2 :: r)) (gap last [])
def pool (es : List (Nat × CpInfo)) (last : Nat) : Array CpInfo := ⟨poolList es last⟩
def fileOf (pool : Array CpInfo) (this : Nat) (attrs : Array Attribute := #[]) (ms : Array MethodInfo := #[]) (fl : Nat := 33) (sup : Nat := 0) (ifs : Array Nat := #[]) (fds : Array FieldInfo := #[]) : ClassFile where
  minorVersion := 0
  majorVersion := 65
  constantPool := pool
  accessFlags := fl
  thisClass := this
  superClass := sup
  interfaces := ifs
  fields := fds
  methods := ms
  attributes := attrs
def plain (name : String) (sup : Option ClassId) : Class where
  name := name
  kind := .ordinary
  loader := none
  accessFlags := 33
  super := sup
  interfaces := #[]
  cf := none
  fields := #[]
  methods := #[]
  instanceTypes := #[]
  staticTypes := #[]
  resolved := #[]
  callSites := []
  init := .initialized
  statics := none
  mirror := none

def pool0 : Array CpInfo := pool [(5, u "<init>"), (0, u "()V"), (1, .class_ 10), (1, u "java/lang/Object")] 113

def k0m0 : Method := { name := "<init>", desc := "()V", sig := { parameters := [], returnType := none }, accessFlags := 1, code := none }
/-- java/lang/Object -/
def k0 : Class := { plain "java/lang/Object" none with
  accessFlags := 33
  interfaces := #[]
  cf := some (fileOf pool0 8 #[] #[{ accessFlags := 1, nameIndex := 5, descriptorIndex := 6, attributes := #[] }] 33 0 #[] #[])
  fields := #[]
  methods := #[k0m0]
  instanceTypes := #[]
  staticTypes := #[]
  resolved := Array.replicate 124 none
  statics := none }

def pool1 : Array CpInfo := pool [(2, .class_ 4), (1, u "java/lang/Object"), (0, u "<init>"), (0, u "()V"), (0, .methodref 8 9), (0, .class_ 10), (0, .nameAndType 11 12), (0, u "java/lang/Math"), (0, u "min"), (0, u "(II)I"), (0, .methodref 8 14), (0, .nameAndType 15 12), (0, u "max"), (0, .fieldref 17 18), (0, .class_ 19), (0, .nameAndType 20 21), (0, u "com/example/libfnseq/libfnseq/NumericValue$Relation"), (0, u "EQUAL"), (0, u "Lcom/example/libfnseq/libfnseq/NumericValue$Relation;"), (0, .methodref 17 23), (0, .nameAndType 24 25), (0, u "holds"), (0, u "(I)Z"), (0, .fieldref 17 27), (0, .nameAndType 28 21), (0, u "BELOW"), (0, .fieldref 17 30), (0, .nameAndType 31 21), (0, u "ABOVE"), (0, .class_ 33), (0, u "com/example/libfnseq/libfnseq/RelationHolds277PinLaw"), (2, u "law")] 7

def k1m0 : Method := { name := "<init>", desc := "()V", sig := { parameters := [], returnType := none }, accessFlags := 2, code := none }
def k1c1 : Code := { maxStack := 3, maxLocals := 5, code := code, exceptionTable := #[], attributes := #[] }
def k1m1 : Method := { name := "law", desc := "(I)Z", sig := { parameters := [.int], returnType := some .boolean }, accessFlags := 9, code := some k1c1 }
/-- com/example/libfnseq/libfnseq/RelationHolds277PinLaw -/
def k1 : Class := { plain "com/example/libfnseq/libfnseq/RelationHolds277PinLaw" (some 0) with
  accessFlags := 49
  interfaces := #[]
  cf := some (fileOf pool1 32 #[] #[{ accessFlags := 2, nameIndex := 5, descriptorIndex := 6, attributes := #[] }, { accessFlags := 9, nameIndex := 36, descriptorIndex := 25, attributes := #[] }] 49 2 #[] #[])
  fields := #[]
  methods := #[k1m0, k1m1]
  instanceTypes := #[]
  staticTypes := #[]
  resolved := Array.replicate 44 none
  statics := none }

def pool2 : Array CpInfo := pool [(1, .class_ 2), (0, u "java/lang/Math"), (1, .class_ 6), (1, u "java/lang/Object"), (0, u "<init>"), (0, u "()V"), (89, .class_ 100), (1, u "java/lang/Math$RandomNumberGeneratorHolder"), (71, u "negativeZeroFloatBits"), (0, u "J"), (2, u "negativeZeroDoubleBits"), (21, u "max"), (2, u "min"), (43, u "$assertionsDisabled"), (0, u "Z"), (88, u "(II)I"), (2, u "twoToTheDoubleScaleDown"), (0, u "D"), (4, u "twoToTheDoubleScaleUp"), (9, u "E"), (3, u "PI"), (2, u "TAU"), (2, u "DEGREES_TO_RADIANS"), (0, u "RADIANS_TO_DEGREES")] 94

def k2m0 : Method := { name := "<init>", desc := "()V", sig := { parameters := [], returnType := none }, accessFlags := 2, code := none }
def k2c1 : Code := { maxStack := 2, maxLocals := 2, code := jdk_29_method_65_code, exceptionTable := #[], attributes := #[] }
def k2m1 : Method := { name := "max", desc := "(II)I", sig := { parameters := [.int, .int], returnType := some .int }, accessFlags := 9, code := some k2c1 }
def k2c2 : Code := { maxStack := 2, maxLocals := 2, code := jdk_29_method_69_code, exceptionTable := #[], attributes := #[] }
def k2m2 : Method := { name := "min", desc := "(II)I", sig := { parameters := [.int, .int], returnType := some .int }, accessFlags := 9, code := some k2c2 }
/-- java/lang/Math -/
def k2 : Class := { plain "java/lang/Math" (some 0) with
  accessFlags := 49
  interfaces := #[]
  cf := some (fileOf pool2 1 #[.nestMembers #[98]] #[{ accessFlags := 2, nameIndex := 7, descriptorIndex := 8, attributes := #[] }, { accessFlags := 9, nameIndex := 198, descriptorIndex := 335, attributes := #[] }, { accessFlags := 9, nameIndex := 201, descriptorIndex := 335, attributes := #[] }] 49 4 #[] #[{ accessFlags := 25, nameIndex := 354, descriptorIndex := 339, attributes := #[] }, { accessFlags := 25, nameIndex := 358, descriptorIndex := 339, attributes := #[] }, { accessFlags := 25, nameIndex := 361, descriptorIndex := 339, attributes := #[] }, { accessFlags := 26, nameIndex := 364, descriptorIndex := 339, attributes := #[] }, { accessFlags := 26, nameIndex := 365, descriptorIndex := 339, attributes := #[] }, { accessFlags := 26, nameIndex := 172, descriptorIndex := 173, attributes := #[] }, { accessFlags := 26, nameIndex := 176, descriptorIndex := 173, attributes := #[] }, { accessFlags := 8, nameIndex := 344, descriptorIndex := 339, attributes := #[] }, { accessFlags := 8, nameIndex := 338, descriptorIndex := 339, attributes := #[] }, { accessFlags := 4120, nameIndex := 245, descriptorIndex := 246, attributes := #[] }])
  fields := #[{ name := "E", type := .double, accessFlags := 25, slot := 0, constantValue := 0 }, { name := "PI", type := .double, accessFlags := 25, slot := 1, constantValue := 0 }, { name := "TAU", type := .double, accessFlags := 25, slot := 2, constantValue := 0 }, { name := "DEGREES_TO_RADIANS", type := .double, accessFlags := 26, slot := 3, constantValue := 0 }, { name := "RADIANS_TO_DEGREES", type := .double, accessFlags := 26, slot := 4, constantValue := 0 }, { name := "negativeZeroFloatBits", type := .long, accessFlags := 26, slot := 5, constantValue := 0 }, { name := "negativeZeroDoubleBits", type := .long, accessFlags := 26, slot := 6, constantValue := 0 }, { name := "twoToTheDoubleScaleUp", type := .double, accessFlags := 8, slot := 7, constantValue := 0 }, { name := "twoToTheDoubleScaleDown", type := .double, accessFlags := 8, slot := 8, constantValue := 0 }, { name := "$assertionsDisabled", type := .boolean, accessFlags := 4120, slot := 9, constantValue := 0 }]
  methods := #[k2m0, k2m1, k2m2]
  instanceTypes := #[]
  staticTypes := #[.double, .double, .double, .double, .double, .long, .long, .double, .double, .boolean]
  resolved := Array.replicate 460 none
  statics := none }

def pool3 : Array CpInfo := pool [(1, .class_ 2), (0, u "java/lang/constant/Constable"), (0, .class_ 4), (0, u "java/lang/Object")] 6

/-- java/lang/constant/Constable -/
def k3 : Class := { plain "java/lang/constant/Constable" (some 0) with
  accessFlags := 1537
  interfaces := #[]
  cf := some (fileOf pool3 1 #[] #[] 1537 3 #[] #[])
  fields := #[]
  methods := #[]
  instanceTypes := #[]
  staticTypes := #[]
  resolved := Array.replicate 11 none
  statics := none }

def pool4 : Array CpInfo := pool [(1, .class_ 2), (0, u "java/lang/Comparable"), (0, .class_ 4), (0, u "java/lang/Object")] 7

/-- java/lang/Comparable -/
def k4 : Class := { plain "java/lang/Comparable" (some 0) with
  accessFlags := 1537
  interfaces := #[]
  cf := some (fileOf pool4 1 #[] #[] 1537 3 #[] #[])
  fields := #[]
  methods := #[]
  instanceTypes := #[]
  staticTypes := #[]
  resolved := Array.replicate 12 none
  statics := none }

def pool5 : Array CpInfo := pool [(1, .class_ 2), (0, u "java/io/Serializable"), (0, .class_ 4), (0, u "java/lang/Object")] 2

/-- java/io/Serializable -/
def k5 : Class := { plain "java/io/Serializable" (some 0) with
  accessFlags := 1537
  interfaces := #[]
  cf := some (fileOf pool5 1 #[] #[] 1537 3 #[] #[])
  fields := #[]
  methods := #[]
  instanceTypes := #[]
  staticTypes := #[]
  resolved := Array.replicate 7 none
  statics := none }

def pool6 : Array CpInfo := pool [(2, .class_ 4), (1, u "java/lang/Enum"), (0, u "name"), (0, u "Ljava/lang/String;"), (2, u "ordinal"), (0, u "I"), (1, .class_ 14), (1, u "java/lang/Object"), (4, u "hash"), (86, .class_ 108), (1, u "java/lang/Enum$EnumDesc"), (2, .class_ 112), (0, u "java/lang/constant/Constable"), (0, .class_ 114), (0, u "java/lang/Comparable"), (0, .class_ 116), (0, u "java/io/Serializable")] 87

/-- java/lang/Enum -/
def k6 : Class := { plain "java/lang/Enum" (some 0) with
  accessFlags := 1057
  interfaces := #[3, 4, 5]
  cf := some (fileOf pool6 2 #[.nestMembers #[106]] #[] 1057 12 #[111, 113, 115] #[{ accessFlags := 18, nameIndex := 5, descriptorIndex := 6, attributes := #[] }, { accessFlags := 18, nameIndex := 9, descriptorIndex := 10, attributes := #[] }, { accessFlags := 2, nameIndex := 19, descriptorIndex := 10, attributes := #[] }])
  fields := #[{ name := "name", type := (.object "java/lang/String"), accessFlags := 18, slot := 0, constantValue := 0 }, { name := "ordinal", type := .int, accessFlags := 18, slot := 1, constantValue := 0 }, { name := "hash", type := .int, accessFlags := 2, slot := 2, constantValue := 0 }]
  methods := #[]
  instanceTypes := #[(.object "java/lang/String"), .int, .int]
  staticTypes := #[]
  resolved := Array.replicate 204 none
  statics := none }

def pool7 : Array CpInfo := pool [(1, .class_ 2), (0, u "com/example/libfnseq/libfnseq/NumericValue$Relation"), (0, .fieldref 1 4), (0, .nameAndType 5 6), (0, u "EQUAL"), (0, u "Lcom/example/libfnseq/libfnseq/NumericValue$Relation;"), (0, .fieldref 1 8), (0, .nameAndType 9 6), (0, u "BELOW"), (2, u "ABOVE"), (2, u "$VALUES"), (0, u "[Lcom/example/libfnseq/libfnseq/NumericValue$Relation;"), (6, .class_ 25), (1, u "java/lang/Enum"), (24, u "holds"), (0, u "(I)Z"), (6, .class_ 59), (0, u "com/example/libfnseq/libfnseq/NumericValue")] 2

def k7c0 : Code := { maxStack := 2, maxLocals := 3, code := prog_65_method_5_code, exceptionTable := #[], attributes := #[] }
def k7m0 : Method := { name := "holds", desc := "(I)Z", sig := { parameters := [.int], returnType := some .boolean }, accessFlags := 0, code := some k7c0 }
/-- com/example/libfnseq/libfnseq/NumericValue$Relation -/
def k7 : Class := { plain "com/example/libfnseq/libfnseq/NumericValue$Relation" (some 6) with
  accessFlags := 16432
  interfaces := #[]
  cf := some (fileOf pool7 1 #[.nestHost 58] #[{ accessFlags := 0, nameIndex := 50, descriptorIndex := 51, attributes := #[] }] 16432 23 #[] #[{ accessFlags := 16409, nameIndex := 5, descriptorIndex := 6, attributes := #[] }, { accessFlags := 16409, nameIndex := 9, descriptorIndex := 6, attributes := #[] }, { accessFlags := 16409, nameIndex := 12, descriptorIndex := 6, attributes := #[] }, { accessFlags := 4122, nameIndex := 15, descriptorIndex := 16, attributes := #[] }])
  fields := #[{ name := "EQUAL", type := (.object "com/example/libfnseq/libfnseq/NumericValue$Relation"), accessFlags := 16409, slot := 0, constantValue := 0 }, { name := "BELOW", type := (.object "com/example/libfnseq/libfnseq/NumericValue$Relation"), accessFlags := 16409, slot := 1, constantValue := 0 }, { name := "ABOVE", type := (.object "com/example/libfnseq/libfnseq/NumericValue$Relation"), accessFlags := 16409, slot := 2, constantValue := 0 }, { name := "$VALUES", type := (.array (.object "com/example/libfnseq/libfnseq/NumericValue$Relation")), accessFlags := 4122, slot := 3, constantValue := 0 }]
  methods := #[k7m0]
  instanceTypes := #[(.object "java/lang/String"), .int, .int]
  staticTypes := #[(.object "com/example/libfnseq/libfnseq/NumericValue$Relation"), (.object "com/example/libfnseq/libfnseq/NumericValue$Relation"), (.object "com/example/libfnseq/libfnseq/NumericValue$Relation"), (.array (.object "com/example/libfnseq/libfnseq/NumericValue$Relation"))]
  resolved := Array.replicate 62 none
  statics := some 0 }

def pool8 : Array CpInfo := pool [(1, u "java/lang/Cloneable"), (0, .class_ 1), (0, u "java/lang/Object"), (0, .class_ 3)] 3

/-- java/lang/Cloneable -/
def k8 : Class := { plain "java/lang/Cloneable" (some 0) with
  accessFlags := 1537
  interfaces := #[]
  cf := some (fileOf pool8 2 #[] #[] 1537 4 #[] #[])
  fields := #[]
  methods := #[]
  instanceTypes := #[]
  staticTypes := #[]
  resolved := Array.replicate 8 none
  statics := none }

/-- the primitive byte -/
def k9 : Class := { plain "byte" none with kind := .primitive 'B', accessFlags := 0x411 }
/-- [B -/
def k10 : Class := { plain "[B" (some 0) with kind := .array 9 .byte, interfaces := #[8, 5], accessFlags := 1041 }

/-- the primitive int -/
def k11 : Class := { plain "int" none with kind := .primitive 'I', accessFlags := 0x411 }
/-- [I -/
def k12 : Class := { plain "[I" (some 0) with kind := .array 11 .int, interfaces := #[8, 5], accessFlags := 1041 }

def heap : Heap := #[{ cls := 7, slots := #[.ref 1, .ref 2, .ref 3, .null], vm := .statics 7 },
  { cls := 7, slots := #[.null, .int 0, .int 0], vm := .none },
  { cls := 7, slots := #[.null, .int 1, .int 0], vm := .none },
  { cls := 7, slots := #[.null, .int 2, .int 0], vm := .none }]
def classes : Array Class := #[k0, k1, k2, k3, k4, k5, k6, k7, k8, k9, k10, k11, k12]
def interned : List (Array UInt16 × Addr) := []
def slotsUsed : Nat := 13
def theMethod : MethodId := ⟨1, 1⟩
def args0 : Array Value := #[.int 5]
def aboutOver (below : List Frame) : State where
  vm := { classes := classes, interned := interned.toArray }
  heap := heap
  slotsUsed := slotsUsed
  threads := #[{ frames := .invoking theMethod args0 :: below }]
def below0 : List Frame := [.native { method := ⟨0, 0⟩, args := #[] }]
def about1 : State := aboutOver below0
def p0 : Program := .bare "" "" ""
def e0 : Env := launch0.env 0 0 0
theorem w_frames : about1.frames = Frame.invoking theMethod args0 :: below0 := rfl
set_option maxRecDepth 65536 in
theorem w_args : argsFit about1.vm theMethod args0 = true := by decide +kernel
set_option maxRecDepth 65536 in
theorem w_heap : heapFits about1 = true := by decide +kernel
set_option maxRecDepth 65536 in
theorem w_runnable : about1.curStatus? = some .runnable := by decide +kernel
set_option maxRecDepth 65536 in
theorem w_alone : about1.alone = true := by decide +kernel
set_option maxRecDepth 65536 in
theorem w_named : about1.methodNamed? x = some theMethod := by decide +kernel
set_option maxRecDepth 65536 in
theorem w_hears : about1.hears theMethod below0 = true := by decide +kernel
set_option maxRecDepth 65536 in
theorem w_ripe : about1.ripe theMethod args0 below0 = true := by decide +kernel
theorem w_running : about1.status = .running := rfl
set_option maxRecDepth 65536 in
theorem w_room : about1.hasRoom e0.platform room_1 = true :=
  launch0.hasRoom_least _ room_1 (by decide +kernel) (by decide +kernel) (by decide +kernel) (by decide +kernel) (by decide +kernel) (by decide +kernel)
theorem allAtoms_all (ts : List Jvm.Cond) (a : Array Jvm.Value) (st : Jvm.State) : (allAtoms ts).before a st = ts.all (fun c => c.before a st) := by
  induction ts with
  | nil => rfl
  | cons c t ih =>
    show (Jvm.Cond.and c (allAtoms t)).before a st = _
    rw [Jvm.Cond.before_and, ih, List.all_cons]
def words1 : List Jvm.Cond := Jvm.Cond.code x code maxLocals ret :: tables_1
/-- a 'code' word, met by the world's own term for the bytes: nothing is compared byte by byte -/
theorem code_word {y : MethodName} {bytes : ByteArray} {mx : Nat} {rt : Option FieldType} {a : Array Value} {s : State} {m : MethodId} {meth : Method} {c : Code} (h1 : s.methodNamed? y = some m) (h2 : s.vm.method? m = some meth) (h3 : meth.code = some c) (h4 : c.code = bytes)
    (h5 : (c.maxLocals == mx && c.exceptionTable.isEmpty && decide (c.maxStack ≤ mostOperands) && decide (meth.sig.returnType = rt) && !meth.locks && decide (parseMethodDescriptor y.desc = some meth.sig)) = true) : (Jvm.Cond.code y bytes mx rt).before a s = true := by
  simp only [Bool.and_eq_true, beq_iff_eq, Bool.not_eq_true', decide_eq_true_eq] at h5
  obtain ⟨⟨⟨⟨⟨g1, g2⟩, g3⟩, g4⟩, g5⟩, g6⟩ := h5
  simp [Cond.before, Cond.holds, Cond.value, h1, h2, h3, h4, g1, g2, g3, g4, g5, g6]
def isCode : Jvm.Cond → Bool
  | .code _ _ _ _ => true
  | _ => false
theorem all_split {L : List Jvm.Cond} {P : Jvm.Cond → Bool} (h1 : L.all (fun c => isCode c || P c) = true) (h2 : ∀ c ∈ L.filter isCode, P c = true) : L.all P = true := by
  refine List.all_eq_true.mpr fun c hc => ?_
  have h := List.all_eq_true.mp h1 c hc
  rcases Bool.eq_false_or_eq_true (isCode c) with hi | hi
  · exact h2 c (List.mem_filter.mpr ⟨hc, hi⟩)
  · simpa [hi] using h
set_option maxRecDepth 65536 in
theorem w_c0 : (Jvm.Cond.code x code maxLocals ret).before args0 about1 = true := code_word (m := ⟨1, 1⟩) (meth := k1m1) (c := k1c1) (by decide +kernel) rfl rfl rfl (by decide +kernel)
set_option maxRecDepth 65536 in
theorem w_c1 : (Jvm.Cond.code ({ cls := "java/lang/Math", name := "min", desc := "(II)I" } : Jvm.MethodName) jdk_29_method_69_code (2 : Nat) (Option.some Jvm.ClassFile.FieldType.int)).before args0 about1 = true := code_word (m := ⟨2, 2⟩) (meth := k2m2) (c := k2c2) (by decide +kernel) rfl rfl rfl (by decide +kernel)
set_option maxRecDepth 65536 in
theorem w_c2 : (Jvm.Cond.code ({ cls := "java/lang/Math", name := "max", desc := "(II)I" } : Jvm.MethodName) jdk_29_method_65_code (2 : Nat) (Option.some Jvm.ClassFile.FieldType.int)).before args0 about1 = true := code_word (m := ⟨2, 1⟩) (meth := k2m1) (c := k2c1) (by decide +kernel) rfl rfl rfl (by decide +kernel)
set_option maxRecDepth 65536 in
theorem w_c3 : (Jvm.Cond.code ({ cls := "com/example/libfnseq/libfnseq/NumericValue$Relation", name := "holds", desc := "(I)Z" } : Jvm.MethodName) prog_65_method_5_code (3 : Nat) (Option.some Jvm.ClassFile.FieldType.boolean)).before args0 about1 = true := code_word (m := ⟨7, 0⟩) (meth := k7m0) (c := k7c0) (by decide +kernel) rfl rfl rfl (by decide +kernel)
def codes1 : List Jvm.Cond := [Jvm.Cond.code x code maxLocals ret, Jvm.Cond.code ({ cls := "java/lang/Math", name := "min", desc := "(II)I" } : Jvm.MethodName) jdk_29_method_69_code (2 : Nat) (Option.some Jvm.ClassFile.FieldType.int), Jvm.Cond.code ({ cls := "java/lang/Math", name := "max", desc := "(II)I" } : Jvm.MethodName) jdk_29_method_65_code (2 : Nat) (Option.some Jvm.ClassFile.FieldType.int), Jvm.Cond.code ({ cls := "com/example/libfnseq/libfnseq/NumericValue$Relation", name := "holds", desc := "(I)Z" } : Jvm.MethodName) prog_65_method_5_code (3 : Nat) (Option.some Jvm.ClassFile.FieldType.boolean)]
set_option maxRecDepth 65536 in
theorem codes_eq : words1.filter isCode = codes1 := rfl
theorem w_codes : ∀ c ∈ words1.filter isCode, c.before args0 about1 = true := by
  rw [codes_eq]
  intro c hc
  simp only [codes1, List.mem_cons, List.not_mem_nil, or_false] at hc
  rcases hc with rfl | rfl | rfl | rfl
  · exact w_c0
  · exact w_c1
  · exact w_c2
  · exact w_c3
set_option maxRecDepth 65536 in
theorem w_t1 : words1.all (fun c => isCode c || c.before args0 about1) = true := by decide +kernel
theorem w_tables : (allAtoms (Jvm.Cond.code x code maxLocals ret :: tables_1)).before args0 about1 = true := by
  rw [allAtoms_all]
  show words1.all (fun c => c.before args0 about1) = true
  refine all_split ?_ w_codes
  rw [w_t1]
set_option maxRecDepth 65536 in
theorem w_case : (Jvm.Cond.and given_1 narrow_1).before args0 about1 = true := by decide +kernel
theorem w_applies : (headSpec (Jvm.Cond.code x code maxLocals ret :: tables_1) room_1).applies x e0.platform about1 = true :=
  (Spec.applies_iff w_frames).mpr ⟨w_running, w_runnable, w_alone, w_named, w_hears, w_ripe, w_room, w_tables⟩
theorem atStart : AtStart classFile x code maxLocals ret World_1 tables_1 room_1 Calls_1 rest_1 Pre_1 launch0 p0 e0 about1 theMethod args0 below0 :=
  ⟨lists_1, trivial, launch0.admits_env _ _ _, launch0.least_env, fairChoices_fair.cas, fairChoices_fair.clock, w_frames, w_args, w_heap, w_applies, trivial, trivial, w_case⟩
end start1
theorem witness_1 : WitnessClaimed_1 := ⟨start1.p0, start1.e0, start1.about1, start1.theMethod, start1.args0, start1.below0, start1.atStart⟩
end Jvm.Pilot.@@N@@
