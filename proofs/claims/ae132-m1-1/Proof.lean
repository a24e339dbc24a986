import JvmDerived
import JvmDerived.Pilot.@@N@@Statement
import JvmDerived.Pilot.@@N@@Code
set_option linter.unusedVariables false
set_option linter.unusedSimpArgs false
namespace Jvm.Pilot.@@N@@
open Jvm Jvm.ClassFile Sem Op Lib Jvm.Free Jvm.Stand Jvm.LawKit Jvm.RoadKit Bundle Jvm.Pilot.@@N@@.Jvm.D
/-! my own words: Go (the run comes from T to a state with P), a step, a return -/
def Go (tb : Tables) (e : Env) (below : List Frame) (P : State → Prop) (T : State) : Prop := ∃ u, P u ∧ ∀ t, Steps tb e below u t → Steps tb e below T t
theorem Go.by' {tb : Tables} {e : Env} {below : List Frame} {P : State → Prop} {T T' : State} (h : ∀ t, Steps tb e below T' t → Steps tb e below T t) (k : Go tb e below P T') : Go tb e below P T :=
  k.elim fun u q => ⟨u, q.1, fun t z => h t (q.2 t z)⟩
theorem Go.cast {tb : Tables} {e : Env} {below : List Frame} {P : State → Prop} {T : State} {g g' : JFrame} (q : g = g') (k : Go tb e below P (T.setTop g')) : Go tb e below P (T.setTop g) := q ▸ k
def Fin' (s : State) (below : List Frame) (ce sl : Nat) (Q : Option Value → Heap → List Loc → Prop) (u : State) : Prop := u.status = .running ∧ ∃ o, Ended u below o ∧ ∃ v L, o = .returned v ∧ Q v u.heap L ∧ FrameEnd s o u L ce sl
theorem Go.body {tb : Tables} {e : Env} {below : List Frame} {s : State} {ce sl : Nat} {Q : Option Value → Heap → List Loc → Prop} {T : State} (h : Go tb e below (Fin' s below ce sl Q) T) :
    ∃ s₂ o, Steps tb e below T s₂ ∧ s₂.status = .running ∧ Ended s₂ below o ∧ ∃ v L, o = .returned v ∧ Q v s₂.heap L ∧ FrameEnd s o s₂ L ce sl := by
  obtain ⟨u, ⟨h1, o, h2, h3⟩, h4⟩ := h
  exact ⟨u, o, h4 u (Steps.refl _), h1, h2, h3⟩
section OwnStand
variable {p : Program} {l : Launch} {e : Env} {R : Room} {s : State} {m : MethodId} {args : Array Value} {below : List Frame} {meth : Method} {c : Code} {T : State} {locs : List Loc} {cells slots : Nat}
def Like (X : Stand p l e R s m args below meth c T locs cells slots) (T' : State) : Prop := Stand p l e R s m args below meth c T' locs cells slots
theorem Go.out (X : Stand p l e R s m args below meth c T locs cells slots) {v : Option Value} (hv : meth.sig.returnType = none → v = none) (hlocks : meth.locks = false) {g : JFrame} {ce sl : Nat} {Q : Option Value → Heap → List Loc → Prop}
    (st : ∀ fs : List Frame, (∀ (f : JFrame) (acts : List Action), f.method = m → f.locked = none → f.entered = [] → (doReturn e (T.setTop f) acts v).1 = T.setFrames fs) → Steps p.tables e below (T.setTop g) (T.setFrames fs))
    (hc : cells ≤ ce) (hs : slots ≤ sl) (q : Q v T.heap locs) : Go p.tables e below (Fin' s below ce sl Q) (T.setTop g) := by
  obtain ⟨fs, hr, hrun, hended, hW, hsame⟩ := X.leave (v := v) hv hlocks
  exact ⟨T.setFrames fs, ⟨hrun, _, hended, v, locs, rfl, q, ⟨_, rfl⟩, hW, hsame.mono hc hs⟩, fun t k => (st fs hr).trans k⟩
theorem Go.retI' (X : Stand p l e R s m args below meth c T locs cells slots) (hx : p.tables.exec = Jvm.exec) {pc : Nat} {Ls : Array Slot} {z : Int32} {rest : List Value} {t : FieldType} (hret : meth.sig.returnType = some t) (hlocks : meth.locks = false)
    (ht : t = .int ∨ t = .boolean ∨ t = .byte ∨ t = .char ∨ t = .short) (hn : narrow t (.int z) = .int z) (hd : decode c.code pc = .ok (.ireturn, 1)) {ce sl : Nat} {Q : Option Value → Heap → List Loc → Prop} (hc : cells ≤ ce) (hs : slots ≤ sl) (q : Q (some (.int z)) T.heap locs) :
    Go p.tables e below (Fin' s below ce sl Q) (T.setTop (mkF m pc Ls (.int z :: rest))) :=
  Go.out X (fun h => by rw [hret] at h; cases h) hlocks (fun _ hl => retOut X hx hret hn (Or.inl ⟨rfl, ht, z, rfl⟩) hd hl) hc hs q
theorem Go.retA' (X : Stand p l e R s m args below meth c T locs cells slots) (hx : p.tables.exec = Jvm.exec) {pc : Nat} {Ls : Array Slot} {w : Value} {rest : List Value} {t : FieldType} (hret : meth.sig.returnType = some t) (hlocks : meth.locks = false)
    (ht : t.isReference = true) (hw : w.isRef = true) (hd : decode c.code pc = .ok (.areturn, 1)) {ce sl : Nat} {Q : Option Value → Heap → List Loc → Prop} (hc : cells ≤ ce) (hs : slots ≤ sl) (q : Q (some w) T.heap locs) :
    Go p.tables e below (Fin' s below ce sl Q) (T.setTop (mkF m pc Ls (w :: rest))) :=
  Go.out X (fun h => by rw [hret] at h; cases h) hlocks (fun _ hl => retOut X hx hret (by cases t <;> first | (cases ht; done) | (rcases ref_cases hw with rfl | ⟨z, rfl⟩ <;> rfl)) (Or.inr (Or.inr (Or.inr (Or.inr ⟨rfl, ht, hw⟩)))) hd hl) hc hs q
theorem Go.retD' (X : Stand p l e R s m args below meth c T locs cells slots) (hx : p.tables.exec = Jvm.exec) {pc : Nat} {Ls : Array Slot} {z : UInt64} {rest : List Value} (hret : meth.sig.returnType = some .double) (hlocks : meth.locks = false)
    (hd : decode c.code pc = .ok (.dreturn, 1)) {ce sl : Nat} {Q : Option Value → Heap → List Loc → Prop} (hc : cells ≤ ce) (hs : slots ≤ sl) (q : Q (some (.double z)) T.heap locs) :
    Go p.tables e below (Fin' s below ce sl Q) (T.setTop (mkF m pc Ls (.double z :: rest))) :=
  Go.out X (fun h => by rw [hret] at h; cases h) hlocks (fun _ hl => retOut X hx hret rfl (Or.inr (Or.inr (Or.inl ⟨rfl, rfl, z, rfl⟩))) hd hl) hc hs q
theorem Go.retV' (X : Stand p l e R s m args below meth c T locs cells slots) (hx : p.tables.exec = Jvm.exec) {pc : Nat} {Ls : Array Slot} (hret : meth.sig.returnType = none) (hlocks : meth.locks = false)
    (hd : decode c.code pc = .ok (.return_, 1)) {ce sl : Nat} {Q : Option Value → Heap → List Loc → Prop} (hc : cells ≤ ce) (hs : slots ≤ sl) (q : Q none T.heap locs) :
    Go p.tables e below (Fin' s below ce sl Q) (T.setTop (mkF m pc Ls [])) :=
  Go.out X (fun _ => rfl) hlocks (fun _ hl => X.returnOut hx hret hd hl) hc hs q
end OwnStand
theorem own_nb {z : Int32} (h : z = 0 ∨ z = 1) : narrow .boolean (.int z) = .int z := by rcases h with rfl | rfl <;> rfl
theorem own_fb {z : Int32} (h : z = 0 ∨ z = 1) : fits .boolean (.int z) = true := by rcases h with rfl | rfl <;> rfl
theorem own_bb {x : Int32} : nar .byte (x.toInt8.toInt32) = x.toInt8.toInt32 := by show x.toInt8.toInt32.toInt8.toInt32 = x.toInt8.toInt32; simp
theorem own_nm (x : Int32) : nar .char (x &&& (255 : Int32)) = (x &&& (255 : Int32)) := i2c_mask x
theorem own_i2c {x : Int32} (h0 : ¬ x < (0 : Int32)) (h1 : ¬ (255 : Int32) < x) : x.toUInt32.toUInt16.toUInt32.toInt32 = x := by
  have a := c_i2c x
  have z0 : (0 : Int32).toInt = 0 := rfl
  have z1 : (255 : Int32).toInt = 255 := rfl
  rw [Int32.lt_iff_toInt_lt] at h0 h1
  rw [← Int32.toInt_inj]; omega
theorem own_nc {x : Int32} (h0 : ¬ x < (0 : Int32)) (h1 : ¬ (255 : Int32) < x) : nar .char x = x := own_i2c h0 h1
theorem own_b8 {x y : Int32} (h0 : ¬ x < (0 : Int32)) (h1 : ¬ (255 : Int32) < x) (h2 : ¬ y < (0 : Int32)) (h3 : ¬ (255 : Int32) < y) : (x.toInt8.toInt32) = (y.toInt8.toInt32) ↔ x = y := by
  have a := c_i2b x
  have b := c_i2b y
  have z0 : (0 : Int32).toInt = 0 := rfl
  have z1 : (255 : Int32).toInt = 255 := rfl
  rw [Int32.lt_iff_toInt_lt] at h0 h1 h2 h3
  rw [← Int32.toInt_inj, ← Int32.toInt_inj]; omega
theorem own_m (x : Int32) : ¬ (x &&& (255 : Int32)) < (0 : Int32) ∧ ¬ (255 : Int32) < (x &&& (255 : Int32)) := by
  have h := c_mask x 255 8 (by decide) (by decide)
  have z0 : (0 : Int32).toInt = 0 := rfl
  have z1 : (255 : Int32).toInt = 255 := rfl
  rw [Int32.lt_iff_toInt_lt, Int32.lt_iff_toInt_lt]; omega
theorem own_le {Z : State} {n0 : Nat} {h : Heap} (X : Old Z n0 h) : n0 ≤ h.size := X.1 ▸ X.2.1
def Gh (Z : State) (wN : Addr) (wR : Addr) (wW : Addr) (wD : Addr) : Prop := (Sta Z Z.heap "com/example/slatewipe/slatewipe/vendors/postgresql/Changes$Noted" "NOTHING" "Lcom/example/slatewipe/slatewipe/vendors/postgresql/Changes$Noted;" (.ref wN)) ∧ (Exa Z Z.heap wN "com/example/slatewipe/slatewipe/vendors/postgresql/Changes$Noted") ∧ (Sta Z Z.heap "com/example/slatewipe/slatewipe/vendors/postgresql/Changes$Noted" "ROWS" "Lcom/example/slatewipe/slatewipe/vendors/postgresql/Changes$Noted;" (.ref wR)) ∧ (Exa Z Z.heap wR "com/example/slatewipe/slatewipe/vendors/postgresql/Changes$Noted") ∧ (Sta Z Z.heap "com/example/slatewipe/slatewipe/vendors/postgresql/Changes$Noted" "WHOLE" "Lcom/example/slatewipe/slatewipe/vendors/postgresql/Changes$Noted;" (.ref wW)) ∧ (Exa Z Z.heap wW "com/example/slatewipe/slatewipe/vendors/postgresql/Changes$Noted") ∧ (wN ≠ wR) ∧ (wW ≠ wR) ∧ (Sta Z Z.heap "java/util/ArrayList" "DEFAULTCAPACITY_EMPTY_ELEMENTDATA" "[Ljava/lang/Object;" (.ref wD)) ∧ (Exa Z Z.heap wD "[Ljava/lang/Object;")
theorem d3_0 : decode jdk_22_method_1_code 0 = .ok (.aload_n 0, 1) := by decide +kernel
theorem d3_1 : decode jdk_22_method_1_code 1 = .ok (.invokespecial 1, 3) := by decide +kernel
theorem d3_4 : decode jdk_22_method_1_code 4 = .ok (.return_, 1) := by decide +kernel
theorem pn_3 : plainName "java/util/AbstractCollection" = true := by first | (simp [plainName, overriddenIn]; done) | decide +kernel
set_option maxHeartbeats 4000000 in
theorem ef_rmAC (m : MethodId) {al : Addr} : entryFrame m #[(.ref al)] 1 = mkF m 0 #[.val (.ref al)] [] := by first | (simp [entryFrame, mkF, argsToLocals, Value.category]; done) | rfl
def QrmAC (Z : State) (wN : Addr) (wR : Addr) (wW : Addr) (wD : Addr) (al : Addr) (h0 : Heap) (n0 : Nat) (v : Option Value) (h : Heap) (L : List Loc) : Prop := (v = none) ∧ (L = []) ∧ (h = h0)
set_option maxRecDepth 65536 in
set_option maxHeartbeats 40000000 in
theorem rmAC (l : Launch) (Z : State) (a0 : Array Value) (hw : ∀ d ∈ tables_1, d.before a0 Z = true) (ws : List Jvm.Cond) (wN : Addr) (wR : Addr) (wW : Addr) (wD : Addr) (G : Gh Z wN wR wW wD) (al : Addr) (h0 : Heap) (n0 : Nat) (O0 : Old Z n0 h0) :
    MetFree l (⟨"java/util/AbstractCollection", "<init>", "()V"⟩ : MethodName) (head1 (Jvm.Cond.code (⟨"java/util/AbstractCollection", "<init>", "()V"⟩ : MethodName) jdk_22_method_1_code 1 none :: ws) ({ frames := 1, cells := 0, slots := 0, locals := 12 } : Room)) (fun aa' UU' => aa' = #[(.ref al)] ∧ Z.Warmed39 UU'.vm ∧ UU'.heap = h0) (fun _ _ _ _ _ => True) (fun _ UU' oo' VV' => ∃ v' L', oo' = .returned v' ∧ QrmAC Z wN wR wW wD al h0 n0 v' VV'.heap L' ∧ FrameEnd UU' oo' VV' L' ({ frames := 1, cells := 0, slots := 0, locals := 12 } : Room).cells ({ frames := 1, cells := 0, slots := 0, locals := 12 } : Room).slots) := by
  refine MetFree.of_bodySF (plainFor_of_name pn_3) hisR ?_
  intro p e s m args below meth c s₁ Bd hml0 hP hK
  obtain ⟨rfl, hZ, hh⟩ := hP
  have hx := Bd.exec
  have hby := Bd.bytes
  have hlk := Bd.notSynchronized
  have hml : c.maxLocals = 1 := hml0
  have hown : s.vm.findClass "java/util/AbstractCollection" = some m.cls := findClass_of_methodNamed Bd.named
  have hnm := (name_of_methodNamed Bd.named Bd.method).1
  have hret := Bd.returns
  have X0 : Stand p l e ({ frames := 1, cells := 0, slots := 0, locals := 12 } : Room) s m #[(.ref al)] below meth c s₁ [] 0 0 := Stand.of_body Bd
  have e0 : s₁.heap = h0 := by rw [← hh, Bd.state]; rfl
  have N0 := Fr.nil n0
  refine Go.body ?_
  obtain ⟨Pf, hPf⟩ : ∃ P, P = Fin' s below ({ frames := 1, cells := 0, slots := 0, locals := 12 } : Room).cells ({ frames := 1, cells := 0, slots := 0, locals := 12 } : Room).slots (QrmAC Z wN wR wW wD al h0 n0) := ⟨_, rfl⟩
  rw [← hPf]
  refine Go.cast (ef_rmAC m) ?_
  have hw25 := (hw _ (List.mem_of_getElem? (i := 25) rfl))
  have hw26 := (hw _ (List.mem_of_getElem? (i := 26) rfl))
  have hw27 := (hw _ (List.mem_of_getElem? (i := 27) rfl))
  show Go p.tables e below Pf (s₁.setTop (mkF m 0 #[.val (.ref al)] []))
  refine Go.by' (fun t k => (XS.aloadN X0.here hx rfl (hb hby d3_0) rfl rfl k)) ?_
  show Go p.tables e below Pf (s₁.setTop (mkF m 1 #[.val (.ref al)] [(.ref al)]))
  obtain ⟨T1, X1, e1, st1⟩ := initO X0 hx hZ hown hw25 hw26 hw27 e0 (g := (mkF m 1 #[.val (.ref al)] [(.ref al)])) rfl (by rw [hml]; rfl) rfl (hb hby d3_1) (by decide) (W := 0) (by show 2 * 0 + _ ≤ _; exact Nat.le_of_eq rfl) (by decide)
  refine Go.by' st1 ?_
  show Go p.tables e below Pf (T1.setTop (mkF m 4 #[.val (.ref al)] []))
  rw [hPf]
  exact Go.retV' X1 hx hret hlk (hb hby d3_4) (by decide) (by decide) ⟨rfl, rfl, e1⟩
theorem d2_0 : decode jdk_39_method_1_code 0 = .ok (.aload_n 0, 1) := by decide +kernel
theorem d2_1 : decode jdk_39_method_1_code 1 = .ok (.invokespecial 1, 3) := by decide +kernel
theorem pd_0 : parseMethodDescriptor "()V" = some ⟨[], none⟩ := by decide +kernel
theorem d2_4 : decode jdk_39_method_1_code 4 = .ok (.aload_n 0, 1) := by decide +kernel
theorem d2_5 : decode jdk_39_method_1_code 5 = .ok (.iconst 0, 1) := by decide +kernel
theorem d2_6 : decode jdk_39_method_1_code 6 = .ok (.putfield 7, 3) := by decide +kernel
theorem d2_9 : decode jdk_39_method_1_code 9 = .ok (.return_, 1) := by decide +kernel
theorem pn_2 : plainName "java/util/AbstractList" = true := by first | (simp [plainName, overriddenIn]; done) | decide +kernel
set_option maxHeartbeats 4000000 in
theorem ef_rmAB (m : MethodId) {al : Addr} : entryFrame m #[(.ref al)] 1 = mkF m 0 #[.val (.ref al)] [] := by first | (simp [entryFrame, mkF, argsToLocals, Value.category]; done) | rfl
def QrmAB (Z : State) (wN : Addr) (wR : Addr) (wW : Addr) (wD : Addr) (al : Addr) (h0 : Heap) (n0 : Nat) (v : Option Value) (h : Heap) (L : List Loc) : Prop := (v = none) ∧ (Fr n0 L) ∧ (Keep h0 h [al]) ∧ (Exa Z h al "java/util/ArrayList") ∧ (Fld Z h al "java/util/AbstractList" "modCount" "I" (.int (0 : Int32))) ∧ (Fld Z h al "java/util/ArrayList" "elementData" "[Ljava/lang/Object;" .null)
set_option maxRecDepth 65536 in
set_option maxHeartbeats 40000000 in
theorem rmAB (l : Launch) (Z : State) (a0 : Array Value) (hw : ∀ d ∈ tables_1, d.before a0 Z = true) (ws : List Jvm.Cond) (wN : Addr) (wR : Addr) (wW : Addr) (wD : Addr) (G : Gh Z wN wR wW wD) (al : Addr) (h0 : Heap) (n0 : Nat) (O0 : Old Z n0 h0) (EX : Exa Z h0 al "java/util/ArrayList") (FM : Fld Z h0 al "java/util/AbstractList" "modCount" "I" (.int (0 : Int32))) (F_elementData : Fld Z h0 al "java/util/ArrayList" "elementData" "[Ljava/lang/Object;" .null) (g_al : n0 ≤ al) :
    MetFree l (⟨"java/util/AbstractList", "<init>", "()V"⟩ : MethodName) (head1 (Jvm.Cond.code (⟨"java/util/AbstractList", "<init>", "()V"⟩ : MethodName) jdk_39_method_1_code 1 none :: ws) ({ frames := 2, cells := 0, slots := 0, locals := 24 } : Room)) (fun aa' UU' => aa' = #[(.ref al)] ∧ Z.Warmed39 UU'.vm ∧ UU'.heap = h0) (fun _ _ _ _ _ => True) (fun _ UU' oo' VV' => ∃ v' L', oo' = .returned v' ∧ QrmAB Z wN wR wW wD al h0 n0 v' VV'.heap L' ∧ FrameEnd UU' oo' VV' L' ({ frames := 2, cells := 0, slots := 0, locals := 24 } : Room).cells ({ frames := 2, cells := 0, slots := 0, locals := 24 } : Room).slots) := by
  refine MetFree.of_bodySF (plainFor_of_name pn_2) hisR ?_
  intro p e s m args below meth c s₁ Bd hml0 hP hK
  obtain ⟨rfl, hZ, hh⟩ := hP
  have hx := Bd.exec
  have hby := Bd.bytes
  have hlk := Bd.notSynchronized
  have hml : c.maxLocals = 1 := hml0
  have hown : s.vm.findClass "java/util/AbstractList" = some m.cls := findClass_of_methodNamed Bd.named
  have hnm := (name_of_methodNamed Bd.named Bd.method).1
  have hret := Bd.returns
  have X0 : Stand p l e ({ frames := 2, cells := 0, slots := 0, locals := 24 } : Room) s m #[(.ref al)] below meth c s₁ [] 0 0 := Stand.of_body Bd
  have e0 : s₁.heap = h0 := by rw [← hh, Bd.state]; rfl
  have N0 := Fr.nil n0
  have KC0 : Keep h0 h0 [al] := Keep.refl _ _
  refine Go.body ?_
  obtain ⟨Pf, hPf⟩ : ∃ P, P = Fin' s below ({ frames := 2, cells := 0, slots := 0, locals := 24 } : Room).cells ({ frames := 2, cells := 0, slots := 0, locals := 24 } : Room).slots (QrmAB Z wN wR wW wD al h0 n0) := ⟨_, rfl⟩
  rw [← hPf]
  refine Go.cast (ef_rmAB m) ?_
  have hw8 := (hw _ (List.mem_of_getElem? (i := 8) rfl))
  have hw19 := (hw _ (List.mem_of_getElem? (i := 19) rfl))
  have hw20 := (hw _ (List.mem_of_getElem? (i := 20) rfl))
  have hw23 := (hw _ (List.mem_of_getElem? (i := 23) rfl))
  have hw24 := (hw _ (List.mem_of_getElem? (i := 24) rfl))
  have hw28 := (hw _ (List.mem_of_getElem? (i := 28) rfl))
  have hw29 := (hw _ (List.mem_of_getElem? (i := 29) rfl))
  have hw32 := (hw _ (List.mem_of_getElem? (i := 32) rfl))
  show Go p.tables e below Pf (s₁.setTop (mkF m 0 #[.val (.ref al)] []))
  refine Go.by' (fun t k => (XS.aloadN X0.here hx rfl (hb hby d2_0) rfl rfl k)) ?_
  show Go p.tables e below Pf (s₁.setTop (mkF m 1 #[.val (.ref al)] [(.ref al)]))
  obtain ⟨_, _, ⟨T2, L2, k2, n2⟩, -, X2, ⟨Lc2, hQ2, l2, y2, z2⟩, st2⟩ := X0.specialBack hx (y := (⟨"java/util/AbstractCollection", "<init>", "()V"⟩ : MethodName)) rfl hown (mvT hZ hw19) (mvT hZ hw20) (mvT hZ hw24) (by decide) (backOf (W := 0) (rmAC l Z a0 hw [] wN wR wW wD G al h0 n0 O0 ) hZ hw24 hw23 (by decide) (by decide)) (g := (mkF m 1 #[.val (.ref al)] [(.ref al)])) rfl (by rw [hml]; rfl) (Steps.refl _) (a := al) (argsL := []) (rest := []) (lenOf pd_0 rfl) rfl (by show 2 * 0 + _ ≤ _; exact Nat.le_of_eq rfl) (hb hby d2_1) (fun _ _ => ⟨rfl, e0, (by decide : 0 + 0 ≤ _), (by decide : 0 + 0 ≤ _)⟩)
  dsimp only [Pt.U, Pt.locs, Pt.cells, Pt.slots] at X2 l2 y2 z2 st2 hQ2
  subst l2 y2 z2
  obtain ⟨rfl, rfl, e2⟩ := hQ2
  try rw [List.append_nil] at X2
  refine Go.by' (fun t k => st2.trans k) ?_
  show Go p.tables e below Pf (T2.setTop (mkF m 4 #[.val (.ref al)] []))
  refine Go.by' (fun t k => (XS.aloadN X2.here hx rfl (hb hby d2_4) rfl rfl (XS.iconst X2.here hx rfl (hb hby d2_5) k))) ?_
  show Go p.tables e below Pf (T2.setTop (mkF m 6 #[.val (.ref al)] [(.int (0 : Int32)), (.ref al)]))
  obtain ⟨T3, h3, X3, e3, W3, st3⟩ := putF X2 hx hZ hown (host := "") (Or.inl hw28) Via.refl e2 FM EX (Or.inl hw29) hw8 (ty := .int) (by decide) rfl rfl (g := (mkF m 6 #[.val (.ref al)] [(.int (0 : Int32)), (.ref al)])) rfl rfl (hb hby d2_6)
  refine Go.by' st3 ?_
  have Fw3 : Fld Z h3 al "java/util/AbstractList" "modCount" "I" (Value.int (0 : Int32)) := FM.same W3
  have N3 := Fr.snoc X3 N0 g_al
  have O3 := O0.wr W3 g_al
  have KC3 : Keep h0 h3 [al] := KC0.wr W3 (Or.inl (List.mem_of_getElem? (i := 0) rfl))
  show Go p.tables e below Pf (T3.setTop (mkF m 9 #[.val (.ref al)] []))
  rw [hPf]
  exact Go.retV' X3 hx hret hlk (hb hby d2_9) (by decide) (by decide) ⟨rfl, N3, (by rw [e3]; exact KC3), (by rw [e3]; exact (EX.wr W3)), (by rw [e3]; exact Fw3), (by rw [e3]; exact (F_elementData.other W3 (Or.inr (slot_ne (Or.inl hw32) (Or.inl hw29) (by decide) (t := (.array (.object "java/lang/Object"))) (t' := .int) (by decide) (by decide)))))⟩
theorem d1_0 : decode jdk_38_method_2_code 0 = .ok (.aload_n 0, 1) := by decide +kernel
theorem d1_1 : decode jdk_38_method_2_code 1 = .ok (.invokespecial 1, 3) := by decide +kernel
theorem d1_4 : decode jdk_38_method_2_code 4 = .ok (.aload_n 0, 1) := by decide +kernel
theorem d1_5 : decode jdk_38_method_2_code 5 = .ok (.getstatic 39, 3) := by decide +kernel
theorem d1_8 : decode jdk_38_method_2_code 8 = .ok (.putfield 9, 3) := by decide +kernel
theorem d1_11 : decode jdk_38_method_2_code 11 = .ok (.return_, 1) := by decide +kernel
theorem pn_1 : plainName "java/util/ArrayList" = true := by first | (simp [plainName, overriddenIn]; done) | decide +kernel
set_option maxHeartbeats 4000000 in
theorem ef_rmAL (m : MethodId) {al : Addr} : entryFrame m #[(.ref al)] 1 = mkF m 0 #[.val (.ref al)] [] := by first | (simp [entryFrame, mkF, argsToLocals, Value.category]; done) | rfl
def QrmAL (Z : State) (wN : Addr) (wR : Addr) (wW : Addr) (wD : Addr) (al : Addr) (h0 : Heap) (n0 : Nat) (v : Option Value) (h : Heap) (L : List Loc) : Prop := (v = none) ∧ (Fr n0 L) ∧ (Keep h0 h [al]) ∧ (Exa Z h al "java/util/ArrayList") ∧ (Fld Z h al "java/util/AbstractList" "modCount" "I" (.int (0 : Int32))) ∧ (Fld Z h al "java/util/ArrayList" "elementData" "[Ljava/lang/Object;" (.ref wD))
set_option maxRecDepth 65536 in
set_option maxHeartbeats 40000000 in
theorem rmAL (l : Launch) (Z : State) (a0 : Array Value) (hw : ∀ d ∈ tables_1, d.before a0 Z = true) (ws : List Jvm.Cond) (wN : Addr) (wR : Addr) (wW : Addr) (wD : Addr) (G : Gh Z wN wR wW wD) (al : Addr) (h0 : Heap) (n0 : Nat) (O0 : Old Z n0 h0) (EX : Exa Z h0 al "java/util/ArrayList") (FM : Fld Z h0 al "java/util/AbstractList" "modCount" "I" (.int (0 : Int32))) (F_elementData : Fld Z h0 al "java/util/ArrayList" "elementData" "[Ljava/lang/Object;" .null) (g_al : n0 ≤ al) :
    MetFree l (⟨"java/util/ArrayList", "<init>", "()V"⟩ : MethodName) (head1 (Jvm.Cond.code (⟨"java/util/ArrayList", "<init>", "()V"⟩ : MethodName) jdk_38_method_2_code 1 none :: ws) ({ frames := 3, cells := 0, slots := 0, locals := 36 } : Room)) (fun aa' UU' => aa' = #[(.ref al)] ∧ Z.Warmed39 UU'.vm ∧ UU'.heap = h0) (fun _ _ _ _ _ => True) (fun _ UU' oo' VV' => ∃ v' L', oo' = .returned v' ∧ QrmAL Z wN wR wW wD al h0 n0 v' VV'.heap L' ∧ FrameEnd UU' oo' VV' L' ({ frames := 3, cells := 0, slots := 0, locals := 36 } : Room).cells ({ frames := 3, cells := 0, slots := 0, locals := 36 } : Room).slots) := by
  refine MetFree.of_bodySF (plainFor_of_name pn_1) hisR ?_
  intro p e s m args below meth c s₁ Bd hml0 hP hK
  obtain ⟨rfl, hZ, hh⟩ := hP
  have hx := Bd.exec
  have hby := Bd.bytes
  have hlk := Bd.notSynchronized
  have hml : c.maxLocals = 1 := hml0
  have hown : s.vm.findClass "java/util/ArrayList" = some m.cls := findClass_of_methodNamed Bd.named
  have hnm := (name_of_methodNamed Bd.named Bd.method).1
  have hret := Bd.returns
  have X0 : Stand p l e ({ frames := 3, cells := 0, slots := 0, locals := 36 } : Room) s m #[(.ref al)] below meth c s₁ [] 0 0 := Stand.of_body Bd
  have e0 : s₁.heap = h0 := by rw [← hh, Bd.state]; rfl
  have N0 := Fr.nil n0
  have KC0 : Keep h0 h0 [al] := Keep.refl _ _
  refine Go.body ?_
  obtain ⟨Pf, hPf⟩ : ∃ P, P = Fin' s below ({ frames := 3, cells := 0, slots := 0, locals := 36 } : Room).cells ({ frames := 3, cells := 0, slots := 0, locals := 36 } : Room).slots (QrmAL Z wN wR wW wD al h0 n0) := ⟨_, rfl⟩
  rw [← hPf]
  refine Go.cast (ef_rmAL m) ?_
  have hw8 := (hw _ (List.mem_of_getElem? (i := 8) rfl))
  have hw13 := (hw _ (List.mem_of_getElem? (i := 13) rfl))
  have hw14 := (hw _ (List.mem_of_getElem? (i := 14) rfl))
  have hw17 := (hw _ (List.mem_of_getElem? (i := 17) rfl))
  have hw18 := (hw _ (List.mem_of_getElem? (i := 18) rfl))
  have hw29 := (hw _ (List.mem_of_getElem? (i := 29) rfl))
  have hw30 := (hw _ (List.mem_of_getElem? (i := 30) rfl))
  have hw31 := (hw _ (List.mem_of_getElem? (i := 31) rfl))
  have hw32 := (hw _ (List.mem_of_getElem? (i := 32) rfl))
  show Go p.tables e below Pf (s₁.setTop (mkF m 0 #[.val (.ref al)] []))
  refine Go.by' (fun t k => (XS.aloadN X0.here hx rfl (hb hby d1_0) rfl rfl k)) ?_
  show Go p.tables e below Pf (s₁.setTop (mkF m 1 #[.val (.ref al)] [(.ref al)]))
  obtain ⟨_, _, ⟨T4, L4, k4, n4⟩, -, X4, ⟨Lc4, hQ4, l4, y4, z4⟩, st4⟩ := X0.specialBack hx (y := (⟨"java/util/AbstractList", "<init>", "()V"⟩ : MethodName)) rfl hown (mvT hZ hw13) (mvT hZ hw14) (mvT hZ hw18) (by decide) (backOf (W := 0) (rmAB l Z a0 hw [] wN wR wW wD G al h0 n0 O0 EX FM F_elementData g_al) hZ hw18 hw17 (by decide) (by decide)) (g := (mkF m 1 #[.val (.ref al)] [(.ref al)])) rfl (by rw [hml]; rfl) (Steps.refl _) (a := al) (argsL := []) (rest := []) (lenOf pd_0 rfl) rfl (by show 2 * 0 + _ ≤ _; exact Nat.le_of_eq rfl) (hb hby d1_1) (fun _ _ => ⟨rfl, e0, (by decide : 0 + 0 ≤ _), (by decide : 0 + 0 ≤ _)⟩)
  dsimp only [Pt.U, Pt.locs, Pt.cells, Pt.slots] at X4 l4 y4 z4 st4 hQ4
  subst l4 y4 z4
  obtain ⟨rfl, N4q, K4, f4_0, f4_1, f4_2⟩ := hQ4
  have N4 := Fr.app N0 N4q
  refine Go.by' (fun t k => st4.trans k) ?_
  have O4 := O0.keep K4 (allS g_al all0)
  have KC4 : Keep h0 T4.heap [al] := KC0.trans K4 (allS (Or.inl (List.mem_of_getElem? (i := 0) rfl)) all0)
  show Go p.tables e below Pf (T4.setTop (mkF m 4 #[.val (.ref al)] []))
  refine Go.by' (fun t k => (XS.aloadN X4.here hx rfl (hb hby d1_4) rfl rfl k)) ?_
  show Go p.tables e below Pf (T4.setTop (mkF m 5 #[.val (.ref al)] [(.ref al)]))
  obtain ⟨T5, X5, e5, st5⟩ := getS2 X4 hx hZ hown (host := "") (Or.inl hw30) Via.refl rfl (G.2.2.2.2.2.2.2.2.1.ext O4.2) (g := (mkF m 5 #[.val (.ref al)] [(.ref al)])) rfl (hb hby d1_5)
  refine Go.by' st5 ?_
  show Go p.tables e below Pf (T5.setTop (mkF m 8 #[.val (.ref al)] [(.ref wD), (.ref al)]))
  obtain ⟨T6, h6, X6, e6, W6, st6⟩ := putF X5 hx hZ hown (host := "") (Or.inl hw31) Via.refl e5 f4_2 f4_0 (Or.inl hw32) hw8 (ty := (.array (.object "java/lang/Object"))) (by decide) rfl rfl (g := (mkF m 8 #[.val (.ref al)] [(.ref wD), (.ref al)])) rfl rfl (hb hby d1_8)
  refine Go.by' st6 ?_
  have Fw6 : Fld Z h6 al "java/util/ArrayList" "elementData" "[Ljava/lang/Object;" (Value.ref wD) := f4_2.same W6
  have N6 := Fr.snoc X6 N4 g_al
  have O6 := O4.wr W6 g_al
  have KC6 : Keep h0 h6 [al] := KC4.wr W6 (Or.inl (List.mem_of_getElem? (i := 0) rfl))
  show Go p.tables e below Pf (T6.setTop (mkF m 11 #[.val (.ref al)] []))
  rw [hPf]
  exact Go.retV' X6 hx hret hlk (hb hby d1_11) (by decide) (by decide) ⟨rfl, N6, (by rw [e6]; exact KC6), (by rw [e6]; exact (f4_0.wr W6)), (by rw [e6]; exact (f4_1.other W6 (Or.inr (slot_ne (Or.inl hw29) (Or.inl hw32) (by decide) (t := .int) (t' := (.array (.object "java/lang/Object"))) (by decide) (by decide))))), (by rw [e6]; exact Fw6)⟩
theorem d6_0 : decode jdk_30_method_1_code 0 = .ok (.aload_n 0, 1) := by decide +kernel
theorem d6_1 : decode jdk_30_method_1_code 1 = .ok (.invokespecial 1, 3) := by decide +kernel
theorem d6_4 : decode jdk_30_method_1_code 4 = .ok (.return_, 1) := by decide +kernel
theorem pn_6 : plainName "java/lang/Record" = true := by first | (simp [plainName, overriddenIn]; done) | decide +kernel
set_option maxHeartbeats 4000000 in
theorem ef_rmRec (m : MethodId) {al : Addr} : entryFrame m #[(.ref al)] 1 = mkF m 0 #[.val (.ref al)] [] := by first | (simp [entryFrame, mkF, argsToLocals, Value.category]; done) | rfl
def QrmRec (Z : State) (wN : Addr) (wR : Addr) (wW : Addr) (wD : Addr) (al : Addr) (h0 : Heap) (n0 : Nat) (v : Option Value) (h : Heap) (L : List Loc) : Prop := (v = none) ∧ (L = []) ∧ (h = h0)
set_option maxRecDepth 65536 in
set_option maxHeartbeats 40000000 in
theorem rmRec (l : Launch) (Z : State) (a0 : Array Value) (hw : ∀ d ∈ tables_1, d.before a0 Z = true) (ws : List Jvm.Cond) (wN : Addr) (wR : Addr) (wW : Addr) (wD : Addr) (G : Gh Z wN wR wW wD) (al : Addr) (h0 : Heap) (n0 : Nat) (O0 : Old Z n0 h0) :
    MetFree l (⟨"java/lang/Record", "<init>", "()V"⟩ : MethodName) (head1 (Jvm.Cond.code (⟨"java/lang/Record", "<init>", "()V"⟩ : MethodName) jdk_30_method_1_code 1 none :: ws) ({ frames := 1, cells := 0, slots := 0, locals := 12 } : Room)) (fun aa' UU' => aa' = #[(.ref al)] ∧ Z.Warmed39 UU'.vm ∧ UU'.heap = h0) (fun _ _ _ _ _ => True) (fun _ UU' oo' VV' => ∃ v' L', oo' = .returned v' ∧ QrmRec Z wN wR wW wD al h0 n0 v' VV'.heap L' ∧ FrameEnd UU' oo' VV' L' ({ frames := 1, cells := 0, slots := 0, locals := 12 } : Room).cells ({ frames := 1, cells := 0, slots := 0, locals := 12 } : Room).slots) := by
  refine MetFree.of_bodySF (plainFor_of_name pn_6) hisR ?_
  intro p e s m args below meth c s₁ Bd hml0 hP hK
  obtain ⟨rfl, hZ, hh⟩ := hP
  have hx := Bd.exec
  have hby := Bd.bytes
  have hlk := Bd.notSynchronized
  have hml : c.maxLocals = 1 := hml0
  have hown : s.vm.findClass "java/lang/Record" = some m.cls := findClass_of_methodNamed Bd.named
  have hnm := (name_of_methodNamed Bd.named Bd.method).1
  have hret := Bd.returns
  have X0 : Stand p l e ({ frames := 1, cells := 0, slots := 0, locals := 12 } : Room) s m #[(.ref al)] below meth c s₁ [] 0 0 := Stand.of_body Bd
  have e0 : s₁.heap = h0 := by rw [← hh, Bd.state]; rfl
  have N0 := Fr.nil n0
  refine Go.body ?_
  obtain ⟨Pf, hPf⟩ : ∃ P, P = Fin' s below ({ frames := 1, cells := 0, slots := 0, locals := 12 } : Room).cells ({ frames := 1, cells := 0, slots := 0, locals := 12 } : Room).slots (QrmRec Z wN wR wW wD al h0 n0) := ⟨_, rfl⟩
  rw [← hPf]
  refine Go.cast (ef_rmRec m) ?_
  have hw26 := (hw _ (List.mem_of_getElem? (i := 26) rfl))
  have hw27 := (hw _ (List.mem_of_getElem? (i := 27) rfl))
  have hw41 := (hw _ (List.mem_of_getElem? (i := 41) rfl))
  show Go p.tables e below Pf (s₁.setTop (mkF m 0 #[.val (.ref al)] []))
  refine Go.by' (fun t k => (XS.aloadN X0.here hx rfl (hb hby d6_0) rfl rfl k)) ?_
  show Go p.tables e below Pf (s₁.setTop (mkF m 1 #[.val (.ref al)] [(.ref al)]))
  obtain ⟨T7, X7, e7, st7⟩ := initO X0 hx hZ hown hw41 hw26 hw27 e0 (g := (mkF m 1 #[.val (.ref al)] [(.ref al)])) rfl (by rw [hml]; rfl) rfl (hb hby d6_1) (by decide) (W := 0) (by show 2 * 0 + _ ≤ _; exact Nat.le_of_eq rfl) (by decide)
  refine Go.by' st7 ?_
  show Go p.tables e below Pf (T7.setTop (mkF m 4 #[.val (.ref al)] []))
  rw [hPf]
  exact Go.retV' X7 hx hret hlk (hb hby d6_4) (by decide) (by decide) ⟨rfl, rfl, e7⟩
theorem d5_0 : decode prog_61_method_1_code 0 = .ok (.aload_n 0, 1) := by decide +kernel
theorem d5_1 : decode prog_61_method_1_code 1 = .ok (.invokespecial 1, 3) := by decide +kernel
theorem d5_4 : decode prog_61_method_1_code 4 = .ok (.aload_n 0, 1) := by decide +kernel
theorem d5_5 : decode prog_61_method_1_code 5 = .ok (.lload_n 1, 1) := by decide +kernel
theorem d5_6 : decode prog_61_method_1_code 6 = .ok (.putfield 7, 3) := by decide +kernel
theorem d5_9 : decode prog_61_method_1_code 9 = .ok (.aload_n 0, 1) := by decide +kernel
theorem d5_10 : decode prog_61_method_1_code 10 = .ok (.aload_n 3, 1) := by decide +kernel
theorem d5_11 : decode prog_61_method_1_code 11 = .ok (.putfield 13, 3) := by decide +kernel
theorem d5_14 : decode prog_61_method_1_code 14 = .ok (.aload_n 0, 1) := by decide +kernel
theorem d5_15 : decode prog_61_method_1_code 15 = .ok (.aload 4, 2) := by decide +kernel
theorem d5_17 : decode prog_61_method_1_code 17 = .ok (.putfield 17, 3) := by decide +kernel
theorem d5_20 : decode prog_61_method_1_code 20 = .ok (.aload_n 0, 1) := by decide +kernel
theorem d5_21 : decode prog_61_method_1_code 21 = .ok (.aload 5, 2) := by decide +kernel
theorem d5_23 : decode prog_61_method_1_code 23 = .ok (.putfield 21, 3) := by decide +kernel
theorem d5_26 : decode prog_61_method_1_code 26 = .ok (.aload_n 0, 1) := by decide +kernel
theorem d5_27 : decode prog_61_method_1_code 27 = .ok (.aload 6, 2) := by decide +kernel
theorem d5_29 : decode prog_61_method_1_code 29 = .ok (.putfield 24, 3) := by decide +kernel
theorem d5_32 : decode prog_61_method_1_code 32 = .ok (.aload_n 0, 1) := by decide +kernel
theorem d5_33 : decode prog_61_method_1_code 33 = .ok (.iload 7, 2) := by decide +kernel
theorem d5_35 : decode prog_61_method_1_code 35 = .ok (.putfield 28, 3) := by decide +kernel
theorem d5_38 : decode prog_61_method_1_code 38 = .ok (.aload_n 0, 1) := by decide +kernel
theorem d5_39 : decode prog_61_method_1_code 39 = .ok (.iload 8, 2) := by decide +kernel
theorem d5_41 : decode prog_61_method_1_code 41 = .ok (.putfield 32, 3) := by decide +kernel
theorem d5_44 : decode prog_61_method_1_code 44 = .ok (.aload_n 0, 1) := by decide +kernel
theorem d5_45 : decode prog_61_method_1_code 45 = .ok (.iload 9, 2) := by decide +kernel
theorem d5_47 : decode prog_61_method_1_code 47 = .ok (.putfield 35, 3) := by decide +kernel
theorem d5_50 : decode prog_61_method_1_code 50 = .ok (.aload_n 0, 1) := by decide +kernel
theorem d5_51 : decode prog_61_method_1_code 51 = .ok (.iload 10, 2) := by decide +kernel
theorem d5_53 : decode prog_61_method_1_code 53 = .ok (.putfield 38, 3) := by decide +kernel
theorem d5_56 : decode prog_61_method_1_code 56 = .ok (.aload_n 0, 1) := by decide +kernel
theorem d5_57 : decode prog_61_method_1_code 57 = .ok (.aload 11, 2) := by decide +kernel
theorem d5_59 : decode prog_61_method_1_code 59 = .ok (.putfield 41, 3) := by decide +kernel
theorem d5_62 : decode prog_61_method_1_code 62 = .ok (.aload_n 0, 1) := by decide +kernel
theorem d5_63 : decode prog_61_method_1_code 63 = .ok (.aload 12, 2) := by decide +kernel
theorem d5_65 : decode prog_61_method_1_code 65 = .ok (.putfield 44, 3) := by decide +kernel
theorem d5_68 : decode prog_61_method_1_code 68 = .ok (.return_, 1) := by decide +kernel
theorem pn_5 : plainName "com/example/slatewipe/slatewipe/vendors/postgresql/Changes$Copy" = true := by first | (simp [plainName, overriddenIn]; done) | decide +kernel
set_option maxHeartbeats 4000000 in
theorem ef_rmCopy (m : MethodId) {ac : Addr} {jid : Int64} {o1 : Addr} {o2 : Addr} {an : Addr} {f1 : Int32} {f2 : Int32} {f3 : Int32} {f4 : Int32} {o3 : Addr} {o4 : Addr} : entryFrame m #[(.ref ac), (.long jid), .null, (.ref o1), (.ref o2), (.ref an), (.int f1), (.int f2), (.int f3), (.int f4), (.ref o3), (.ref o4)] 13 = mkF m 0 #[.val (.ref ac), .val (.long jid), .second, .val .null, .val (.ref o1), .val (.ref o2), .val (.ref an), .val (.int f1), .val (.int f2), .val (.int f3), .val (.int f4), .val (.ref o3), .val (.ref o4)] [] := by first | (simp [entryFrame, mkF, argsToLocals, Value.category]; done) | rfl
def QrmCopy (Z : State) (wN : Addr) (wR : Addr) (wW : Addr) (wD : Addr) (ac : Addr) (jid : Int64) (o1 : Addr) (o2 : Addr) (an : Addr) (f1 : Int32) (f2 : Int32) (f3 : Int32) (f4 : Int32) (o3 : Addr) (o4 : Addr) (h0 : Heap) (n0 : Nat) (v : Option Value) (h : Heap) (L : List Loc) : Prop := (v = none) ∧ (Fr n0 L) ∧ (Keep h0 h [ac]) ∧ (Exa Z h ac "com/example/slatewipe/slatewipe/vendors/postgresql/Changes$Copy") ∧ (Fld Z h ac "com/example/slatewipe/slatewipe/vendors/postgresql/Changes$Copy" "noted" "Lcom/example/slatewipe/slatewipe/vendors/postgresql/Changes$Noted;" (.ref an)) ∧ (Fld Z h ac "com/example/slatewipe/slatewipe/vendors/postgresql/Changes$Copy" "referenced" "Z" (.int f3)) ∧ (Fld Z h ac "com/example/slatewipe/slatewipe/vendors/postgresql/Changes$Copy" "rules" "Z" (.int f4))
set_option maxRecDepth 65536 in
set_option maxHeartbeats 40000000 in
theorem rmCopy (l : Launch) (Z : State) (a0 : Array Value) (hw : ∀ d ∈ tables_1, d.before a0 Z = true) (ws : List Jvm.Cond) (wN : Addr) (wR : Addr) (wW : Addr) (wD : Addr) (G : Gh Z wN wR wW wD) (ac : Addr) (jid : Int64) (o1 : Addr) (o2 : Addr) (an : Addr) (f1 : Int32) (f2 : Int32) (f3 : Int32) (f4 : Int32) (o3 : Addr) (o4 : Addr) (h0 : Heap) (n0 : Nat) (O0 : Old Z n0 h0) (EX : Exa Z h0 ac "com/example/slatewipe/slatewipe/vendors/postgresql/Changes$Copy") (F0 : Fld Z h0 ac "com/example/slatewipe/slatewipe/vendors/postgresql/Changes$Copy" "id" "J" (.long (0 : Int64))) (F1 : Fld Z h0 ac "com/example/slatewipe/slatewipe/vendors/postgresql/Changes$Copy" "table" "Lcom/example/slatewipe/slatewipe/Table;" .null) (F2 : Fld Z h0 ac "com/example/slatewipe/slatewipe/vendors/postgresql/Changes$Copy" "columns" "Ljava/util/List;" .null) (F3 : Fld Z h0 ac "com/example/slatewipe/slatewipe/vendors/postgresql/Changes$Copy" "key" "Ljava/util/List;" .null) (F4 : Fld Z h0 ac "com/example/slatewipe/slatewipe/vendors/postgresql/Changes$Copy" "noted" "Lcom/example/slatewipe/slatewipe/vendors/postgresql/Changes$Noted;" .null) (F5 : Fld Z h0 ac "com/example/slatewipe/slatewipe/vendors/postgresql/Changes$Copy" "added" "Z" (.int (0 : Int32))) (F6 : Fld Z h0 ac "com/example/slatewipe/slatewipe/vendors/postgresql/Changes$Copy" "recorded" "Z" (.int (0 : Int32))) (F7 : Fld Z h0 ac "com/example/slatewipe/slatewipe/vendors/postgresql/Changes$Copy" "referenced" "Z" (.int (0 : Int32))) (F8 : Fld Z h0 ac "com/example/slatewipe/slatewipe/vendors/postgresql/Changes$Copy" "rules" "Z" (.int (0 : Int32))) (F9 : Fld Z h0 ac "com/example/slatewipe/slatewipe/vendors/postgresql/Changes$Copy" "switchOff" "Ljava/util/List;" .null) (F10 : Fld Z h0 ac "com/example/slatewipe/slatewipe/vendors/postgresql/Changes$Copy" "backOn" "Ljava/util/List;" .null) (g_ac : n0 ≤ ac) (hb1 : f1 = 0 ∨ f1 = 1) (hb2 : f2 = 0 ∨ f2 = 1) (hb3 : f3 = 0 ∨ f3 = 1) (hb4 : f4 = 0 ∨ f4 = 1) :
    MetFree l (⟨"com/example/slatewipe/slatewipe/vendors/postgresql/Changes$Copy", "<init>", "(JLcom/example/slatewipe/slatewipe/Table;Ljava/util/List;Ljava/util/List;Lcom/example/slatewipe/slatewipe/vendors/postgresql/Changes$Noted;ZZZZLjava/util/List;Ljava/util/List;)V"⟩ : MethodName) (head1 (Jvm.Cond.code (⟨"com/example/slatewipe/slatewipe/vendors/postgresql/Changes$Copy", "<init>", "(JLcom/example/slatewipe/slatewipe/Table;Ljava/util/List;Ljava/util/List;Lcom/example/slatewipe/slatewipe/vendors/postgresql/Changes$Noted;ZZZZLjava/util/List;Ljava/util/List;)V"⟩ : MethodName) prog_61_method_1_code 13 none :: ws) ({ frames := 2, cells := 0, slots := 0, locals := 24 } : Room)) (fun aa' UU' => aa' = #[(.ref ac), (.long jid), .null, (.ref o1), (.ref o2), (.ref an), (.int f1), (.int f2), (.int f3), (.int f4), (.ref o3), (.ref o4)] ∧ Z.Warmed39 UU'.vm ∧ UU'.heap = h0) (fun _ _ _ _ _ => True) (fun _ UU' oo' VV' => ∃ v' L', oo' = .returned v' ∧ QrmCopy Z wN wR wW wD ac jid o1 o2 an f1 f2 f3 f4 o3 o4 h0 n0 v' VV'.heap L' ∧ FrameEnd UU' oo' VV' L' ({ frames := 2, cells := 0, slots := 0, locals := 24 } : Room).cells ({ frames := 2, cells := 0, slots := 0, locals := 24 } : Room).slots) := by
  refine MetFree.of_bodySF (plainFor_of_name pn_5) hisR ?_
  intro p e s m args below meth c s₁ Bd hml0 hP hK
  obtain ⟨rfl, hZ, hh⟩ := hP
  have hx := Bd.exec
  have hby := Bd.bytes
  have hlk := Bd.notSynchronized
  have hml : c.maxLocals = 13 := hml0
  have hown : s.vm.findClass "com/example/slatewipe/slatewipe/vendors/postgresql/Changes$Copy" = some m.cls := findClass_of_methodNamed Bd.named
  have hnm := (name_of_methodNamed Bd.named Bd.method).1
  have hret := Bd.returns
  have X0 : Stand p l e ({ frames := 2, cells := 0, slots := 0, locals := 24 } : Room) s m #[(.ref ac), (.long jid), .null, (.ref o1), (.ref o2), (.ref an), (.int f1), (.int f2), (.int f3), (.int f4), (.ref o3), (.ref o4)] below meth c s₁ [] 0 0 := Stand.of_body Bd
  have e0 : s₁.heap = h0 := by rw [← hh, Bd.state]; rfl
  have N0 := Fr.nil n0
  have KC0 : Keep h0 h0 [ac] := Keep.refl _ _
  refine Go.body ?_
  obtain ⟨Pf, hPf⟩ : ∃ P, P = Fin' s below ({ frames := 2, cells := 0, slots := 0, locals := 24 } : Room).cells ({ frames := 2, cells := 0, slots := 0, locals := 24 } : Room).slots (QrmCopy Z wN wR wW wD ac jid o1 o2 an f1 f2 f3 f4 o3 o4 h0 n0) := ⟨_, rfl⟩
  rw [← hPf]
  refine Go.cast (ef_rmCopy m) ?_
  have hw5 := (hw _ (List.mem_of_getElem? (i := 5) rfl))
  have hw36 := (hw _ (List.mem_of_getElem? (i := 36) rfl))
  have hw37 := (hw _ (List.mem_of_getElem? (i := 37) rfl))
  have hw39 := (hw _ (List.mem_of_getElem? (i := 39) rfl))
  have hw40 := (hw _ (List.mem_of_getElem? (i := 40) rfl))
  have hw42 := (hw _ (List.mem_of_getElem? (i := 42) rfl))
  have hw43 := (hw _ (List.mem_of_getElem? (i := 43) rfl))
  have hw44 := (hw _ (List.mem_of_getElem? (i := 44) rfl))
  have hw45 := (hw _ (List.mem_of_getElem? (i := 45) rfl))
  have hw46 := (hw _ (List.mem_of_getElem? (i := 46) rfl))
  have hw47 := (hw _ (List.mem_of_getElem? (i := 47) rfl))
  have hw48 := (hw _ (List.mem_of_getElem? (i := 48) rfl))
  have hw49 := (hw _ (List.mem_of_getElem? (i := 49) rfl))
  have hw50 := (hw _ (List.mem_of_getElem? (i := 50) rfl))
  have hw51 := (hw _ (List.mem_of_getElem? (i := 51) rfl))
  have hw52 := (hw _ (List.mem_of_getElem? (i := 52) rfl))
  have hw53 := (hw _ (List.mem_of_getElem? (i := 53) rfl))
  have hw54 := (hw _ (List.mem_of_getElem? (i := 54) rfl))
  have hw55 := (hw _ (List.mem_of_getElem? (i := 55) rfl))
  have hw56 := (hw _ (List.mem_of_getElem? (i := 56) rfl))
  have hw57 := (hw _ (List.mem_of_getElem? (i := 57) rfl))
  have hw58 := (hw _ (List.mem_of_getElem? (i := 58) rfl))
  have hw59 := (hw _ (List.mem_of_getElem? (i := 59) rfl))
  have hw60 := (hw _ (List.mem_of_getElem? (i := 60) rfl))
  have hw61 := (hw _ (List.mem_of_getElem? (i := 61) rfl))
  have hw62 := (hw _ (List.mem_of_getElem? (i := 62) rfl))
  have hw63 := (hw _ (List.mem_of_getElem? (i := 63) rfl))
  show Go p.tables e below Pf (s₁.setTop (mkF m 0 #[.val (.ref ac), .val (.long jid), .second, .val .null, .val (.ref o1), .val (.ref o2), .val (.ref an), .val (.int f1), .val (.int f2), .val (.int f3), .val (.int f4), .val (.ref o3), .val (.ref o4)] []))
  refine Go.by' (fun t k => (XS.aloadN X0.here hx rfl (hb hby d5_0) rfl rfl k)) ?_
  show Go p.tables e below Pf (s₁.setTop (mkF m 1 #[.val (.ref ac), .val (.long jid), .second, .val .null, .val (.ref o1), .val (.ref o2), .val (.ref an), .val (.int f1), .val (.int f2), .val (.int f3), .val (.int f4), .val (.ref o3), .val (.ref o4)] [(.ref ac)]))
  obtain ⟨_, _, ⟨T8, L8, k8, n8⟩, -, X8, ⟨Lc8, hQ8, l8, y8, z8⟩, st8⟩ := X0.specialBack hx (y := (⟨"java/lang/Record", "<init>", "()V"⟩ : MethodName)) rfl hown (mvT hZ hw36) (mvT hZ hw37) (mvT hZ hw40) (by decide) (backOf (W := 0) (rmRec l Z a0 hw [] wN wR wW wD G ac h0 n0 O0 ) hZ hw40 hw39 (by decide) (by decide)) (g := (mkF m 1 #[.val (.ref ac), .val (.long jid), .second, .val .null, .val (.ref o1), .val (.ref o2), .val (.ref an), .val (.int f1), .val (.int f2), .val (.int f3), .val (.int f4), .val (.ref o3), .val (.ref o4)] [(.ref ac)])) rfl (by rw [hml]; rfl) (Steps.refl _) (a := ac) (argsL := []) (rest := []) (lenOf pd_0 rfl) rfl (by show 2 * 0 + _ ≤ _; exact Nat.le_of_eq rfl) (hb hby d5_1) (fun _ _ => ⟨rfl, e0, (by decide : 0 + 0 ≤ _), (by decide : 0 + 0 ≤ _)⟩)
  dsimp only [Pt.U, Pt.locs, Pt.cells, Pt.slots] at X8 l8 y8 z8 st8 hQ8
  subst l8 y8 z8
  obtain ⟨rfl, rfl, e8⟩ := hQ8
  try rw [List.append_nil] at X8
  refine Go.by' (fun t k => st8.trans k) ?_
  show Go p.tables e below Pf (T8.setTop (mkF m 4 #[.val (.ref ac), .val (.long jid), .second, .val .null, .val (.ref o1), .val (.ref o2), .val (.ref an), .val (.int f1), .val (.int f2), .val (.int f3), .val (.int f4), .val (.ref o3), .val (.ref o4)] []))
  refine Go.by' (fun t k => (XS.aloadN X8.here hx rfl (hb hby d5_4) rfl rfl (XS.lloadN X8.here hx rfl (hb hby d5_5) rfl k))) ?_
  show Go p.tables e below Pf (T8.setTop (mkF m 6 #[.val (.ref ac), .val (.long jid), .second, .val .null, .val (.ref o1), .val (.ref o2), .val (.ref an), .val (.int f1), .val (.int f2), .val (.int f3), .val (.int f4), .val (.ref o3), .val (.ref o4)] [(.long jid), (.ref ac)]))
  obtain ⟨T9, h9, X9, e9, W9, st9⟩ := putF X8 hx hZ hown (host := "") (Or.inl hw42) Via.refl e8 F0 EX (Or.inr ⟨hw43, rfl, hnm⟩) hw5 (ty := .long) (by decide) rfl rfl (g := (mkF m 6 #[.val (.ref ac), .val (.long jid), .second, .val .null, .val (.ref o1), .val (.ref o2), .val (.ref an), .val (.int f1), .val (.int f2), .val (.int f3), .val (.int f4), .val (.ref o3), .val (.ref o4)] [(.long jid), (.ref ac)])) rfl rfl (hb hby d5_6)
  refine Go.by' st9 ?_
  have Fw9 : Fld Z h9 ac "com/example/slatewipe/slatewipe/vendors/postgresql/Changes$Copy" "id" "J" (Value.long jid) := F0.same W9
  have N9 := Fr.snoc X9 N0 g_ac
  have O9 := O0.wr W9 g_ac
  have KC9 : Keep h0 h9 [ac] := KC0.wr W9 (Or.inl (List.mem_of_getElem? (i := 0) rfl))
  show Go p.tables e below Pf (T9.setTop (mkF m 9 #[.val (.ref ac), .val (.long jid), .second, .val .null, .val (.ref o1), .val (.ref o2), .val (.ref an), .val (.int f1), .val (.int f2), .val (.int f3), .val (.int f4), .val (.ref o3), .val (.ref o4)] []))
  refine Go.by' (fun t k => (XS.aloadN X9.here hx rfl (hb hby d5_9) rfl rfl (XS.aloadN X9.here hx rfl (hb hby d5_10) rfl rfl k))) ?_
  show Go p.tables e below Pf (T9.setTop (mkF m 11 #[.val (.ref ac), .val (.long jid), .second, .val .null, .val (.ref o1), .val (.ref o2), .val (.ref an), .val (.int f1), .val (.int f2), .val (.int f3), .val (.int f4), .val (.ref o3), .val (.ref o4)] [.null, (.ref ac)]))
  obtain ⟨T10, h10, X10, e10, W10, st10⟩ := putF X9 hx hZ hown (host := "") (Or.inl hw44) Via.refl e9 (F1.other W9 (Or.inr (slot_ne (Or.inr hw45) (Or.inr hw43) (by decide) (t := (.object "com/example/slatewipe/slatewipe/Table")) (t' := .long) (by decide) (by decide)))) (EX.wr W9) (Or.inr ⟨hw45, rfl, hnm⟩) hw5 (ty := (.object "com/example/slatewipe/slatewipe/Table")) (by decide) rfl rfl (g := (mkF m 11 #[.val (.ref ac), .val (.long jid), .second, .val .null, .val (.ref o1), .val (.ref o2), .val (.ref an), .val (.int f1), .val (.int f2), .val (.int f3), .val (.int f4), .val (.ref o3), .val (.ref o4)] [.null, (.ref ac)])) rfl rfl (hb hby d5_11)
  refine Go.by' st10 ?_
  have Fw10 : Fld Z h10 ac "com/example/slatewipe/slatewipe/vendors/postgresql/Changes$Copy" "table" "Lcom/example/slatewipe/slatewipe/Table;" Value.null := (F1.other W9 (Or.inr (slot_ne (Or.inr hw45) (Or.inr hw43) (by decide) (t := (.object "com/example/slatewipe/slatewipe/Table")) (t' := .long) (by decide) (by decide)))).same W10
  have N10 := Fr.snoc X10 N9 g_ac
  have O10 := O9.wr W10 g_ac
  have KC10 : Keep h0 h10 [ac] := KC9.wr W10 (Or.inl (List.mem_of_getElem? (i := 0) rfl))
  show Go p.tables e below Pf (T10.setTop (mkF m 14 #[.val (.ref ac), .val (.long jid), .second, .val .null, .val (.ref o1), .val (.ref o2), .val (.ref an), .val (.int f1), .val (.int f2), .val (.int f3), .val (.int f4), .val (.ref o3), .val (.ref o4)] []))
  refine Go.by' (fun t k => (XS.aloadN X10.here hx rfl (hb hby d5_14) rfl rfl (XS.aload X10.here hx rfl (hb hby d5_15) rfl rfl k))) ?_
  show Go p.tables e below Pf (T10.setTop (mkF m 17 #[.val (.ref ac), .val (.long jid), .second, .val .null, .val (.ref o1), .val (.ref o2), .val (.ref an), .val (.int f1), .val (.int f2), .val (.int f3), .val (.int f4), .val (.ref o3), .val (.ref o4)] [(.ref o1), (.ref ac)]))
  have c11 := ((EX.wr W9).wr W10)
  have c12 := ((F2.other W9 (Or.inr (slot_ne (Or.inr hw47) (Or.inr hw43) (by decide) (t := (.object "java/util/List")) (t' := .long) (by decide) (by decide)))).other W10 (Or.inr (slot_ne (Or.inr hw47) (Or.inr hw45) (by decide) (t := (.object "java/util/List")) (t' := (.object "com/example/slatewipe/slatewipe/Table")) (by decide) (by decide))))
  obtain ⟨T13, h13, X13, e13, W13, st13⟩ := putF X10 hx hZ hown (host := "") (Or.inl hw46) Via.refl e10 c12 c11 (Or.inr ⟨hw47, rfl, hnm⟩) hw5 (ty := (.object "java/util/List")) (by decide) rfl rfl (g := (mkF m 17 #[.val (.ref ac), .val (.long jid), .second, .val .null, .val (.ref o1), .val (.ref o2), .val (.ref an), .val (.int f1), .val (.int f2), .val (.int f3), .val (.int f4), .val (.ref o3), .val (.ref o4)] [(.ref o1), (.ref ac)])) rfl rfl (hb hby d5_17)
  refine Go.by' st13 ?_
  have Fw13 : Fld Z h13 ac "com/example/slatewipe/slatewipe/vendors/postgresql/Changes$Copy" "columns" "Ljava/util/List;" (Value.ref o1) := c12.same W13
  have N13 := Fr.snoc X13 N10 g_ac
  have O13 := O10.wr W13 g_ac
  have KC13 : Keep h0 h13 [ac] := KC10.wr W13 (Or.inl (List.mem_of_getElem? (i := 0) rfl))
  show Go p.tables e below Pf (T13.setTop (mkF m 20 #[.val (.ref ac), .val (.long jid), .second, .val .null, .val (.ref o1), .val (.ref o2), .val (.ref an), .val (.int f1), .val (.int f2), .val (.int f3), .val (.int f4), .val (.ref o3), .val (.ref o4)] []))
  refine Go.by' (fun t k => (XS.aloadN X13.here hx rfl (hb hby d5_20) rfl rfl (XS.aload X13.here hx rfl (hb hby d5_21) rfl rfl k))) ?_
  show Go p.tables e below Pf (T13.setTop (mkF m 23 #[.val (.ref ac), .val (.long jid), .second, .val .null, .val (.ref o1), .val (.ref o2), .val (.ref an), .val (.int f1), .val (.int f2), .val (.int f3), .val (.int f4), .val (.ref o3), .val (.ref o4)] [(.ref o2), (.ref ac)]))
  have c14 := (((F3.other W9 (Or.inr (slot_ne (Or.inr hw49) (Or.inr hw43) (by decide) (t := (.object "java/util/List")) (t' := .long) (by decide) (by decide)))).other W10 (Or.inr (slot_ne (Or.inr hw49) (Or.inr hw45) (by decide) (t := (.object "java/util/List")) (t' := (.object "com/example/slatewipe/slatewipe/Table")) (by decide) (by decide)))).other W13 (Or.inr (slot_ne (Or.inr hw49) (Or.inr hw47) (by decide) (t := (.object "java/util/List")) (t' := (.object "java/util/List")) (by decide) (by decide))))
  obtain ⟨T15, h15, X15, e15, W15, st15⟩ := putF X13 hx hZ hown (host := "") (Or.inl hw48) Via.refl e13 c14 (c11.wr W13) (Or.inr ⟨hw49, rfl, hnm⟩) hw5 (ty := (.object "java/util/List")) (by decide) rfl rfl (g := (mkF m 23 #[.val (.ref ac), .val (.long jid), .second, .val .null, .val (.ref o1), .val (.ref o2), .val (.ref an), .val (.int f1), .val (.int f2), .val (.int f3), .val (.int f4), .val (.ref o3), .val (.ref o4)] [(.ref o2), (.ref ac)])) rfl rfl (hb hby d5_23)
  refine Go.by' st15 ?_
  have Fw15 : Fld Z h15 ac "com/example/slatewipe/slatewipe/vendors/postgresql/Changes$Copy" "key" "Ljava/util/List;" (Value.ref o2) := c14.same W15
  have N15 := Fr.snoc X15 N13 g_ac
  have O15 := O13.wr W15 g_ac
  have KC15 : Keep h0 h15 [ac] := KC13.wr W15 (Or.inl (List.mem_of_getElem? (i := 0) rfl))
  show Go p.tables e below Pf (T15.setTop (mkF m 26 #[.val (.ref ac), .val (.long jid), .second, .val .null, .val (.ref o1), .val (.ref o2), .val (.ref an), .val (.int f1), .val (.int f2), .val (.int f3), .val (.int f4), .val (.ref o3), .val (.ref o4)] []))
  refine Go.by' (fun t k => (XS.aloadN X15.here hx rfl (hb hby d5_26) rfl rfl (XS.aload X15.here hx rfl (hb hby d5_27) rfl rfl k))) ?_
  show Go p.tables e below Pf (T15.setTop (mkF m 29 #[.val (.ref ac), .val (.long jid), .second, .val .null, .val (.ref o1), .val (.ref o2), .val (.ref an), .val (.int f1), .val (.int f2), .val (.int f3), .val (.int f4), .val (.ref o3), .val (.ref o4)] [(.ref an), (.ref ac)]))
  have c16 := ((c11.wr W13).wr W15)
  have c17 := ((((F4.other W9 (Or.inr (slot_ne (Or.inr hw51) (Or.inr hw43) (by decide) (t := (.object "com/example/slatewipe/slatewipe/vendors/postgresql/Changes$Noted")) (t' := .long) (by decide) (by decide)))).other W10 (Or.inr (slot_ne (Or.inr hw51) (Or.inr hw45) (by decide) (t := (.object "com/example/slatewipe/slatewipe/vendors/postgresql/Changes$Noted")) (t' := (.object "com/example/slatewipe/slatewipe/Table")) (by decide) (by decide)))).other W13 (Or.inr (slot_ne (Or.inr hw51) (Or.inr hw47) (by decide) (t := (.object "com/example/slatewipe/slatewipe/vendors/postgresql/Changes$Noted")) (t' := (.object "java/util/List")) (by decide) (by decide)))).other W15 (Or.inr (slot_ne (Or.inr hw51) (Or.inr hw49) (by decide) (t := (.object "com/example/slatewipe/slatewipe/vendors/postgresql/Changes$Noted")) (t' := (.object "java/util/List")) (by decide) (by decide))))
  obtain ⟨T18, h18, X18, e18, W18, st18⟩ := putF X15 hx hZ hown (host := "") (Or.inl hw50) Via.refl e15 c17 c16 (Or.inr ⟨hw51, rfl, hnm⟩) hw5 (ty := (.object "com/example/slatewipe/slatewipe/vendors/postgresql/Changes$Noted")) (by decide) rfl rfl (g := (mkF m 29 #[.val (.ref ac), .val (.long jid), .second, .val .null, .val (.ref o1), .val (.ref o2), .val (.ref an), .val (.int f1), .val (.int f2), .val (.int f3), .val (.int f4), .val (.ref o3), .val (.ref o4)] [(.ref an), (.ref ac)])) rfl rfl (hb hby d5_29)
  refine Go.by' st18 ?_
  have Fw18 : Fld Z h18 ac "com/example/slatewipe/slatewipe/vendors/postgresql/Changes$Copy" "noted" "Lcom/example/slatewipe/slatewipe/vendors/postgresql/Changes$Noted;" (Value.ref an) := c17.same W18
  have N18 := Fr.snoc X18 N15 g_ac
  have O18 := O15.wr W18 g_ac
  have KC18 : Keep h0 h18 [ac] := KC15.wr W18 (Or.inl (List.mem_of_getElem? (i := 0) rfl))
  show Go p.tables e below Pf (T18.setTop (mkF m 32 #[.val (.ref ac), .val (.long jid), .second, .val .null, .val (.ref o1), .val (.ref o2), .val (.ref an), .val (.int f1), .val (.int f2), .val (.int f3), .val (.int f4), .val (.ref o3), .val (.ref o4)] []))
  refine Go.by' (fun t k => (XS.aloadN X18.here hx rfl (hb hby d5_32) rfl rfl (XS.iload X18.here hx rfl (hb hby d5_33) rfl k))) ?_
  show Go p.tables e below Pf (T18.setTop (mkF m 35 #[.val (.ref ac), .val (.long jid), .second, .val .null, .val (.ref o1), .val (.ref o2), .val (.ref an), .val (.int f1), .val (.int f2), .val (.int f3), .val (.int f4), .val (.ref o3), .val (.ref o4)] [(.int f1), (.ref ac)]))
  have c19 := (((((F5.other W9 (Or.inr (slot_ne (Or.inr hw53) (Or.inr hw43) (by decide) (t := .boolean) (t' := .long) (by decide) (by decide)))).other W10 (Or.inr (slot_ne (Or.inr hw53) (Or.inr hw45) (by decide) (t := .boolean) (t' := (.object "com/example/slatewipe/slatewipe/Table")) (by decide) (by decide)))).other W13 (Or.inr (slot_ne (Or.inr hw53) (Or.inr hw47) (by decide) (t := .boolean) (t' := (.object "java/util/List")) (by decide) (by decide)))).other W15 (Or.inr (slot_ne (Or.inr hw53) (Or.inr hw49) (by decide) (t := .boolean) (t' := (.object "java/util/List")) (by decide) (by decide)))).other W18 (Or.inr (slot_ne (Or.inr hw53) (Or.inr hw51) (by decide) (t := .boolean) (t' := (.object "com/example/slatewipe/slatewipe/vendors/postgresql/Changes$Noted")) (by decide) (by decide))))
  obtain ⟨T20, h20, X20, e20, W20, st20⟩ := putFN X18 hx hZ hown hw52 Via.refl e18 c19 (c16.wr W18) (Or.inr ⟨hw53, rfl, hnm⟩) hw5 (ty := .boolean) (v' := (.int f1)) (by decide) (own_nb hb1) (own_fb hb1) (g := (mkF m 35 #[.val (.ref ac), .val (.long jid), .second, .val .null, .val (.ref o1), .val (.ref o2), .val (.ref an), .val (.int f1), .val (.int f2), .val (.int f3), .val (.int f4), .val (.ref o3), .val (.ref o4)] [(.int f1), (.ref ac)])) rfl rfl (hb hby d5_35)
  refine Go.by' st20 ?_
  have Fw20 : Fld Z h20 ac "com/example/slatewipe/slatewipe/vendors/postgresql/Changes$Copy" "added" "Z" (Value.int f1) := c19.same W20
  have N20 := Fr.snoc X20 N18 g_ac
  have O20 := O18.wr W20 g_ac
  have KC20 : Keep h0 h20 [ac] := KC18.wr W20 (Or.inl (List.mem_of_getElem? (i := 0) rfl))
  show Go p.tables e below Pf (T20.setTop (mkF m 38 #[.val (.ref ac), .val (.long jid), .second, .val .null, .val (.ref o1), .val (.ref o2), .val (.ref an), .val (.int f1), .val (.int f2), .val (.int f3), .val (.int f4), .val (.ref o3), .val (.ref o4)] []))
  refine Go.by' (fun t k => (XS.aloadN X20.here hx rfl (hb hby d5_38) rfl rfl (XS.iload X20.here hx rfl (hb hby d5_39) rfl k))) ?_
  show Go p.tables e below Pf (T20.setTop (mkF m 41 #[.val (.ref ac), .val (.long jid), .second, .val .null, .val (.ref o1), .val (.ref o2), .val (.ref an), .val (.int f1), .val (.int f2), .val (.int f3), .val (.int f4), .val (.ref o3), .val (.ref o4)] [(.int f2), (.ref ac)]))
  have c21 := ((c16.wr W18).wr W20)
  have c22 := ((((((F6.other W9 (Or.inr (slot_ne (Or.inr hw55) (Or.inr hw43) (by decide) (t := .boolean) (t' := .long) (by decide) (by decide)))).other W10 (Or.inr (slot_ne (Or.inr hw55) (Or.inr hw45) (by decide) (t := .boolean) (t' := (.object "com/example/slatewipe/slatewipe/Table")) (by decide) (by decide)))).other W13 (Or.inr (slot_ne (Or.inr hw55) (Or.inr hw47) (by decide) (t := .boolean) (t' := (.object "java/util/List")) (by decide) (by decide)))).other W15 (Or.inr (slot_ne (Or.inr hw55) (Or.inr hw49) (by decide) (t := .boolean) (t' := (.object "java/util/List")) (by decide) (by decide)))).other W18 (Or.inr (slot_ne (Or.inr hw55) (Or.inr hw51) (by decide) (t := .boolean) (t' := (.object "com/example/slatewipe/slatewipe/vendors/postgresql/Changes$Noted")) (by decide) (by decide)))).other W20 (Or.inr (slot_ne (Or.inr hw55) (Or.inr hw53) (by decide) (t := .boolean) (t' := .boolean) (by decide) (by decide))))
  obtain ⟨T23, h23, X23, e23, W23, st23⟩ := putFN X20 hx hZ hown hw54 Via.refl e20 c22 c21 (Or.inr ⟨hw55, rfl, hnm⟩) hw5 (ty := .boolean) (v' := (.int f2)) (by decide) (own_nb hb2) (own_fb hb2) (g := (mkF m 41 #[.val (.ref ac), .val (.long jid), .second, .val .null, .val (.ref o1), .val (.ref o2), .val (.ref an), .val (.int f1), .val (.int f2), .val (.int f3), .val (.int f4), .val (.ref o3), .val (.ref o4)] [(.int f2), (.ref ac)])) rfl rfl (hb hby d5_41)
  refine Go.by' st23 ?_
  have Fw23 : Fld Z h23 ac "com/example/slatewipe/slatewipe/vendors/postgresql/Changes$Copy" "recorded" "Z" (Value.int f2) := c22.same W23
  have N23 := Fr.snoc X23 N20 g_ac
  have O23 := O20.wr W23 g_ac
  have KC23 : Keep h0 h23 [ac] := KC20.wr W23 (Or.inl (List.mem_of_getElem? (i := 0) rfl))
  show Go p.tables e below Pf (T23.setTop (mkF m 44 #[.val (.ref ac), .val (.long jid), .second, .val .null, .val (.ref o1), .val (.ref o2), .val (.ref an), .val (.int f1), .val (.int f2), .val (.int f3), .val (.int f4), .val (.ref o3), .val (.ref o4)] []))
  refine Go.by' (fun t k => (XS.aloadN X23.here hx rfl (hb hby d5_44) rfl rfl (XS.iload X23.here hx rfl (hb hby d5_45) rfl k))) ?_
  show Go p.tables e below Pf (T23.setTop (mkF m 47 #[.val (.ref ac), .val (.long jid), .second, .val .null, .val (.ref o1), .val (.ref o2), .val (.ref an), .val (.int f1), .val (.int f2), .val (.int f3), .val (.int f4), .val (.ref o3), .val (.ref o4)] [(.int f3), (.ref ac)]))
  have c24 := (((((((F7.other W9 (Or.inr (slot_ne (Or.inr hw57) (Or.inr hw43) (by decide) (t := .boolean) (t' := .long) (by decide) (by decide)))).other W10 (Or.inr (slot_ne (Or.inr hw57) (Or.inr hw45) (by decide) (t := .boolean) (t' := (.object "com/example/slatewipe/slatewipe/Table")) (by decide) (by decide)))).other W13 (Or.inr (slot_ne (Or.inr hw57) (Or.inr hw47) (by decide) (t := .boolean) (t' := (.object "java/util/List")) (by decide) (by decide)))).other W15 (Or.inr (slot_ne (Or.inr hw57) (Or.inr hw49) (by decide) (t := .boolean) (t' := (.object "java/util/List")) (by decide) (by decide)))).other W18 (Or.inr (slot_ne (Or.inr hw57) (Or.inr hw51) (by decide) (t := .boolean) (t' := (.object "com/example/slatewipe/slatewipe/vendors/postgresql/Changes$Noted")) (by decide) (by decide)))).other W20 (Or.inr (slot_ne (Or.inr hw57) (Or.inr hw53) (by decide) (t := .boolean) (t' := .boolean) (by decide) (by decide)))).other W23 (Or.inr (slot_ne (Or.inr hw57) (Or.inr hw55) (by decide) (t := .boolean) (t' := .boolean) (by decide) (by decide))))
  obtain ⟨T25, h25, X25, e25, W25, st25⟩ := putFN X23 hx hZ hown hw56 Via.refl e23 c24 (c21.wr W23) (Or.inr ⟨hw57, rfl, hnm⟩) hw5 (ty := .boolean) (v' := (.int f3)) (by decide) (own_nb hb3) (own_fb hb3) (g := (mkF m 47 #[.val (.ref ac), .val (.long jid), .second, .val .null, .val (.ref o1), .val (.ref o2), .val (.ref an), .val (.int f1), .val (.int f2), .val (.int f3), .val (.int f4), .val (.ref o3), .val (.ref o4)] [(.int f3), (.ref ac)])) rfl rfl (hb hby d5_47)
  refine Go.by' st25 ?_
  have Fw25 : Fld Z h25 ac "com/example/slatewipe/slatewipe/vendors/postgresql/Changes$Copy" "referenced" "Z" (Value.int f3) := c24.same W25
  have N25 := Fr.snoc X25 N23 g_ac
  have O25 := O23.wr W25 g_ac
  have KC25 : Keep h0 h25 [ac] := KC23.wr W25 (Or.inl (List.mem_of_getElem? (i := 0) rfl))
  show Go p.tables e below Pf (T25.setTop (mkF m 50 #[.val (.ref ac), .val (.long jid), .second, .val .null, .val (.ref o1), .val (.ref o2), .val (.ref an), .val (.int f1), .val (.int f2), .val (.int f3), .val (.int f4), .val (.ref o3), .val (.ref o4)] []))
  refine Go.by' (fun t k => (XS.aloadN X25.here hx rfl (hb hby d5_50) rfl rfl (XS.iload X25.here hx rfl (hb hby d5_51) rfl k))) ?_
  show Go p.tables e below Pf (T25.setTop (mkF m 53 #[.val (.ref ac), .val (.long jid), .second, .val .null, .val (.ref o1), .val (.ref o2), .val (.ref an), .val (.int f1), .val (.int f2), .val (.int f3), .val (.int f4), .val (.ref o3), .val (.ref o4)] [(.int f4), (.ref ac)]))
  have c26 := ((c21.wr W23).wr W25)
  have c27 := ((((((((F8.other W9 (Or.inr (slot_ne (Or.inr hw59) (Or.inr hw43) (by decide) (t := .boolean) (t' := .long) (by decide) (by decide)))).other W10 (Or.inr (slot_ne (Or.inr hw59) (Or.inr hw45) (by decide) (t := .boolean) (t' := (.object "com/example/slatewipe/slatewipe/Table")) (by decide) (by decide)))).other W13 (Or.inr (slot_ne (Or.inr hw59) (Or.inr hw47) (by decide) (t := .boolean) (t' := (.object "java/util/List")) (by decide) (by decide)))).other W15 (Or.inr (slot_ne (Or.inr hw59) (Or.inr hw49) (by decide) (t := .boolean) (t' := (.object "java/util/List")) (by decide) (by decide)))).other W18 (Or.inr (slot_ne (Or.inr hw59) (Or.inr hw51) (by decide) (t := .boolean) (t' := (.object "com/example/slatewipe/slatewipe/vendors/postgresql/Changes$Noted")) (by decide) (by decide)))).other W20 (Or.inr (slot_ne (Or.inr hw59) (Or.inr hw53) (by decide) (t := .boolean) (t' := .boolean) (by decide) (by decide)))).other W23 (Or.inr (slot_ne (Or.inr hw59) (Or.inr hw55) (by decide) (t := .boolean) (t' := .boolean) (by decide) (by decide)))).other W25 (Or.inr (slot_ne (Or.inr hw59) (Or.inr hw57) (by decide) (t := .boolean) (t' := .boolean) (by decide) (by decide))))
  obtain ⟨T28, h28, X28, e28, W28, st28⟩ := putFN X25 hx hZ hown hw58 Via.refl e25 c27 c26 (Or.inr ⟨hw59, rfl, hnm⟩) hw5 (ty := .boolean) (v' := (.int f4)) (by decide) (own_nb hb4) (own_fb hb4) (g := (mkF m 53 #[.val (.ref ac), .val (.long jid), .second, .val .null, .val (.ref o1), .val (.ref o2), .val (.ref an), .val (.int f1), .val (.int f2), .val (.int f3), .val (.int f4), .val (.ref o3), .val (.ref o4)] [(.int f4), (.ref ac)])) rfl rfl (hb hby d5_53)
  refine Go.by' st28 ?_
  have Fw28 : Fld Z h28 ac "com/example/slatewipe/slatewipe/vendors/postgresql/Changes$Copy" "rules" "Z" (Value.int f4) := c27.same W28
  have N28 := Fr.snoc X28 N25 g_ac
  have O28 := O25.wr W28 g_ac
  have KC28 : Keep h0 h28 [ac] := KC25.wr W28 (Or.inl (List.mem_of_getElem? (i := 0) rfl))
  show Go p.tables e below Pf (T28.setTop (mkF m 56 #[.val (.ref ac), .val (.long jid), .second, .val .null, .val (.ref o1), .val (.ref o2), .val (.ref an), .val (.int f1), .val (.int f2), .val (.int f3), .val (.int f4), .val (.ref o3), .val (.ref o4)] []))
  refine Go.by' (fun t k => (XS.aloadN X28.here hx rfl (hb hby d5_56) rfl rfl (XS.aload X28.here hx rfl (hb hby d5_57) rfl rfl k))) ?_
  show Go p.tables e below Pf (T28.setTop (mkF m 59 #[.val (.ref ac), .val (.long jid), .second, .val .null, .val (.ref o1), .val (.ref o2), .val (.ref an), .val (.int f1), .val (.int f2), .val (.int f3), .val (.int f4), .val (.ref o3), .val (.ref o4)] [(.ref o3), (.ref ac)]))
  have c29 := (((((((((F9.other W9 (Or.inr (slot_ne (Or.inr hw61) (Or.inr hw43) (by decide) (t := (.object "java/util/List")) (t' := .long) (by decide) (by decide)))).other W10 (Or.inr (slot_ne (Or.inr hw61) (Or.inr hw45) (by decide) (t := (.object "java/util/List")) (t' := (.object "com/example/slatewipe/slatewipe/Table")) (by decide) (by decide)))).other W13 (Or.inr (slot_ne (Or.inr hw61) (Or.inr hw47) (by decide) (t := (.object "java/util/List")) (t' := (.object "java/util/List")) (by decide) (by decide)))).other W15 (Or.inr (slot_ne (Or.inr hw61) (Or.inr hw49) (by decide) (t := (.object "java/util/List")) (t' := (.object "java/util/List")) (by decide) (by decide)))).other W18 (Or.inr (slot_ne (Or.inr hw61) (Or.inr hw51) (by decide) (t := (.object "java/util/List")) (t' := (.object "com/example/slatewipe/slatewipe/vendors/postgresql/Changes$Noted")) (by decide) (by decide)))).other W20 (Or.inr (slot_ne (Or.inr hw61) (Or.inr hw53) (by decide) (t := (.object "java/util/List")) (t' := .boolean) (by decide) (by decide)))).other W23 (Or.inr (slot_ne (Or.inr hw61) (Or.inr hw55) (by decide) (t := (.object "java/util/List")) (t' := .boolean) (by decide) (by decide)))).other W25 (Or.inr (slot_ne (Or.inr hw61) (Or.inr hw57) (by decide) (t := (.object "java/util/List")) (t' := .boolean) (by decide) (by decide)))).other W28 (Or.inr (slot_ne (Or.inr hw61) (Or.inr hw59) (by decide) (t := (.object "java/util/List")) (t' := .boolean) (by decide) (by decide))))
  obtain ⟨T30, h30, X30, e30, W30, st30⟩ := putF X28 hx hZ hown (host := "") (Or.inl hw60) Via.refl e28 c29 (c26.wr W28) (Or.inr ⟨hw61, rfl, hnm⟩) hw5 (ty := (.object "java/util/List")) (by decide) rfl rfl (g := (mkF m 59 #[.val (.ref ac), .val (.long jid), .second, .val .null, .val (.ref o1), .val (.ref o2), .val (.ref an), .val (.int f1), .val (.int f2), .val (.int f3), .val (.int f4), .val (.ref o3), .val (.ref o4)] [(.ref o3), (.ref ac)])) rfl rfl (hb hby d5_59)
  refine Go.by' st30 ?_
  have Fw30 : Fld Z h30 ac "com/example/slatewipe/slatewipe/vendors/postgresql/Changes$Copy" "switchOff" "Ljava/util/List;" (Value.ref o3) := c29.same W30
  have N30 := Fr.snoc X30 N28 g_ac
  have O30 := O28.wr W30 g_ac
  have KC30 : Keep h0 h30 [ac] := KC28.wr W30 (Or.inl (List.mem_of_getElem? (i := 0) rfl))
  show Go p.tables e below Pf (T30.setTop (mkF m 62 #[.val (.ref ac), .val (.long jid), .second, .val .null, .val (.ref o1), .val (.ref o2), .val (.ref an), .val (.int f1), .val (.int f2), .val (.int f3), .val (.int f4), .val (.ref o3), .val (.ref o4)] []))
  refine Go.by' (fun t k => (XS.aloadN X30.here hx rfl (hb hby d5_62) rfl rfl (XS.aload X30.here hx rfl (hb hby d5_63) rfl rfl k))) ?_
  show Go p.tables e below Pf (T30.setTop (mkF m 65 #[.val (.ref ac), .val (.long jid), .second, .val .null, .val (.ref o1), .val (.ref o2), .val (.ref an), .val (.int f1), .val (.int f2), .val (.int f3), .val (.int f4), .val (.ref o3), .val (.ref o4)] [(.ref o4), (.ref ac)]))
  have c31 := ((c26.wr W28).wr W30)
  have c32 := ((((((((((F10.other W9 (Or.inr (slot_ne (Or.inr hw63) (Or.inr hw43) (by decide) (t := (.object "java/util/List")) (t' := .long) (by decide) (by decide)))).other W10 (Or.inr (slot_ne (Or.inr hw63) (Or.inr hw45) (by decide) (t := (.object "java/util/List")) (t' := (.object "com/example/slatewipe/slatewipe/Table")) (by decide) (by decide)))).other W13 (Or.inr (slot_ne (Or.inr hw63) (Or.inr hw47) (by decide) (t := (.object "java/util/List")) (t' := (.object "java/util/List")) (by decide) (by decide)))).other W15 (Or.inr (slot_ne (Or.inr hw63) (Or.inr hw49) (by decide) (t := (.object "java/util/List")) (t' := (.object "java/util/List")) (by decide) (by decide)))).other W18 (Or.inr (slot_ne (Or.inr hw63) (Or.inr hw51) (by decide) (t := (.object "java/util/List")) (t' := (.object "com/example/slatewipe/slatewipe/vendors/postgresql/Changes$Noted")) (by decide) (by decide)))).other W20 (Or.inr (slot_ne (Or.inr hw63) (Or.inr hw53) (by decide) (t := (.object "java/util/List")) (t' := .boolean) (by decide) (by decide)))).other W23 (Or.inr (slot_ne (Or.inr hw63) (Or.inr hw55) (by decide) (t := (.object "java/util/List")) (t' := .boolean) (by decide) (by decide)))).other W25 (Or.inr (slot_ne (Or.inr hw63) (Or.inr hw57) (by decide) (t := (.object "java/util/List")) (t' := .boolean) (by decide) (by decide)))).other W28 (Or.inr (slot_ne (Or.inr hw63) (Or.inr hw59) (by decide) (t := (.object "java/util/List")) (t' := .boolean) (by decide) (by decide)))).other W30 (Or.inr (slot_ne (Or.inr hw63) (Or.inr hw61) (by decide) (t := (.object "java/util/List")) (t' := (.object "java/util/List")) (by decide) (by decide))))
  obtain ⟨T33, h33, X33, e33, W33, st33⟩ := putF X30 hx hZ hown (host := "") (Or.inl hw62) Via.refl e30 c32 c31 (Or.inr ⟨hw63, rfl, hnm⟩) hw5 (ty := (.object "java/util/List")) (by decide) rfl rfl (g := (mkF m 65 #[.val (.ref ac), .val (.long jid), .second, .val .null, .val (.ref o1), .val (.ref o2), .val (.ref an), .val (.int f1), .val (.int f2), .val (.int f3), .val (.int f4), .val (.ref o3), .val (.ref o4)] [(.ref o4), (.ref ac)])) rfl rfl (hb hby d5_65)
  refine Go.by' st33 ?_
  have Fw33 : Fld Z h33 ac "com/example/slatewipe/slatewipe/vendors/postgresql/Changes$Copy" "backOn" "Ljava/util/List;" (Value.ref o4) := c32.same W33
  have N33 := Fr.snoc X33 N30 g_ac
  have O33 := O30.wr W33 g_ac
  have KC33 : Keep h0 h33 [ac] := KC30.wr W33 (Or.inl (List.mem_of_getElem? (i := 0) rfl))
  show Go p.tables e below Pf (T33.setTop (mkF m 68 #[.val (.ref ac), .val (.long jid), .second, .val .null, .val (.ref o1), .val (.ref o2), .val (.ref an), .val (.int f1), .val (.int f2), .val (.int f3), .val (.int f4), .val (.ref o3), .val (.ref o4)] []))
  have c34 := ((((((Fw18.other W20 (Or.inr (slot_ne (Or.inr hw51) (Or.inr hw53) (by decide) (t := (.object "com/example/slatewipe/slatewipe/vendors/postgresql/Changes$Noted")) (t' := .boolean) (by decide) (by decide)))).other W23 (Or.inr (slot_ne (Or.inr hw51) (Or.inr hw55) (by decide) (t := (.object "com/example/slatewipe/slatewipe/vendors/postgresql/Changes$Noted")) (t' := .boolean) (by decide) (by decide)))).other W25 (Or.inr (slot_ne (Or.inr hw51) (Or.inr hw57) (by decide) (t := (.object "com/example/slatewipe/slatewipe/vendors/postgresql/Changes$Noted")) (t' := .boolean) (by decide) (by decide)))).other W28 (Or.inr (slot_ne (Or.inr hw51) (Or.inr hw59) (by decide) (t := (.object "com/example/slatewipe/slatewipe/vendors/postgresql/Changes$Noted")) (t' := .boolean) (by decide) (by decide)))).other W30 (Or.inr (slot_ne (Or.inr hw51) (Or.inr hw61) (by decide) (t := (.object "com/example/slatewipe/slatewipe/vendors/postgresql/Changes$Noted")) (t' := (.object "java/util/List")) (by decide) (by decide)))).other W33 (Or.inr (slot_ne (Or.inr hw51) (Or.inr hw63) (by decide) (t := (.object "com/example/slatewipe/slatewipe/vendors/postgresql/Changes$Noted")) (t' := (.object "java/util/List")) (by decide) (by decide))))
  have c35 := (((Fw25.other W28 (Or.inr (slot_ne (Or.inr hw57) (Or.inr hw59) (by decide) (t := .boolean) (t' := .boolean) (by decide) (by decide)))).other W30 (Or.inr (slot_ne (Or.inr hw57) (Or.inr hw61) (by decide) (t := .boolean) (t' := (.object "java/util/List")) (by decide) (by decide)))).other W33 (Or.inr (slot_ne (Or.inr hw57) (Or.inr hw63) (by decide) (t := .boolean) (t' := (.object "java/util/List")) (by decide) (by decide))))
  have c36 := ((Fw28.other W30 (Or.inr (slot_ne (Or.inr hw59) (Or.inr hw61) (by decide) (t := .boolean) (t' := (.object "java/util/List")) (by decide) (by decide)))).other W33 (Or.inr (slot_ne (Or.inr hw59) (Or.inr hw63) (by decide) (t := .boolean) (t' := (.object "java/util/List")) (by decide) (by decide))))
  rw [hPf]
  exact Go.retV' X33 hx hret hlk (hb hby d5_68) (by decide) (by decide) ⟨rfl, N33, (by rw [e33]; exact KC33), (by rw [e33]; exact (c31.wr W33)), (by rw [e33]; exact c34), (by rw [e33]; exact c35), (by rw [e33]; exact c36)⟩
theorem d7_0 : decode prog_61_method_2_code 0 = .ok (.aload_n 0, 1) := by decide +kernel
theorem d7_1 : decode prog_61_method_2_code 1 = .ok (.getfield 38, 3) := by decide +kernel
theorem d7_4 : decode prog_61_method_2_code 4 = .ok (.ifCond .ne 24, 3) := by decide +kernel
theorem d7_7 : decode prog_61_method_2_code 7 = .ok (.aload_n 0, 1) := by decide +kernel
theorem d7_8 : decode prog_61_method_2_code 8 = .ok (.getfield 24, 3) := by decide +kernel
theorem d7_11 : decode prog_61_method_2_code 11 = .ok (.getstatic 47, 3) := by decide +kernel
theorem d7_14 : decode prog_61_method_2_code 14 = .ok (.if_acmp .eq 10, 3) := by decide +kernel
theorem d7_24 : decode prog_61_method_2_code 24 = .ok (.iconst 1, 1) := by decide +kernel
theorem d7_25 : decode prog_61_method_2_code 25 = .ok (.goto 4, 3) := by decide +kernel
theorem d7_17 : decode prog_61_method_2_code 17 = .ok (.aload_n 0, 1) := by decide +kernel
theorem d7_18 : decode prog_61_method_2_code 18 = .ok (.getfield 35, 3) := by decide +kernel
theorem d7_21 : decode prog_61_method_2_code 21 = .ok (.ifCond .ne 7, 3) := by decide +kernel
theorem d7_28 : decode prog_61_method_2_code 28 = .ok (.iconst 0, 1) := by decide +kernel
theorem d7_29 : decode prog_61_method_2_code 29 = .ok (.ireturn, 1) := by decide +kernel
theorem pn_7 : plainName "com/example/slatewipe/slatewipe/vendors/postgresql/Changes$Copy" = true := by first | (simp [plainName, overriddenIn]; done) | decide +kernel
set_option maxHeartbeats 4000000 in
theorem ef_rmRI (m : MethodId) {ac : Addr} : entryFrame m #[(.ref ac)] 1 = mkF m 0 #[.val (.ref ac)] [] := by first | (simp [entryFrame, mkF, argsToLocals, Value.category]; done) | rfl
def QrmRI (Z : State) (wN : Addr) (wR : Addr) (wW : Addr) (wD : Addr) (ac : Addr) (an : Addr) (f3 : Int32) (f4 : Int32) (h0 : Heap) (n0 : Nat) (v : Option Value) (h : Heap) (L : List Loc) : Prop := ∃ (r : Int32), (v = some (.int r)) ∧ (L = []) ∧ (h = h0) ∧ ((f4 = (0 : Int32) ∧ (Value.ref an) = (Value.ref wR) ∧ r = (1 : Int32)) ∨ (f4 = (0 : Int32) ∧ ¬ ((Value.ref an) = (Value.ref wR)) ∧ f3 = (0 : Int32) ∧ r = (1 : Int32)) ∨ (f4 = (0 : Int32) ∧ ¬ ((Value.ref an) = (Value.ref wR)) ∧ ¬ (f3 = (0 : Int32)) ∧ r = (0 : Int32)) ∨ (¬ (f4 = (0 : Int32)) ∧ r = (0 : Int32)))
set_option maxRecDepth 65536 in
set_option maxHeartbeats 40000000 in
theorem rmRI (l : Launch) (Z : State) (a0 : Array Value) (hw : ∀ d ∈ tables_1, d.before a0 Z = true) (ws : List Jvm.Cond) (wN : Addr) (wR : Addr) (wW : Addr) (wD : Addr) (G : Gh Z wN wR wW wD) (ac : Addr) (an : Addr) (f3 : Int32) (f4 : Int32) (h0 : Heap) (n0 : Nat) (O0 : Old Z n0 h0) (FN : Fld Z h0 ac "com/example/slatewipe/slatewipe/vendors/postgresql/Changes$Copy" "noted" "Lcom/example/slatewipe/slatewipe/vendors/postgresql/Changes$Noted;" (.ref an)) (FR : Fld Z h0 ac "com/example/slatewipe/slatewipe/vendors/postgresql/Changes$Copy" "referenced" "Z" (.int f3)) (FU : Fld Z h0 ac "com/example/slatewipe/slatewipe/vendors/postgresql/Changes$Copy" "rules" "Z" (.int f4)) :
    MetFree l (⟨"com/example/slatewipe/slatewipe/vendors/postgresql/Changes$Copy", "restorableInPlace", "()Z"⟩ : MethodName) (head1 (Jvm.Cond.code (⟨"com/example/slatewipe/slatewipe/vendors/postgresql/Changes$Copy", "restorableInPlace", "()Z"⟩ : MethodName) prog_61_method_2_code 1 (some .boolean) :: ws) ({ frames := 0, cells := 0, slots := 0, locals := 0 } : Room)) (fun aa' UU' => aa' = #[(.ref ac)] ∧ Z.Warmed39 UU'.vm ∧ UU'.heap = h0) (fun _ _ _ _ _ => True) (fun _ UU' oo' VV' => ∃ v' L', oo' = .returned v' ∧ QrmRI Z wN wR wW wD ac an f3 f4 h0 n0 v' VV'.heap L' ∧ FrameEnd UU' oo' VV' L' ({ frames := 0, cells := 0, slots := 0, locals := 0 } : Room).cells ({ frames := 0, cells := 0, slots := 0, locals := 0 } : Room).slots) := by
  refine MetFree.of_bodySF (plainFor_of_name pn_7) hisR ?_
  intro p e s m args below meth c s₁ Bd hml0 hP hK
  obtain ⟨rfl, hZ, hh⟩ := hP
  have hx := Bd.exec
  have hby := Bd.bytes
  have hlk := Bd.notSynchronized
  have hml : c.maxLocals = 1 := hml0
  have hown : s.vm.findClass "com/example/slatewipe/slatewipe/vendors/postgresql/Changes$Copy" = some m.cls := findClass_of_methodNamed Bd.named
  have hnm := (name_of_methodNamed Bd.named Bd.method).1
  have hret := Bd.returns
  have X0 : Stand p l e ({ frames := 0, cells := 0, slots := 0, locals := 0 } : Room) s m #[(.ref ac)] below meth c s₁ [] 0 0 := Stand.of_body Bd
  have e0 : s₁.heap = h0 := by rw [← hh, Bd.state]; rfl
  have N0 := Fr.nil n0
  refine Go.body ?_
  obtain ⟨Pf, hPf⟩ : ∃ P, P = Fin' s below ({ frames := 0, cells := 0, slots := 0, locals := 0 } : Room).cells ({ frames := 0, cells := 0, slots := 0, locals := 0 } : Room).slots (QrmRI Z wN wR wW wD ac an f3 f4 h0 n0) := ⟨_, rfl⟩
  rw [← hPf]
  refine Go.cast (ef_rmRI m) ?_
  have hw50 := (hw _ (List.mem_of_getElem? (i := 50) rfl))
  have hw56 := (hw _ (List.mem_of_getElem? (i := 56) rfl))
  have hw58 := (hw _ (List.mem_of_getElem? (i := 58) rfl))
  have hw69 := (hw _ (List.mem_of_getElem? (i := 69) rfl))
  show Go p.tables e below Pf (s₁.setTop (mkF m 0 #[.val (.ref ac)] []))
  refine Go.by' (fun t k => (XS.aloadN X0.here hx rfl (hb hby d7_0) rfl rfl k)) ?_
  show Go p.tables e below Pf (s₁.setTop (mkF m 1 #[.val (.ref ac)] [(.ref ac)]))
  obtain ⟨T37, X37, e37, st37⟩ := getF X0 hx hZ hown (host := "") (Or.inl hw58) Via.refl e0 FU (g := (mkF m 1 #[.val (.ref ac)] [(.ref ac)])) rfl rfl (hb hby d7_1)
  refine Go.by' st37 ?_
  show Go p.tables e below Pf (T37.setTop (mkF m 4 #[.val (.ref ac)] [(.int f4)]))
  have jn44 : ∀ (T' : State) (w44_0 : Int32), Like X37 T' → T'.heap = h0 → ((f4 = (0 : Int32) ∧ (Value.ref an) = (Value.ref wR) ∧ w44_0 = (1 : Int32)) ∨ (f4 = (0 : Int32) ∧ ¬ ((Value.ref an) = (Value.ref wR)) ∧ f3 = (0 : Int32) ∧ w44_0 = (1 : Int32)) ∨ (f4 = (0 : Int32) ∧ ¬ ((Value.ref an) = (Value.ref wR)) ∧ ¬ (f3 = (0 : Int32)) ∧ w44_0 = (0 : Int32)) ∨ (¬ (f4 = (0 : Int32)) ∧ w44_0 = (0 : Int32))) → Go p.tables e below Pf (T'.setTop (mkF m 29 #[.val (.ref ac)] [(.int w44_0)])) := by
    intro T44 w44_0 X44 e44 hm44
    unfold Like at X44
    have bw44_0 : w44_0 = 0 ∨ w44_0 = 1 := by rcases hm44 with ⟨_, _, h⟩ | ⟨_, _, _, h⟩ | ⟨_, _, _, h⟩ | ⟨_, h⟩ <;> first | exact Or.inl h | exact Or.inr h
    show Go p.tables e below Pf (T44.setTop (mkF m 29 #[.val (.ref ac)] [(.int w44_0)]))
    rw [hPf]
    exact Go.retI' X44 hx hret hlk (by simp) (own_nb bw44_0) (hb hby d7_29) (by decide) (by decide) ⟨w44_0, rfl, rfl, e44, hm44⟩
  by_cases hc45 : f4 = (0 : Int32)
  · refine Go.by' (fun t k => (XS.ifNo X37.here hx rfl (hb hby d7_4) rfl ((if0 _ _).trans (teq hc45).2) (XS.aloadN X37.here hx rfl (hb hby d7_7) rfl rfl k))) ?_
    show Go p.tables e below Pf (T37.setTop (mkF m 8 #[.val (.ref ac)] [(.ref ac)]))
    obtain ⟨T46, X46, e46, st46⟩ := getF X37 hx hZ hown (host := "") (Or.inl hw50) Via.refl e37 FN (g := (mkF m 8 #[.val (.ref ac)] [(.ref ac)])) rfl rfl (hb hby d7_8)
    refine Go.by' st46 ?_
    show Go p.tables e below Pf (T46.setTop (mkF m 11 #[.val (.ref ac)] [(.ref an)]))
    obtain ⟨T47, X47, e47, st47⟩ := getS2 X46 hx hZ hown (host := "") (Or.inl hw69) Via.refl e46 (G.2.2.1.ext O0.2) (g := (mkF m 11 #[.val (.ref ac)] [(.ref an)])) rfl (hb hby d7_11)
    refine Go.by' st47 ?_
    show Go p.tables e below Pf (T47.setTop (mkF m 14 #[.val (.ref ac)] [(.ref wR), (.ref an)]))
    by_cases hc48 : (Value.ref an) = (Value.ref wR)
    · refine Go.by' (fun t k => Jvm.RoadKit.acmp (g := (mkF m 14 #[.val (.ref ac)] [(.ref wR), (.ref an)])) X47 hx rfl rfl rfl (pc0 := 14) (pc' := 24) (same := true) rfl (hb hby d7_14) rfl (decide_eq_true hc48) (by decide) (by decide) k) ?_
      show Go p.tables e below Pf (T47.setTop (mkF m 24 #[.val (.ref ac)] []))
      refine Go.by' (fun t k => (XS.iconst X47.here hx rfl (hb hby d7_24) (XS.goto X47.here hx rfl (pc0 := 25) (pc' := 29) rfl (hb hby d7_25) (by decide) (by decide) k))) ?_
      show Go p.tables e below Pf (T47.setTop (mkF m 29 #[.val (.ref ac)] [(.int (1 : Int32))]))
      exact jn44 T47 ((1 : Int32)) X47 e47  (Or.inl ⟨hc45, hc48, rfl⟩)
    · refine Go.by' (fun t k => Jvm.RoadKit.acmp (g := (mkF m 14 #[.val (.ref ac)] [(.ref wR), (.ref an)])) X47 hx rfl rfl rfl (pc0 := 14) (pc' := 17) (same := false) rfl (hb hby d7_14) rfl (decide_eq_false hc48) (by decide) (by decide) k) ?_
      show Go p.tables e below Pf (T47.setTop (mkF m 17 #[.val (.ref ac)] []))
      refine Go.by' (fun t k => (XS.aloadN X47.here hx rfl (hb hby d7_17) rfl rfl k)) ?_
      show Go p.tables e below Pf (T47.setTop (mkF m 18 #[.val (.ref ac)] [(.ref ac)]))
      obtain ⟨T49, X49, e49, st49⟩ := getF X47 hx hZ hown (host := "") (Or.inl hw56) Via.refl e47 FR (g := (mkF m 18 #[.val (.ref ac)] [(.ref ac)])) rfl rfl (hb hby d7_18)
      refine Go.by' st49 ?_
      show Go p.tables e below Pf (T49.setTop (mkF m 21 #[.val (.ref ac)] [(.int f3)]))
      by_cases hc50 : f3 = (0 : Int32)
      · refine Go.by' (fun t k => (XS.ifNo X49.here hx rfl (hb hby d7_21) rfl ((if0 _ _).trans (teq hc50).2) (XS.iconst X49.here hx rfl (hb hby d7_24) (XS.goto X49.here hx rfl (pc0 := 25) (pc' := 29) rfl (hb hby d7_25) (by decide) (by decide) k)))) ?_
        show Go p.tables e below Pf (T49.setTop (mkF m 29 #[.val (.ref ac)] [(.int (1 : Int32))]))
        exact jn44 T49 ((1 : Int32)) X49 e49  (Or.inr (Or.inl ⟨hc45, hc48, hc50, rfl⟩))
      · refine Go.by' (fun t k => (XS.ifYes X49.here hx rfl (pc0 := 21) (pc' := 28) rfl (hb hby d7_21) rfl ((if0 _ _).trans (feq hc50).2) (by decide) (by decide) (XS.iconst X49.here hx rfl (hb hby d7_28) k))) ?_
        show Go p.tables e below Pf (T49.setTop (mkF m 29 #[.val (.ref ac)] [(.int (0 : Int32))]))
        exact jn44 T49 ((0 : Int32)) X49 e49  (Or.inr (Or.inr (Or.inl ⟨hc45, hc48, hc50, rfl⟩)))
  · refine Go.by' (fun t k => (XS.ifYes X37.here hx rfl (pc0 := 4) (pc' := 28) rfl (hb hby d7_4) rfl ((if0 _ _).trans (feq hc45).2) (by decide) (by decide) (XS.iconst X37.here hx rfl (hb hby d7_28) k))) ?_
    show Go p.tables e below Pf (T37.setTop (mkF m 29 #[.val (.ref ac)] [(.int (0 : Int32))]))
    exact jn44 T37 ((0 : Int32)) X37 e37  (Or.inr (Or.inr (Or.inr ⟨hc45, rfl⟩)))
theorem own_fin {wN wR wW an : Addr} {n f3 f4 w r : Int32} (ne1 : wN ≠ wR) (ne2 : wW ≠ wR) (hN : (n = (0 : Int32) ∧ an = wN) ∨ (¬ (n = (0 : Int32)) ∧ n = (1 : Int32) ∧ an = wR) ∨ (¬ (n = (0 : Int32)) ∧ ¬ (n = (1 : Int32)) ∧ an = wW))
    (hE : (f4 = (0 : Int32) ∧ n = (1 : Int32) ∧ w = (1 : Int32)) ∨ (f4 = (0 : Int32) ∧ ¬ (n = (1 : Int32)) ∧ f3 = (0 : Int32) ∧ w = (1 : Int32)) ∨ (f4 = (0 : Int32) ∧ ¬ (n = (1 : Int32)) ∧ ¬ (f3 = (0 : Int32)) ∧ w = (0 : Int32)) ∨ (¬ (f4 = (0 : Int32)) ∧ w = (0 : Int32)))
    (hR : (f4 = (0 : Int32) ∧ (Value.ref an) = (Value.ref wR) ∧ r = (1 : Int32)) ∨ (f4 = (0 : Int32) ∧ ¬ ((Value.ref an) = (Value.ref wR)) ∧ f3 = (0 : Int32) ∧ r = (1 : Int32)) ∨ (f4 = (0 : Int32) ∧ ¬ ((Value.ref an) = (Value.ref wR)) ∧ ¬ (f3 = (0 : Int32)) ∧ r = (0 : Int32)) ∨ (¬ (f4 = (0 : Int32)) ∧ r = (0 : Int32))) : w = r := by
  have e01 : ¬ ((0 : Int32) = 1) := by decide
  have hq : (Value.ref an = Value.ref wR) ↔ n = (1 : Int32) := by
    rw [Value.ref.injEq]
    rcases hN with ⟨q1, rfl⟩ | ⟨q1, q2, rfl⟩ | ⟨q1, q2, rfl⟩
    · exact ⟨fun q => absurd q ne1, fun q => absurd (q1.symm.trans q) e01⟩
    · exact ⟨fun _ => q2, fun _ => rfl⟩
    · exact ⟨fun q => absurd q ne2, fun q => absurd q q2⟩
  rw [hq] at hR
  rcases hE with ⟨a1, a2, rfl⟩ | ⟨a1, a2, a3, rfl⟩ | ⟨a1, a2, a3, rfl⟩ | ⟨a1, rfl⟩ <;> rcases hR with ⟨b1, b2, rfl⟩ | ⟨b1, b2, b3, rfl⟩ | ⟨b1, b2, b3, rfl⟩ | ⟨b1, rfl⟩ <;> first | rfl | (exfalso; contradiction)
theorem pd_1 : parseMethodDescriptor "(JLcom/example/slatewipe/slatewipe/Table;Ljava/util/List;Ljava/util/List;Lcom/example/slatewipe/slatewipe/vendors/postgresql/Changes$Noted;ZZZZLjava/util/List;Ljava/util/List;)V" = some ⟨[.long, (.object "com/example/slatewipe/slatewipe/Table"), (.object "java/util/List"), (.object "java/util/List"), (.object "com/example/slatewipe/slatewipe/vendors/postgresql/Changes$Noted"), .boolean, .boolean, .boolean, .boolean, (.object "java/util/List"), (.object "java/util/List")], none⟩ := by decide +kernel
theorem pd_2 : parseMethodDescriptor "()Z" = some ⟨[], some .boolean⟩ := by decide +kernel
theorem pn_0 : plainName "com/example/slatewipe/slatewipe/vendors/postgresql/CopyRestorableInPlacePinLaw" = true := by first | (simp [plainName, overriddenIn]; done) | decide +kernel
set_option maxHeartbeats 4000000 in
theorem ef_rm0 (m : MethodId) {jid : Int64} {ik : Int32} {ifl : Int32} : entryFrame m #[(.long jid), (.int ik), (.int ifl)] maxLocals = mkF m 0 #[.val (.long jid), .second, .val (.int ik), .val (.int ifl), .unset, .unset, .unset, .unset, .unset, .unset, .unset, .unset] [] := by first | (simp [entryFrame, mkF, argsToLocals, Value.category, maxLocals]; done) | rfl
def Qrm0 (Z : State) (wN : Addr) (wR : Addr) (wW : Addr) (wD : Addr) (jid : Int64) (ik : Int32) (ifl : Int32) (h0 : Heap) (n0 : Nat) (v : Option Value) (h : Heap) (L : List Loc) : Prop := (v = some (.int (1 : Int32))) ∧ (Fr n0 L) ∧ (Keep h0 h [])
set_option maxRecDepth 65536 in
set_option maxHeartbeats 40000000 in
theorem rm0 (l : Launch) (Z : State) (a0 : Array Value) (hw : ∀ d ∈ tables_1, d.before a0 Z = true) (ws : List Jvm.Cond) (wN : Addr) (wR : Addr) (wW : Addr) (wD : Addr) (G : Gh Z wN wR wW wD) (jid : Int64) (ik : Int32) (ifl : Int32) (h0 : Heap) (n0 : Nat) (O0 : Old Z n0 h0) :
    MetFree l x (head1 (Jvm.Cond.code x code maxLocals ret :: ws) room_1) (fun aa' UU' => aa' = #[(.long jid), (.int ik), (.int ifl)] ∧ Z.Warmed39 UU'.vm ∧ UU'.heap = h0) (fun _ _ _ _ _ => True) (fun _ UU' oo' VV' => ∃ v' L', oo' = .returned v' ∧ Qrm0 Z wN wR wW wD jid ik ifl h0 n0 v' VV'.heap L' ∧ FrameEnd UU' oo' VV' L' 5 23) := by
  refine MetFree.of_bodySF (plainFor_of_name pn_0) hisR ?_
  intro p e s m args below meth c s₁ Bd hml0 hP hK
  obtain ⟨rfl, hZ, hh⟩ := hP
  have hx := Bd.exec
  have hby := Bd.bytes
  have hlk := Bd.notSynchronized
  have hml : c.maxLocals = 12 := hml0
  have hown : s.vm.findClass "com/example/slatewipe/slatewipe/vendors/postgresql/CopyRestorableInPlacePinLaw" = some m.cls := findClass_of_methodNamed Bd.named
  have hnm := (name_of_methodNamed Bd.named Bd.method).1
  have hret := Bd.returns
  have X0 : Stand p l e room_1 s m #[(.long jid), (.int ik), (.int ifl)] below meth c s₁ [] 0 0 := Stand.of_body Bd
  have e0 : s₁.heap = h0 := by rw [← hh, Bd.state]; rfl
  have N0 := Fr.nil n0
  have KC0 : Keep h0 h0 [] := Keep.refl _ _
  refine Go.body ?_
  obtain ⟨Pf, hPf⟩ : ∃ P, P = Fin' s below 5 23 (Qrm0 Z wN wR wW wD jid ik ifl h0 n0) := ⟨_, rfl⟩
  rw [← hPf]
  refine Go.cast (ef_rm0 m) ?_
  have hw0 := (hw _ (List.mem_of_getElem? (i := 0) rfl))
  have hw1 := (hw _ (List.mem_of_getElem? (i := 1) rfl))
  have hw4 := (hw _ (List.mem_of_getElem? (i := 4) rfl))
  have hw5 := (hw _ (List.mem_of_getElem? (i := 5) rfl))
  have hw6 := (hw _ (List.mem_of_getElem? (i := 6) rfl))
  have hw7 := (hw _ (List.mem_of_getElem? (i := 7) rfl))
  have hw8 := (hw _ (List.mem_of_getElem? (i := 8) rfl))
  have hw9 := (hw _ (List.mem_of_getElem? (i := 9) rfl))
  have hw10 := (hw _ (List.mem_of_getElem? (i := 10) rfl))
  have hw11 := (hw _ (List.mem_of_getElem? (i := 11) rfl))
  have hw12 := (hw _ (List.mem_of_getElem? (i := 12) rfl))
  have hw29 := (hw _ (List.mem_of_getElem? (i := 29) rfl))
  have hw32 := (hw _ (List.mem_of_getElem? (i := 32) rfl))
  have hw33 := (hw _ (List.mem_of_getElem? (i := 33) rfl))
  have hw34 := (hw _ (List.mem_of_getElem? (i := 34) rfl))
  have hw35 := (hw _ (List.mem_of_getElem? (i := 35) rfl))
  have hw43 := (hw _ (List.mem_of_getElem? (i := 43) rfl))
  have hw45 := (hw _ (List.mem_of_getElem? (i := 45) rfl))
  have hw47 := (hw _ (List.mem_of_getElem? (i := 47) rfl))
  have hw49 := (hw _ (List.mem_of_getElem? (i := 49) rfl))
  have hw51 := (hw _ (List.mem_of_getElem? (i := 51) rfl))
  have hw53 := (hw _ (List.mem_of_getElem? (i := 53) rfl))
  have hw55 := (hw _ (List.mem_of_getElem? (i := 55) rfl))
  have hw57 := (hw _ (List.mem_of_getElem? (i := 57) rfl))
  have hw59 := (hw _ (List.mem_of_getElem? (i := 59) rfl))
  have hw61 := (hw _ (List.mem_of_getElem? (i := 61) rfl))
  have hw63 := (hw _ (List.mem_of_getElem? (i := 63) rfl))
  have hw64 := (hw _ (List.mem_of_getElem? (i := 64) rfl))
  have hw65 := (hw _ (List.mem_of_getElem? (i := 65) rfl))
  have hw66 := (hw _ (List.mem_of_getElem? (i := 66) rfl))
  have hw67 := (hw _ (List.mem_of_getElem? (i := 67) rfl))
  have hw68 := (hw _ (List.mem_of_getElem? (i := 68) rfl))
  have hw71 := (hw _ (List.mem_of_getElem? (i := 71) rfl))
  have hw72 := (hw _ (List.mem_of_getElem? (i := 72) rfl))
  show Go p.tables e below Pf (s₁.setTop (mkF m 0 #[.val (.long jid), .second, .val (.int ik), .val (.int ifl), .unset, .unset, .unset, .unset, .unset, .unset, .unset, .unset] []))
  refine Go.by' (fun t k => (XS.iloadN X0.here hx rfl (hb hby at_0) rfl (X0.ldcInt hx hown (mvT hZ hw0) (g := (mkF m 1 #[.val (.long jid), .second, .val (.int ik), .val (.int ifl), .unset, .unset, .unset, .unset, .unset, .unset, .unset, .unset] [(.int ik)])) rfl (hb hby at_1) t (XS.iand X0.here hx rfl (hb hby at_3) rfl (XS.iconst X0.here hx rfl (hb hby at_4) k))))) ?_
  show Go p.tables e below Pf (s₁.setTop (mkF m 5 #[.val (.long jid), .second, .val (.int ik), .val (.int ifl), .unset, .unset, .unset, .unset, .unset, .unset, .unset, .unset] [(.int (3 : Int32)), (.int (ik &&& (2147483647 : Int32)))]))
  refine Go.by' (fun t k => iremM (g := (mkF m 5 #[.val (.long jid), .second, .val (.int ik), .val (.int ifl), .unset, .unset, .unset, .unset, .unset, .unset, .unset, .unset] [(.int (3 : Int32)), (.int (ik &&& (2147483647 : Int32)))])) X0 hx rfl (hb hby at_5) rfl (by decide) k) ?_
  show Go p.tables e below Pf (s₁.setTop (mkF m 6 #[.val (.long jid), .second, .val (.int ik), .val (.int ifl), .unset, .unset, .unset, .unset, .unset, .unset, .unset, .unset] [(.int ((ik &&& (2147483647 : Int32)) % (3 : Int32)))]))
  refine Go.by' (fun t k => (XS.istore X0.here hx rfl (hb hby at_6) rfl (l' := #[.val (.long jid), .second, .val (.int ik), .val (.int ifl), .val (.int ((ik &&& (2147483647 : Int32)) % (3 : Int32))), .unset, .unset, .unset, .unset, .unset, .unset, .unset]) rfl (XS.iload X0.here hx rfl (hb hby at_8) rfl k))) ?_
  show Go p.tables e below Pf (s₁.setTop (mkF m 10 #[.val (.long jid), .second, .val (.int ik), .val (.int ifl), .val (.int ((ik &&& (2147483647 : Int32)) % (3 : Int32))), .unset, .unset, .unset, .unset, .unset, .unset, .unset] [(.int ((ik &&& (2147483647 : Int32)) % (3 : Int32)))]))
  have jn56 : ∀ (T' : State) (w56_0 : Addr), Like X0 T' → T'.heap = h0 → ((((ik &&& (2147483647 : Int32)) % (3 : Int32)) = (0 : Int32) ∧ w56_0 = wN) ∨ (¬ (((ik &&& (2147483647 : Int32)) % (3 : Int32)) = (0 : Int32)) ∧ ((ik &&& (2147483647 : Int32)) % (3 : Int32)) = (1 : Int32) ∧ w56_0 = wR) ∨ (¬ (((ik &&& (2147483647 : Int32)) % (3 : Int32)) = (0 : Int32)) ∧ ¬ (((ik &&& (2147483647 : Int32)) % (3 : Int32)) = (1 : Int32)) ∧ w56_0 = wW)) → Go p.tables e below Pf (T'.setTop (mkF m 40 #[.val (.long jid), .second, .val (.int ik), .val (.int ifl), .val (.int ((ik &&& (2147483647 : Int32)) % (3 : Int32))), .val (.ref w56_0), .unset, .unset, .unset, .unset, .unset, .unset] [])) := by
    intro T56 w56_0 X56 e56 hm56
    unfold Like at X56
    show Go p.tables e below Pf (T56.setTop (mkF m 40 #[.val (.long jid), .second, .val (.int ik), .val (.int ifl), .val (.int ((ik &&& (2147483647 : Int32)) % (3 : Int32))), .val (.ref w56_0), .unset, .unset, .unset, .unset, .unset, .unset] []))
    refine Go.by' (fun t k => (XS.iloadN X56.here hx rfl (hb hby at_40) rfl (XS.iconst X56.here hx rfl (hb hby at_41) (XS.iand X56.here hx rfl (hb hby at_42) rfl k)))) ?_
    show Go p.tables e below Pf (T56.setTop (mkF m 43 #[.val (.long jid), .second, .val (.int ik), .val (.int ifl), .val (.int ((ik &&& (2147483647 : Int32)) % (3 : Int32))), .val (.ref w56_0), .unset, .unset, .unset, .unset, .unset, .unset] [(.int (ifl &&& (1 : Int32)))]))
    have jn58 : ∀ (T' : State) (w58_0 : Int32), Like X56 T' → T'.heap = h0 → (((ifl &&& (1 : Int32)) = (0 : Int32) ∧ w58_0 = (0 : Int32)) ∨ (¬ ((ifl &&& (1 : Int32)) = (0 : Int32)) ∧ w58_0 = (1 : Int32))) → Go p.tables e below Pf (T'.setTop (mkF m 51 #[.val (.long jid), .second, .val (.int ik), .val (.int ifl), .val (.int ((ik &&& (2147483647 : Int32)) % (3 : Int32))), .val (.ref w56_0), .unset, .unset, .unset, .unset, .unset, .unset] [(.int w58_0)])) := by
      intro T58 w58_0 X58 e58 hm58
      unfold Like at X58
      have bw58_0 : w58_0 = 0 ∨ w58_0 = 1 := by rcases hm58 with ⟨_, h⟩ | ⟨_, h⟩ <;> first | exact Or.inl h | exact Or.inr h
      show Go p.tables e below Pf (T58.setTop (mkF m 51 #[.val (.long jid), .second, .val (.int ik), .val (.int ifl), .val (.int ((ik &&& (2147483647 : Int32)) % (3 : Int32))), .val (.ref w56_0), .unset, .unset, .unset, .unset, .unset, .unset] [(.int w58_0)]))
      refine Go.by' (fun t k => (XS.istore X58.here hx rfl (hb hby at_51) rfl (l' := #[.val (.long jid), .second, .val (.int ik), .val (.int ifl), .val (.int ((ik &&& (2147483647 : Int32)) % (3 : Int32))), .val (.ref w56_0), .val (.int w58_0), .unset, .unset, .unset, .unset, .unset]) rfl (XS.iloadN X58.here hx rfl (hb hby at_53) rfl (XS.iconst X58.here hx rfl (hb hby at_54) (XS.iand X58.here hx rfl (hb hby at_55) rfl k))))) ?_
      show Go p.tables e below Pf (T58.setTop (mkF m 56 #[.val (.long jid), .second, .val (.int ik), .val (.int ifl), .val (.int ((ik &&& (2147483647 : Int32)) % (3 : Int32))), .val (.ref w56_0), .val (.int w58_0), .unset, .unset, .unset, .unset, .unset] [(.int (ifl &&& (2 : Int32)))]))
      have jn60 : ∀ (T' : State) (w60_0 : Int32), Like X58 T' → T'.heap = h0 → (((ifl &&& (2 : Int32)) = (0 : Int32) ∧ w60_0 = (0 : Int32)) ∨ (¬ ((ifl &&& (2 : Int32)) = (0 : Int32)) ∧ w60_0 = (1 : Int32))) → Go p.tables e below Pf (T'.setTop (mkF m 64 #[.val (.long jid), .second, .val (.int ik), .val (.int ifl), .val (.int ((ik &&& (2147483647 : Int32)) % (3 : Int32))), .val (.ref w56_0), .val (.int w58_0), .unset, .unset, .unset, .unset, .unset] [(.int w60_0)])) := by
        intro T60 w60_0 X60 e60 hm60
        unfold Like at X60
        have bw60_0 : w60_0 = 0 ∨ w60_0 = 1 := by rcases hm60 with ⟨_, h⟩ | ⟨_, h⟩ <;> first | exact Or.inl h | exact Or.inr h
        show Go p.tables e below Pf (T60.setTop (mkF m 64 #[.val (.long jid), .second, .val (.int ik), .val (.int ifl), .val (.int ((ik &&& (2147483647 : Int32)) % (3 : Int32))), .val (.ref w56_0), .val (.int w58_0), .unset, .unset, .unset, .unset, .unset] [(.int w60_0)]))
        refine Go.by' (fun t k => (XS.istore X60.here hx rfl (hb hby at_64) rfl (l' := #[.val (.long jid), .second, .val (.int ik), .val (.int ifl), .val (.int ((ik &&& (2147483647 : Int32)) % (3 : Int32))), .val (.ref w56_0), .val (.int w58_0), .val (.int w60_0), .unset, .unset, .unset, .unset]) rfl (XS.iloadN X60.here hx rfl (hb hby at_66) rfl (XS.iconst X60.here hx rfl (hb hby at_67) (XS.iand X60.here hx rfl (hb hby at_68) rfl k))))) ?_
        show Go p.tables e below Pf (T60.setTop (mkF m 69 #[.val (.long jid), .second, .val (.int ik), .val (.int ifl), .val (.int ((ik &&& (2147483647 : Int32)) % (3 : Int32))), .val (.ref w56_0), .val (.int w58_0), .val (.int w60_0), .unset, .unset, .unset, .unset] [(.int (ifl &&& (4 : Int32)))]))
        have jn62 : ∀ (T' : State) (w62_0 : Int32), Like X60 T' → T'.heap = h0 → (((ifl &&& (4 : Int32)) = (0 : Int32) ∧ w62_0 = (0 : Int32)) ∨ (¬ ((ifl &&& (4 : Int32)) = (0 : Int32)) ∧ w62_0 = (1 : Int32))) → Go p.tables e below Pf (T'.setTop (mkF m 77 #[.val (.long jid), .second, .val (.int ik), .val (.int ifl), .val (.int ((ik &&& (2147483647 : Int32)) % (3 : Int32))), .val (.ref w56_0), .val (.int w58_0), .val (.int w60_0), .unset, .unset, .unset, .unset] [(.int w62_0)])) := by
          intro T62 w62_0 X62 e62 hm62
          unfold Like at X62
          have bw62_0 : w62_0 = 0 ∨ w62_0 = 1 := by rcases hm62 with ⟨_, h⟩ | ⟨_, h⟩ <;> first | exact Or.inl h | exact Or.inr h
          show Go p.tables e below Pf (T62.setTop (mkF m 77 #[.val (.long jid), .second, .val (.int ik), .val (.int ifl), .val (.int ((ik &&& (2147483647 : Int32)) % (3 : Int32))), .val (.ref w56_0), .val (.int w58_0), .val (.int w60_0), .unset, .unset, .unset, .unset] [(.int w62_0)]))
          refine Go.by' (fun t k => (XS.istore X62.here hx rfl (hb hby at_77) rfl (l' := #[.val (.long jid), .second, .val (.int ik), .val (.int ifl), .val (.int ((ik &&& (2147483647 : Int32)) % (3 : Int32))), .val (.ref w56_0), .val (.int w58_0), .val (.int w60_0), .val (.int w62_0), .unset, .unset, .unset]) rfl (XS.iloadN X62.here hx rfl (hb hby at_79) rfl (XS.bipush X62.here hx rfl (hb hby at_80) (XS.iand X62.here hx rfl (hb hby at_82) rfl k))))) ?_
          show Go p.tables e below Pf (T62.setTop (mkF m 83 #[.val (.long jid), .second, .val (.int ik), .val (.int ifl), .val (.int ((ik &&& (2147483647 : Int32)) % (3 : Int32))), .val (.ref w56_0), .val (.int w58_0), .val (.int w60_0), .val (.int w62_0), .unset, .unset, .unset] [(.int (ifl &&& (8 : Int32)))]))
          have jn64 : ∀ (T' : State) (w64_0 : Int32), Like X62 T' → T'.heap = h0 → (((ifl &&& (8 : Int32)) = (0 : Int32) ∧ w64_0 = (0 : Int32)) ∨ (¬ ((ifl &&& (8 : Int32)) = (0 : Int32)) ∧ w64_0 = (1 : Int32))) → Go p.tables e below Pf (T'.setTop (mkF m 91 #[.val (.long jid), .second, .val (.int ik), .val (.int ifl), .val (.int ((ik &&& (2147483647 : Int32)) % (3 : Int32))), .val (.ref w56_0), .val (.int w58_0), .val (.int w60_0), .val (.int w62_0), .unset, .unset, .unset] [(.int w64_0)])) := by
            intro T64 w64_0 X64 e64 hm64
            unfold Like at X64
            have bw64_0 : w64_0 = 0 ∨ w64_0 = 1 := by rcases hm64 with ⟨_, h⟩ | ⟨_, h⟩ <;> first | exact Or.inl h | exact Or.inr h
            show Go p.tables e below Pf (T64.setTop (mkF m 91 #[.val (.long jid), .second, .val (.int ik), .val (.int ifl), .val (.int ((ik &&& (2147483647 : Int32)) % (3 : Int32))), .val (.ref w56_0), .val (.int w58_0), .val (.int w60_0), .val (.int w62_0), .unset, .unset, .unset] [(.int w64_0)]))
            refine Go.by' (fun t k => (XS.istore X64.here hx rfl (hb hby at_91) rfl (l' := #[.val (.long jid), .second, .val (.int ik), .val (.int ifl), .val (.int ((ik &&& (2147483647 : Int32)) % (3 : Int32))), .val (.ref w56_0), .val (.int w58_0), .val (.int w60_0), .val (.int w62_0), .val (.int w64_0), .unset, .unset]) rfl k)) ?_
            show Go p.tables e below Pf (T64.setTop (mkF m 93 #[.val (.long jid), .second, .val (.int ik), .val (.int ifl), .val (.int ((ik &&& (2147483647 : Int32)) % (3 : Int32))), .val (.ref w56_0), .val (.int w58_0), .val (.int w60_0), .val (.int w62_0), .val (.int w64_0), .unset, .unset] []))
            obtain ⟨T65, h65, X65, e65, E65, A65, D65, -, st65⟩ := newO X64 hx hZ hown hw4 hw5 hw6 e64 (g := (mkF m 93 #[.val (.long jid), .second, .val (.int ik), .val (.int ifl), .val (.int ((ik &&& (2147483647 : Int32)) % (3 : Int32))), .val (.ref w56_0), .val (.int w58_0), .val (.int w60_0), .val (.int w62_0), .val (.int w64_0), .unset, .unset] [])) rfl (hb hby at_93) (by decide) (by decide)
            obtain ⟨b65, g65⟩ : ∃ z, z = h0.size := ⟨_, rfl⟩
            rw [← g65] at A65 D65 st65
            refine Go.by' st65 ?_
            have g_b65 : n0 ≤ b65 := Nat.le_trans (own_le O0) (Nat.le_of_eq g65.symm)
            have sz_b65 : h0.size ≤ b65 := Nat.le_trans KC0.1 (Nat.le_of_eq g65.symm)
            have O65 := O0.ext E65
            have KC65 : Keep h0 h65 [] := KC0.ext E65
            have Fn65_43 : Fld Z h65 b65 "com/example/slatewipe/slatewipe/vendors/postgresql/Changes$Copy" "id" "J" (Value.long (0 : Int64)) := D65 (Or.inr hw43) (ty := .long) (by decide)
            have Fn65_45 : Fld Z h65 b65 "com/example/slatewipe/slatewipe/vendors/postgresql/Changes$Copy" "table" "Lcom/example/slatewipe/slatewipe/Table;" Value.null := D65 (Or.inr hw45) (ty := (.object "com/example/slatewipe/slatewipe/Table")) (by decide)
            have Fn65_47 : Fld Z h65 b65 "com/example/slatewipe/slatewipe/vendors/postgresql/Changes$Copy" "columns" "Ljava/util/List;" Value.null := D65 (Or.inr hw47) (ty := (.object "java/util/List")) (by decide)
            have Fn65_49 : Fld Z h65 b65 "com/example/slatewipe/slatewipe/vendors/postgresql/Changes$Copy" "key" "Ljava/util/List;" Value.null := D65 (Or.inr hw49) (ty := (.object "java/util/List")) (by decide)
            have Fn65_51 : Fld Z h65 b65 "com/example/slatewipe/slatewipe/vendors/postgresql/Changes$Copy" "noted" "Lcom/example/slatewipe/slatewipe/vendors/postgresql/Changes$Noted;" Value.null := D65 (Or.inr hw51) (ty := (.object "com/example/slatewipe/slatewipe/vendors/postgresql/Changes$Noted")) (by decide)
            have Fn65_53 : Fld Z h65 b65 "com/example/slatewipe/slatewipe/vendors/postgresql/Changes$Copy" "added" "Z" (Value.int (0 : Int32)) := D65 (Or.inr hw53) (ty := .boolean) (by decide)
            have Fn65_55 : Fld Z h65 b65 "com/example/slatewipe/slatewipe/vendors/postgresql/Changes$Copy" "recorded" "Z" (Value.int (0 : Int32)) := D65 (Or.inr hw55) (ty := .boolean) (by decide)
            have Fn65_57 : Fld Z h65 b65 "com/example/slatewipe/slatewipe/vendors/postgresql/Changes$Copy" "referenced" "Z" (Value.int (0 : Int32)) := D65 (Or.inr hw57) (ty := .boolean) (by decide)
            have Fn65_59 : Fld Z h65 b65 "com/example/slatewipe/slatewipe/vendors/postgresql/Changes$Copy" "rules" "Z" (Value.int (0 : Int32)) := D65 (Or.inr hw59) (ty := .boolean) (by decide)
            have Fn65_61 : Fld Z h65 b65 "com/example/slatewipe/slatewipe/vendors/postgresql/Changes$Copy" "switchOff" "Ljava/util/List;" Value.null := D65 (Or.inr hw61) (ty := (.object "java/util/List")) (by decide)
            have Fn65_63 : Fld Z h65 b65 "com/example/slatewipe/slatewipe/vendors/postgresql/Changes$Copy" "backOn" "Ljava/util/List;" Value.null := D65 (Or.inr hw63) (ty := (.object "java/util/List")) (by decide)
            show Go p.tables e below Pf (T65.setTop (mkF m 96 #[.val (.long jid), .second, .val (.int ik), .val (.int ifl), .val (.int ((ik &&& (2147483647 : Int32)) % (3 : Int32))), .val (.ref w56_0), .val (.int w58_0), .val (.int w60_0), .val (.int w62_0), .val (.int w64_0), .unset, .unset] [(.ref b65)]))
            refine Go.by' (fun t k => (XS.dup X65.here hx rfl (hb hby at_96) rfl rfl (XS.lloadN X65.here hx rfl (hb hby at_97) rfl (XS.aconstNull X65.here hx rfl (hb hby at_98) k)))) ?_
            show Go p.tables e below Pf (T65.setTop (mkF m 99 #[.val (.long jid), .second, .val (.int ik), .val (.int ifl), .val (.int ((ik &&& (2147483647 : Int32)) % (3 : Int32))), .val (.ref w56_0), .val (.int w58_0), .val (.int w60_0), .val (.int w62_0), .val (.int w64_0), .unset, .unset] [.null, (.long jid), (.ref b65), (.ref b65)]))
            obtain ⟨T66, h66, X66, e66, E66, A66, D66, -, st66⟩ := newO X65 hx hZ hown hw7 hw8 hw9 e65 (g := (mkF m 99 #[.val (.long jid), .second, .val (.int ik), .val (.int ifl), .val (.int ((ik &&& (2147483647 : Int32)) % (3 : Int32))), .val (.ref w56_0), .val (.int w58_0), .val (.int w60_0), .val (.int w62_0), .val (.int w64_0), .unset, .unset] [.null, (.long jid), (.ref b65), (.ref b65)])) rfl (hb hby at_99) (by decide) (by decide)
            obtain ⟨b66, g66⟩ : ∃ z, z = h65.size := ⟨_, rfl⟩
            rw [← g66] at A66 D66 st66
            refine Go.by' st66 ?_
            have g_b66 : n0 ≤ b66 := Nat.le_trans (own_le O65) (Nat.le_of_eq g66.symm)
            have sz_b66 : h0.size ≤ b66 := Nat.le_trans KC65.1 (Nat.le_of_eq g66.symm)
            have O66 := O65.ext E66
            have KC66 : Keep h0 h66 [] := KC65.ext E66
            have Fn66_29 : Fld Z h66 b66 "java/util/AbstractList" "modCount" "I" (Value.int (0 : Int32)) := D66 (Or.inl hw29) (ty := .int) (by decide)
            have Fn66_32 : Fld Z h66 b66 "java/util/ArrayList" "elementData" "[Ljava/lang/Object;" Value.null := D66 (Or.inl hw32) (ty := (.array (.object "java/lang/Object"))) (by decide)
            show Go p.tables e below Pf (T66.setTop (mkF m 102 #[.val (.long jid), .second, .val (.int ik), .val (.int ifl), .val (.int ((ik &&& (2147483647 : Int32)) % (3 : Int32))), .val (.ref w56_0), .val (.int w58_0), .val (.int w60_0), .val (.int w62_0), .val (.int w64_0), .unset, .unset] [(.ref b66), .null, (.long jid), (.ref b65), (.ref b65)]))
            refine Go.by' (fun t k => (XS.dup X66.here hx rfl (hb hby at_102) rfl rfl k)) ?_
            show Go p.tables e below Pf (T66.setTop (mkF m 103 #[.val (.long jid), .second, .val (.int ik), .val (.int ifl), .val (.int ((ik &&& (2147483647 : Int32)) % (3 : Int32))), .val (.ref w56_0), .val (.int w58_0), .val (.int w60_0), .val (.int w62_0), .val (.int w64_0), .unset, .unset] [(.ref b66), (.ref b66), .null, (.long jid), (.ref b65), (.ref b65)]))
            obtain ⟨_, _, ⟨T67, L67, k67, n67⟩, -, X67, ⟨Lc67, hQ67, l67, y67, z67⟩, st67⟩ := X66.specialBack hx (y := (⟨"java/util/ArrayList", "<init>", "()V"⟩ : MethodName)) rfl hown (mvT hZ hw10) (mvT hZ hw11) (mvT hZ hw12) (by decide) (backOf (W := 6) (rmAL l Z a0 hw [] wN wR wW wD G b66 h66 n0 O66 A66 Fn66_29 Fn66_32 g_b66) hZ hw12 hw9 (by decide) (by decide)) (g := (mkF m 103 #[.val (.long jid), .second, .val (.int ik), .val (.int ifl), .val (.int ((ik &&& (2147483647 : Int32)) % (3 : Int32))), .val (.ref w56_0), .val (.int w58_0), .val (.int w60_0), .val (.int w62_0), .val (.int w64_0), .unset, .unset] [(.ref b66), (.ref b66), .null, (.long jid), (.ref b65), (.ref b65)])) rfl (by rw [hml]; rfl) (Steps.refl _) (a := b66) (argsL := []) (rest := [(.ref b66), .null, (.long jid), (.ref b65), (.ref b65)]) (lenOf pd_0 rfl) rfl (by show 2 * 0 + _ ≤ _; exact Nat.le_of_eq rfl) (hb hby at_103) (fun _ _ => ⟨rfl, e66, (by decide : 2 + 0 ≤ _), (by decide : 14 + 0 ≤ _)⟩)
            dsimp only [Pt.U, Pt.locs, Pt.cells, Pt.slots] at X67 l67 y67 z67 st67 hQ67
            subst l67 y67 z67
            obtain ⟨rfl, N67q, K67, f67_0, f67_1, f67_2⟩ := hQ67
            have N67 := Fr.app N0 N67q
            refine Go.by' (fun t k => st67.trans k) ?_
            have O67 := O66.keep K67 (allS g_b66 all0)
            have KC67 : Keep h0 T67.heap [] := KC66.trans K67 (allS (Or.inr sz_b66) all0)
            show Go p.tables e below Pf (T67.setTop (mkF m 106 #[.val (.long jid), .second, .val (.int ik), .val (.int ifl), .val (.int ((ik &&& (2147483647 : Int32)) % (3 : Int32))), .val (.ref w56_0), .val (.int w58_0), .val (.int w60_0), .val (.int w62_0), .val (.int w64_0), .unset, .unset] [(.ref b66), .null, (.long jid), (.ref b65), (.ref b65)]))
            obtain ⟨T68, h68, X68, e68, E68, A68, D68, -, st68⟩ := newO X67 hx hZ hown hw7 hw8 hw9 rfl (g := (mkF m 106 #[.val (.long jid), .second, .val (.int ik), .val (.int ifl), .val (.int ((ik &&& (2147483647 : Int32)) % (3 : Int32))), .val (.ref w56_0), .val (.int w58_0), .val (.int w60_0), .val (.int w62_0), .val (.int w64_0), .unset, .unset] [(.ref b66), .null, (.long jid), (.ref b65), (.ref b65)])) rfl (hb hby at_106) (by decide) (by decide)
            obtain ⟨b68, g68⟩ : ∃ z, z = T67.heap.size := ⟨_, rfl⟩
            rw [← g68] at A68 D68 st68
            refine Go.by' st68 ?_
            have g_b68 : n0 ≤ b68 := Nat.le_trans (own_le O67) (Nat.le_of_eq g68.symm)
            have sz_b68 : h0.size ≤ b68 := Nat.le_trans KC67.1 (Nat.le_of_eq g68.symm)
            have O68 := O67.ext E68
            have KC68 : Keep h0 h68 [] := KC67.ext E68
            have Fn68_29 : Fld Z h68 b68 "java/util/AbstractList" "modCount" "I" (Value.int (0 : Int32)) := D68 (Or.inl hw29) (ty := .int) (by decide)
            have Fn68_32 : Fld Z h68 b68 "java/util/ArrayList" "elementData" "[Ljava/lang/Object;" Value.null := D68 (Or.inl hw32) (ty := (.array (.object "java/lang/Object"))) (by decide)
            show Go p.tables e below Pf (T68.setTop (mkF m 109 #[.val (.long jid), .second, .val (.int ik), .val (.int ifl), .val (.int ((ik &&& (2147483647 : Int32)) % (3 : Int32))), .val (.ref w56_0), .val (.int w58_0), .val (.int w60_0), .val (.int w62_0), .val (.int w64_0), .unset, .unset] [(.ref b68), (.ref b66), .null, (.long jid), (.ref b65), (.ref b65)]))
            refine Go.by' (fun t k => (XS.dup X68.here hx rfl (hb hby at_109) rfl rfl k)) ?_
            show Go p.tables e below Pf (T68.setTop (mkF m 110 #[.val (.long jid), .second, .val (.int ik), .val (.int ifl), .val (.int ((ik &&& (2147483647 : Int32)) % (3 : Int32))), .val (.ref w56_0), .val (.int w58_0), .val (.int w60_0), .val (.int w62_0), .val (.int w64_0), .unset, .unset] [(.ref b68), (.ref b68), (.ref b66), .null, (.long jid), (.ref b65), (.ref b65)]))
            obtain ⟨_, _, ⟨T69, L69, k69, n69⟩, -, X69, ⟨Lc69, hQ69, l69, y69, z69⟩, st69⟩ := X68.specialBack hx (y := (⟨"java/util/ArrayList", "<init>", "()V"⟩ : MethodName)) rfl hown (mvT hZ hw10) (mvT hZ hw11) (mvT hZ hw12) (by decide) (backOf (W := 7) (rmAL l Z a0 hw [] wN wR wW wD G b68 h68 n0 O68 A68 Fn68_29 Fn68_32 g_b68) hZ hw12 hw9 (by decide) (by decide)) (g := (mkF m 110 #[.val (.long jid), .second, .val (.int ik), .val (.int ifl), .val (.int ((ik &&& (2147483647 : Int32)) % (3 : Int32))), .val (.ref w56_0), .val (.int w58_0), .val (.int w60_0), .val (.int w62_0), .val (.int w64_0), .unset, .unset] [(.ref b68), (.ref b68), (.ref b66), .null, (.long jid), (.ref b65), (.ref b65)])) rfl (by rw [hml]; rfl) (Steps.refl _) (a := b68) (argsL := []) (rest := [(.ref b68), (.ref b66), .null, (.long jid), (.ref b65), (.ref b65)]) (lenOf pd_0 rfl) rfl (by show 2 * 0 + _ ≤ _; exact Nat.le_of_eq rfl) (hb hby at_110) (fun _ _ => ⟨rfl, e68, (by decide : 3 + 0 ≤ _), (by decide : 17 + 0 ≤ _)⟩)
            dsimp only [Pt.U, Pt.locs, Pt.cells, Pt.slots] at X69 l69 y69 z69 st69 hQ69
            subst l69 y69 z69
            obtain ⟨rfl, N69q, K69, f69_0, f69_1, f69_2⟩ := hQ69
            have N69 := Fr.app N67 N69q
            refine Go.by' (fun t k => st69.trans k) ?_
            have O69 := O68.keep K69 (allS g_b68 all0)
            have KC69 : Keep h0 T69.heap [] := KC68.trans K69 (allS (Or.inr sz_b68) all0)
            show Go p.tables e below Pf (T69.setTop (mkF m 113 #[.val (.long jid), .second, .val (.int ik), .val (.int ifl), .val (.int ((ik &&& (2147483647 : Int32)) % (3 : Int32))), .val (.ref w56_0), .val (.int w58_0), .val (.int w60_0), .val (.int w62_0), .val (.int w64_0), .unset, .unset] [(.ref b68), (.ref b66), .null, (.long jid), (.ref b65), (.ref b65)]))
            refine Go.by' (fun t k => (XS.aload X69.here hx rfl (hb hby at_113) rfl rfl (XS.iload X69.here hx rfl (hb hby at_115) rfl (XS.iload X69.here hx rfl (hb hby at_117) rfl (XS.iload X69.here hx rfl (hb hby at_119) rfl (XS.iload X69.here hx rfl (hb hby at_121) rfl k)))))) ?_
            show Go p.tables e below Pf (T69.setTop (mkF m 123 #[.val (.long jid), .second, .val (.int ik), .val (.int ifl), .val (.int ((ik &&& (2147483647 : Int32)) % (3 : Int32))), .val (.ref w56_0), .val (.int w58_0), .val (.int w60_0), .val (.int w62_0), .val (.int w64_0), .unset, .unset] [(.int w64_0), (.int w62_0), (.int w60_0), (.int w58_0), (.ref w56_0), (.ref b68), (.ref b66), .null, (.long jid), (.ref b65), (.ref b65)]))
            obtain ⟨T70, h70, X70, e70, E70, A70, D70, -, st70⟩ := newO X69 hx hZ hown hw7 hw8 hw9 rfl (g := (mkF m 123 #[.val (.long jid), .second, .val (.int ik), .val (.int ifl), .val (.int ((ik &&& (2147483647 : Int32)) % (3 : Int32))), .val (.ref w56_0), .val (.int w58_0), .val (.int w60_0), .val (.int w62_0), .val (.int w64_0), .unset, .unset] [(.int w64_0), (.int w62_0), (.int w60_0), (.int w58_0), (.ref w56_0), (.ref b68), (.ref b66), .null, (.long jid), (.ref b65), (.ref b65)])) rfl (hb hby at_123) (by decide) (by decide)
            obtain ⟨b70, g70⟩ : ∃ z, z = T69.heap.size := ⟨_, rfl⟩
            rw [← g70] at A70 D70 st70
            refine Go.by' st70 ?_
            have g_b70 : n0 ≤ b70 := Nat.le_trans (own_le O69) (Nat.le_of_eq g70.symm)
            have sz_b70 : h0.size ≤ b70 := Nat.le_trans KC69.1 (Nat.le_of_eq g70.symm)
            have O70 := O69.ext E70
            have KC70 : Keep h0 h70 [] := KC69.ext E70
            have Fn70_29 : Fld Z h70 b70 "java/util/AbstractList" "modCount" "I" (Value.int (0 : Int32)) := D70 (Or.inl hw29) (ty := .int) (by decide)
            have Fn70_32 : Fld Z h70 b70 "java/util/ArrayList" "elementData" "[Ljava/lang/Object;" Value.null := D70 (Or.inl hw32) (ty := (.array (.object "java/lang/Object"))) (by decide)
            show Go p.tables e below Pf (T70.setTop (mkF m 126 #[.val (.long jid), .second, .val (.int ik), .val (.int ifl), .val (.int ((ik &&& (2147483647 : Int32)) % (3 : Int32))), .val (.ref w56_0), .val (.int w58_0), .val (.int w60_0), .val (.int w62_0), .val (.int w64_0), .unset, .unset] [(.ref b70), (.int w64_0), (.int w62_0), (.int w60_0), (.int w58_0), (.ref w56_0), (.ref b68), (.ref b66), .null, (.long jid), (.ref b65), (.ref b65)]))
            refine Go.by' (fun t k => (XS.dup X70.here hx rfl (hb hby at_126) rfl rfl k)) ?_
            show Go p.tables e below Pf (T70.setTop (mkF m 127 #[.val (.long jid), .second, .val (.int ik), .val (.int ifl), .val (.int ((ik &&& (2147483647 : Int32)) % (3 : Int32))), .val (.ref w56_0), .val (.int w58_0), .val (.int w60_0), .val (.int w62_0), .val (.int w64_0), .unset, .unset] [(.ref b70), (.ref b70), (.int w64_0), (.int w62_0), (.int w60_0), (.int w58_0), (.ref w56_0), (.ref b68), (.ref b66), .null, (.long jid), (.ref b65), (.ref b65)]))
            obtain ⟨_, _, ⟨T71, L71, k71, n71⟩, -, X71, ⟨Lc71, hQ71, l71, y71, z71⟩, st71⟩ := X70.specialBack hx (y := (⟨"java/util/ArrayList", "<init>", "()V"⟩ : MethodName)) rfl hown (mvT hZ hw10) (mvT hZ hw11) (mvT hZ hw12) (by decide) (backOf (W := 13) (rmAL l Z a0 hw [] wN wR wW wD G b70 h70 n0 O70 A70 Fn70_29 Fn70_32 g_b70) hZ hw12 hw9 (by decide) (by decide)) (g := (mkF m 127 #[.val (.long jid), .second, .val (.int ik), .val (.int ifl), .val (.int ((ik &&& (2147483647 : Int32)) % (3 : Int32))), .val (.ref w56_0), .val (.int w58_0), .val (.int w60_0), .val (.int w62_0), .val (.int w64_0), .unset, .unset] [(.ref b70), (.ref b70), (.int w64_0), (.int w62_0), (.int w60_0), (.int w58_0), (.ref w56_0), (.ref b68), (.ref b66), .null, (.long jid), (.ref b65), (.ref b65)])) rfl (by rw [hml]; rfl) (Steps.refl _) (a := b70) (argsL := []) (rest := [(.ref b70), (.int w64_0), (.int w62_0), (.int w60_0), (.int w58_0), (.ref w56_0), (.ref b68), (.ref b66), .null, (.long jid), (.ref b65), (.ref b65)]) (lenOf pd_0 rfl) rfl (by show 2 * 0 + _ ≤ _; exact Nat.le_of_eq rfl) (hb hby at_127) (fun _ _ => ⟨rfl, e70, (by decide : 4 + 0 ≤ _), (by decide : 20 + 0 ≤ _)⟩)
            dsimp only [Pt.U, Pt.locs, Pt.cells, Pt.slots] at X71 l71 y71 z71 st71 hQ71
            subst l71 y71 z71
            obtain ⟨rfl, N71q, K71, f71_0, f71_1, f71_2⟩ := hQ71
            have N71 := Fr.app N69 N71q
            refine Go.by' (fun t k => st71.trans k) ?_
            have O71 := O70.keep K71 (allS g_b70 all0)
            have KC71 : Keep h0 T71.heap [] := KC70.trans K71 (allS (Or.inr sz_b70) all0)
            show Go p.tables e below Pf (T71.setTop (mkF m 130 #[.val (.long jid), .second, .val (.int ik), .val (.int ifl), .val (.int ((ik &&& (2147483647 : Int32)) % (3 : Int32))), .val (.ref w56_0), .val (.int w58_0), .val (.int w60_0), .val (.int w62_0), .val (.int w64_0), .unset, .unset] [(.ref b70), (.int w64_0), (.int w62_0), (.int w60_0), (.int w58_0), (.ref w56_0), (.ref b68), (.ref b66), .null, (.long jid), (.ref b65), (.ref b65)]))
            obtain ⟨T72, h72, X72, e72, E72, A72, D72, -, st72⟩ := newO X71 hx hZ hown hw7 hw8 hw9 rfl (g := (mkF m 130 #[.val (.long jid), .second, .val (.int ik), .val (.int ifl), .val (.int ((ik &&& (2147483647 : Int32)) % (3 : Int32))), .val (.ref w56_0), .val (.int w58_0), .val (.int w60_0), .val (.int w62_0), .val (.int w64_0), .unset, .unset] [(.ref b70), (.int w64_0), (.int w62_0), (.int w60_0), (.int w58_0), (.ref w56_0), (.ref b68), (.ref b66), .null, (.long jid), (.ref b65), (.ref b65)])) rfl (hb hby at_130) (by decide) (by decide)
            obtain ⟨b72, g72⟩ : ∃ z, z = T71.heap.size := ⟨_, rfl⟩
            rw [← g72] at A72 D72 st72
            refine Go.by' st72 ?_
            have g_b72 : n0 ≤ b72 := Nat.le_trans (own_le O71) (Nat.le_of_eq g72.symm)
            have sz_b72 : h0.size ≤ b72 := Nat.le_trans KC71.1 (Nat.le_of_eq g72.symm)
            have O72 := O71.ext E72
            have KC72 : Keep h0 h72 [] := KC71.ext E72
            have Fn72_29 : Fld Z h72 b72 "java/util/AbstractList" "modCount" "I" (Value.int (0 : Int32)) := D72 (Or.inl hw29) (ty := .int) (by decide)
            have Fn72_32 : Fld Z h72 b72 "java/util/ArrayList" "elementData" "[Ljava/lang/Object;" Value.null := D72 (Or.inl hw32) (ty := (.array (.object "java/lang/Object"))) (by decide)
            show Go p.tables e below Pf (T72.setTop (mkF m 133 #[.val (.long jid), .second, .val (.int ik), .val (.int ifl), .val (.int ((ik &&& (2147483647 : Int32)) % (3 : Int32))), .val (.ref w56_0), .val (.int w58_0), .val (.int w60_0), .val (.int w62_0), .val (.int w64_0), .unset, .unset] [(.ref b72), (.ref b70), (.int w64_0), (.int w62_0), (.int w60_0), (.int w58_0), (.ref w56_0), (.ref b68), (.ref b66), .null, (.long jid), (.ref b65), (.ref b65)]))
            refine Go.by' (fun t k => (XS.dup X72.here hx rfl (hb hby at_133) rfl rfl k)) ?_
            show Go p.tables e below Pf (T72.setTop (mkF m 134 #[.val (.long jid), .second, .val (.int ik), .val (.int ifl), .val (.int ((ik &&& (2147483647 : Int32)) % (3 : Int32))), .val (.ref w56_0), .val (.int w58_0), .val (.int w60_0), .val (.int w62_0), .val (.int w64_0), .unset, .unset] [(.ref b72), (.ref b72), (.ref b70), (.int w64_0), (.int w62_0), (.int w60_0), (.int w58_0), (.ref w56_0), (.ref b68), (.ref b66), .null, (.long jid), (.ref b65), (.ref b65)]))
            obtain ⟨_, _, ⟨T73, L73, k73, n73⟩, -, X73, ⟨Lc73, hQ73, l73, y73, z73⟩, st73⟩ := X72.specialBack hx (y := (⟨"java/util/ArrayList", "<init>", "()V"⟩ : MethodName)) rfl hown (mvT hZ hw10) (mvT hZ hw11) (mvT hZ hw12) (by decide) (backOf (W := 14) (rmAL l Z a0 hw [] wN wR wW wD G b72 h72 n0 O72 A72 Fn72_29 Fn72_32 g_b72) hZ hw12 hw9 (by decide) (by decide)) (g := (mkF m 134 #[.val (.long jid), .second, .val (.int ik), .val (.int ifl), .val (.int ((ik &&& (2147483647 : Int32)) % (3 : Int32))), .val (.ref w56_0), .val (.int w58_0), .val (.int w60_0), .val (.int w62_0), .val (.int w64_0), .unset, .unset] [(.ref b72), (.ref b72), (.ref b70), (.int w64_0), (.int w62_0), (.int w60_0), (.int w58_0), (.ref w56_0), (.ref b68), (.ref b66), .null, (.long jid), (.ref b65), (.ref b65)])) rfl (by rw [hml]; rfl) (Steps.refl _) (a := b72) (argsL := []) (rest := [(.ref b72), (.ref b70), (.int w64_0), (.int w62_0), (.int w60_0), (.int w58_0), (.ref w56_0), (.ref b68), (.ref b66), .null, (.long jid), (.ref b65), (.ref b65)]) (lenOf pd_0 rfl) rfl (by show 2 * 0 + _ ≤ _; exact Nat.le_of_eq rfl) (hb hby at_134) (fun _ _ => ⟨rfl, e72, (by decide : 5 + 0 ≤ _), (by decide : 23 + 0 ≤ _)⟩)
            dsimp only [Pt.U, Pt.locs, Pt.cells, Pt.slots] at X73 l73 y73 z73 st73 hQ73
            subst l73 y73 z73
            obtain ⟨rfl, N73q, K73, f73_0, f73_1, f73_2⟩ := hQ73
            have N73 := Fr.app N71 N73q
            refine Go.by' (fun t k => st73.trans k) ?_
            have O73 := O72.keep K73 (allS g_b72 all0)
            have KC73 : Keep h0 T73.heap [] := KC72.trans K73 (allS (Or.inr sz_b72) all0)
            show Go p.tables e below Pf (T73.setTop (mkF m 137 #[.val (.long jid), .second, .val (.int ik), .val (.int ifl), .val (.int ((ik &&& (2147483647 : Int32)) % (3 : Int32))), .val (.ref w56_0), .val (.int w58_0), .val (.int w60_0), .val (.int w62_0), .val (.int w64_0), .unset, .unset] [(.ref b72), (.ref b70), (.int w64_0), (.int w62_0), (.int w60_0), (.int w58_0), (.ref w56_0), (.ref b68), (.ref b66), .null, (.long jid), (.ref b65), (.ref b65)]))
            have c75 := ((((((((A65.ext E66).keep K67).ext E68).keep K69).ext E70).keep K71).ext E72).keep K73)
            have c76 := ((((((((Fn65_43.ext E66).keep K67 (ninS (Nat.ne_of_lt (Nat.lt_of_lt_of_le A65.lt (Nat.le_of_eq g66.symm))) nin0)).ext E68).keep K69 (ninS (Nat.ne_of_lt (Nat.lt_of_lt_of_le (Nat.lt_of_lt_of_le A65.lt (Nat.le_trans E66.1 K67.1)) (Nat.le_of_eq g68.symm))) nin0)).ext E70).keep K71 (ninS (Nat.ne_of_lt (Nat.lt_of_lt_of_le (Nat.lt_of_lt_of_le A65.lt (Nat.le_trans E66.1 (Nat.le_trans K67.1 (Nat.le_trans E68.1 K69.1)))) (Nat.le_of_eq g70.symm))) nin0)).ext E72).keep K73 (ninS (Nat.ne_of_lt (Nat.lt_of_lt_of_le (Nat.lt_of_lt_of_le A65.lt (Nat.le_trans E66.1 (Nat.le_trans K67.1 (Nat.le_trans E68.1 (Nat.le_trans K69.1 (Nat.le_trans E70.1 K71.1)))))) (Nat.le_of_eq g72.symm))) nin0))
            have c77 := ((((((((Fn65_45.ext E66).keep K67 (ninS (Nat.ne_of_lt (Nat.lt_of_lt_of_le A65.lt (Nat.le_of_eq g66.symm))) nin0)).ext E68).keep K69 (ninS (Nat.ne_of_lt (Nat.lt_of_lt_of_le (Nat.lt_of_lt_of_le A65.lt (Nat.le_trans E66.1 K67.1)) (Nat.le_of_eq g68.symm))) nin0)).ext E70).keep K71 (ninS (Nat.ne_of_lt (Nat.lt_of_lt_of_le (Nat.lt_of_lt_of_le A65.lt (Nat.le_trans E66.1 (Nat.le_trans K67.1 (Nat.le_trans E68.1 K69.1)))) (Nat.le_of_eq g70.symm))) nin0)).ext E72).keep K73 (ninS (Nat.ne_of_lt (Nat.lt_of_lt_of_le (Nat.lt_of_lt_of_le A65.lt (Nat.le_trans E66.1 (Nat.le_trans K67.1 (Nat.le_trans E68.1 (Nat.le_trans K69.1 (Nat.le_trans E70.1 K71.1)))))) (Nat.le_of_eq g72.symm))) nin0))
            have c78 := ((((((((Fn65_47.ext E66).keep K67 (ninS (Nat.ne_of_lt (Nat.lt_of_lt_of_le A65.lt (Nat.le_of_eq g66.symm))) nin0)).ext E68).keep K69 (ninS (Nat.ne_of_lt (Nat.lt_of_lt_of_le (Nat.lt_of_lt_of_le A65.lt (Nat.le_trans E66.1 K67.1)) (Nat.le_of_eq g68.symm))) nin0)).ext E70).keep K71 (ninS (Nat.ne_of_lt (Nat.lt_of_lt_of_le (Nat.lt_of_lt_of_le A65.lt (Nat.le_trans E66.1 (Nat.le_trans K67.1 (Nat.le_trans E68.1 K69.1)))) (Nat.le_of_eq g70.symm))) nin0)).ext E72).keep K73 (ninS (Nat.ne_of_lt (Nat.lt_of_lt_of_le (Nat.lt_of_lt_of_le A65.lt (Nat.le_trans E66.1 (Nat.le_trans K67.1 (Nat.le_trans E68.1 (Nat.le_trans K69.1 (Nat.le_trans E70.1 K71.1)))))) (Nat.le_of_eq g72.symm))) nin0))
            have c79 := ((((((((Fn65_49.ext E66).keep K67 (ninS (Nat.ne_of_lt (Nat.lt_of_lt_of_le A65.lt (Nat.le_of_eq g66.symm))) nin0)).ext E68).keep K69 (ninS (Nat.ne_of_lt (Nat.lt_of_lt_of_le (Nat.lt_of_lt_of_le A65.lt (Nat.le_trans E66.1 K67.1)) (Nat.le_of_eq g68.symm))) nin0)).ext E70).keep K71 (ninS (Nat.ne_of_lt (Nat.lt_of_lt_of_le (Nat.lt_of_lt_of_le A65.lt (Nat.le_trans E66.1 (Nat.le_trans K67.1 (Nat.le_trans E68.1 K69.1)))) (Nat.le_of_eq g70.symm))) nin0)).ext E72).keep K73 (ninS (Nat.ne_of_lt (Nat.lt_of_lt_of_le (Nat.lt_of_lt_of_le A65.lt (Nat.le_trans E66.1 (Nat.le_trans K67.1 (Nat.le_trans E68.1 (Nat.le_trans K69.1 (Nat.le_trans E70.1 K71.1)))))) (Nat.le_of_eq g72.symm))) nin0))
            have c80 := ((((((((Fn65_51.ext E66).keep K67 (ninS (Nat.ne_of_lt (Nat.lt_of_lt_of_le A65.lt (Nat.le_of_eq g66.symm))) nin0)).ext E68).keep K69 (ninS (Nat.ne_of_lt (Nat.lt_of_lt_of_le (Nat.lt_of_lt_of_le A65.lt (Nat.le_trans E66.1 K67.1)) (Nat.le_of_eq g68.symm))) nin0)).ext E70).keep K71 (ninS (Nat.ne_of_lt (Nat.lt_of_lt_of_le (Nat.lt_of_lt_of_le A65.lt (Nat.le_trans E66.1 (Nat.le_trans K67.1 (Nat.le_trans E68.1 K69.1)))) (Nat.le_of_eq g70.symm))) nin0)).ext E72).keep K73 (ninS (Nat.ne_of_lt (Nat.lt_of_lt_of_le (Nat.lt_of_lt_of_le A65.lt (Nat.le_trans E66.1 (Nat.le_trans K67.1 (Nat.le_trans E68.1 (Nat.le_trans K69.1 (Nat.le_trans E70.1 K71.1)))))) (Nat.le_of_eq g72.symm))) nin0))
            have c81 := ((((((((Fn65_53.ext E66).keep K67 (ninS (Nat.ne_of_lt (Nat.lt_of_lt_of_le A65.lt (Nat.le_of_eq g66.symm))) nin0)).ext E68).keep K69 (ninS (Nat.ne_of_lt (Nat.lt_of_lt_of_le (Nat.lt_of_lt_of_le A65.lt (Nat.le_trans E66.1 K67.1)) (Nat.le_of_eq g68.symm))) nin0)).ext E70).keep K71 (ninS (Nat.ne_of_lt (Nat.lt_of_lt_of_le (Nat.lt_of_lt_of_le A65.lt (Nat.le_trans E66.1 (Nat.le_trans K67.1 (Nat.le_trans E68.1 K69.1)))) (Nat.le_of_eq g70.symm))) nin0)).ext E72).keep K73 (ninS (Nat.ne_of_lt (Nat.lt_of_lt_of_le (Nat.lt_of_lt_of_le A65.lt (Nat.le_trans E66.1 (Nat.le_trans K67.1 (Nat.le_trans E68.1 (Nat.le_trans K69.1 (Nat.le_trans E70.1 K71.1)))))) (Nat.le_of_eq g72.symm))) nin0))
            have c82 := ((((((((Fn65_55.ext E66).keep K67 (ninS (Nat.ne_of_lt (Nat.lt_of_lt_of_le A65.lt (Nat.le_of_eq g66.symm))) nin0)).ext E68).keep K69 (ninS (Nat.ne_of_lt (Nat.lt_of_lt_of_le (Nat.lt_of_lt_of_le A65.lt (Nat.le_trans E66.1 K67.1)) (Nat.le_of_eq g68.symm))) nin0)).ext E70).keep K71 (ninS (Nat.ne_of_lt (Nat.lt_of_lt_of_le (Nat.lt_of_lt_of_le A65.lt (Nat.le_trans E66.1 (Nat.le_trans K67.1 (Nat.le_trans E68.1 K69.1)))) (Nat.le_of_eq g70.symm))) nin0)).ext E72).keep K73 (ninS (Nat.ne_of_lt (Nat.lt_of_lt_of_le (Nat.lt_of_lt_of_le A65.lt (Nat.le_trans E66.1 (Nat.le_trans K67.1 (Nat.le_trans E68.1 (Nat.le_trans K69.1 (Nat.le_trans E70.1 K71.1)))))) (Nat.le_of_eq g72.symm))) nin0))
            have c83 := ((((((((Fn65_57.ext E66).keep K67 (ninS (Nat.ne_of_lt (Nat.lt_of_lt_of_le A65.lt (Nat.le_of_eq g66.symm))) nin0)).ext E68).keep K69 (ninS (Nat.ne_of_lt (Nat.lt_of_lt_of_le (Nat.lt_of_lt_of_le A65.lt (Nat.le_trans E66.1 K67.1)) (Nat.le_of_eq g68.symm))) nin0)).ext E70).keep K71 (ninS (Nat.ne_of_lt (Nat.lt_of_lt_of_le (Nat.lt_of_lt_of_le A65.lt (Nat.le_trans E66.1 (Nat.le_trans K67.1 (Nat.le_trans E68.1 K69.1)))) (Nat.le_of_eq g70.symm))) nin0)).ext E72).keep K73 (ninS (Nat.ne_of_lt (Nat.lt_of_lt_of_le (Nat.lt_of_lt_of_le A65.lt (Nat.le_trans E66.1 (Nat.le_trans K67.1 (Nat.le_trans E68.1 (Nat.le_trans K69.1 (Nat.le_trans E70.1 K71.1)))))) (Nat.le_of_eq g72.symm))) nin0))
            have c84 := ((((((((Fn65_59.ext E66).keep K67 (ninS (Nat.ne_of_lt (Nat.lt_of_lt_of_le A65.lt (Nat.le_of_eq g66.symm))) nin0)).ext E68).keep K69 (ninS (Nat.ne_of_lt (Nat.lt_of_lt_of_le (Nat.lt_of_lt_of_le A65.lt (Nat.le_trans E66.1 K67.1)) (Nat.le_of_eq g68.symm))) nin0)).ext E70).keep K71 (ninS (Nat.ne_of_lt (Nat.lt_of_lt_of_le (Nat.lt_of_lt_of_le A65.lt (Nat.le_trans E66.1 (Nat.le_trans K67.1 (Nat.le_trans E68.1 K69.1)))) (Nat.le_of_eq g70.symm))) nin0)).ext E72).keep K73 (ninS (Nat.ne_of_lt (Nat.lt_of_lt_of_le (Nat.lt_of_lt_of_le A65.lt (Nat.le_trans E66.1 (Nat.le_trans K67.1 (Nat.le_trans E68.1 (Nat.le_trans K69.1 (Nat.le_trans E70.1 K71.1)))))) (Nat.le_of_eq g72.symm))) nin0))
            have c85 := ((((((((Fn65_61.ext E66).keep K67 (ninS (Nat.ne_of_lt (Nat.lt_of_lt_of_le A65.lt (Nat.le_of_eq g66.symm))) nin0)).ext E68).keep K69 (ninS (Nat.ne_of_lt (Nat.lt_of_lt_of_le (Nat.lt_of_lt_of_le A65.lt (Nat.le_trans E66.1 K67.1)) (Nat.le_of_eq g68.symm))) nin0)).ext E70).keep K71 (ninS (Nat.ne_of_lt (Nat.lt_of_lt_of_le (Nat.lt_of_lt_of_le A65.lt (Nat.le_trans E66.1 (Nat.le_trans K67.1 (Nat.le_trans E68.1 K69.1)))) (Nat.le_of_eq g70.symm))) nin0)).ext E72).keep K73 (ninS (Nat.ne_of_lt (Nat.lt_of_lt_of_le (Nat.lt_of_lt_of_le A65.lt (Nat.le_trans E66.1 (Nat.le_trans K67.1 (Nat.le_trans E68.1 (Nat.le_trans K69.1 (Nat.le_trans E70.1 K71.1)))))) (Nat.le_of_eq g72.symm))) nin0))
            have c86 := ((((((((Fn65_63.ext E66).keep K67 (ninS (Nat.ne_of_lt (Nat.lt_of_lt_of_le A65.lt (Nat.le_of_eq g66.symm))) nin0)).ext E68).keep K69 (ninS (Nat.ne_of_lt (Nat.lt_of_lt_of_le (Nat.lt_of_lt_of_le A65.lt (Nat.le_trans E66.1 K67.1)) (Nat.le_of_eq g68.symm))) nin0)).ext E70).keep K71 (ninS (Nat.ne_of_lt (Nat.lt_of_lt_of_le (Nat.lt_of_lt_of_le A65.lt (Nat.le_trans E66.1 (Nat.le_trans K67.1 (Nat.le_trans E68.1 K69.1)))) (Nat.le_of_eq g70.symm))) nin0)).ext E72).keep K73 (ninS (Nat.ne_of_lt (Nat.lt_of_lt_of_le (Nat.lt_of_lt_of_le A65.lt (Nat.le_trans E66.1 (Nat.le_trans K67.1 (Nat.le_trans E68.1 (Nat.le_trans K69.1 (Nat.le_trans E70.1 K71.1)))))) (Nat.le_of_eq g72.symm))) nin0))
            obtain ⟨_, _, ⟨T74, L74, k74, n74⟩, -, X74, ⟨Lc74, hQ74, l74, y74, z74⟩, st74⟩ := X73.specialBack hx (y := (⟨"com/example/slatewipe/slatewipe/vendors/postgresql/Changes$Copy", "<init>", "(JLcom/example/slatewipe/slatewipe/Table;Ljava/util/List;Ljava/util/List;Lcom/example/slatewipe/slatewipe/vendors/postgresql/Changes$Noted;ZZZZLjava/util/List;Ljava/util/List;)V"⟩ : MethodName)) rfl hown (mvT hZ hw33) (mvT hZ hw34) (mvT hZ hw35) (by decide) (backOf (W := 1) (rmCopy l Z a0 hw [] wN wR wW wD G b65 jid b66 b68 w56_0 w58_0 w60_0 w62_0 w64_0 b70 b72 T73.heap n0 O73 c75 c76 c77 c78 c79 c80 c81 c82 c83 c84 c85 c86 g_b65 bw58_0 bw60_0 bw62_0 bw64_0) hZ hw35 hw6 (by decide) (by decide)) (g := (mkF m 137 #[.val (.long jid), .second, .val (.int ik), .val (.int ifl), .val (.int ((ik &&& (2147483647 : Int32)) % (3 : Int32))), .val (.ref w56_0), .val (.int w58_0), .val (.int w60_0), .val (.int w62_0), .val (.int w64_0), .unset, .unset] [(.ref b72), (.ref b70), (.int w64_0), (.int w62_0), (.int w60_0), (.int w58_0), (.ref w56_0), (.ref b68), (.ref b66), .null, (.long jid), (.ref b65), (.ref b65)])) rfl (by rw [hml]; rfl) (Steps.refl _) (a := b65) (argsL := [(.long jid), .null, (.ref b66), (.ref b68), (.ref w56_0), (.int w58_0), (.int w60_0), (.int w62_0), (.int w64_0), (.ref b70), (.ref b72)]) (rest := [(.ref b65)]) (lenOf pd_1 rfl) rfl (by show 2 * 0 + _ ≤ _; exact Nat.le_of_eq rfl) (hb hby at_137) (fun _ _ => ⟨rfl, rfl, (by decide : 5 + 0 ≤ _), (by decide : 23 + 0 ≤ _)⟩)
            dsimp only [Pt.U, Pt.locs, Pt.cells, Pt.slots] at X74 l74 y74 z74 st74 hQ74
            subst l74 y74 z74
            obtain ⟨rfl, N74q, K74, f74_0, f74_1, f74_2, f74_3⟩ := hQ74
            have N74 := Fr.app N73 N74q
            refine Go.by' (fun t k => st74.trans k) ?_
            have O74 := O73.keep K74 (allS g_b65 all0)
            have KC74 : Keep h0 T74.heap [] := KC73.trans K74 (allS (Or.inr sz_b65) all0)
            show Go p.tables e below Pf (T74.setTop (mkF m 140 #[.val (.long jid), .second, .val (.int ik), .val (.int ifl), .val (.int ((ik &&& (2147483647 : Int32)) % (3 : Int32))), .val (.ref w56_0), .val (.int w58_0), .val (.int w60_0), .val (.int w62_0), .val (.int w64_0), .unset, .unset] [(.ref b65)]))
            refine Go.by' (fun t k => (XS.astore X74.here hx rfl (hb hby at_140) rfl rfl (l' := #[.val (.long jid), .second, .val (.int ik), .val (.int ifl), .val (.int ((ik &&& (2147483647 : Int32)) % (3 : Int32))), .val (.ref w56_0), .val (.int w58_0), .val (.int w60_0), .val (.int w62_0), .val (.int w64_0), .val (.ref b65), .unset]) rfl (XS.iload X74.here hx rfl (hb hby at_142) rfl k))) ?_
            show Go p.tables e below Pf (T74.setTop (mkF m 144 #[.val (.long jid), .second, .val (.int ik), .val (.int ifl), .val (.int ((ik &&& (2147483647 : Int32)) % (3 : Int32))), .val (.ref w56_0), .val (.int w58_0), .val (.int w60_0), .val (.int w62_0), .val (.int w64_0), .val (.ref b65), .unset] [(.int w64_0)]))
            have jn90 : ∀ (T' : State) (w90_0 : Int32), Like X74 T' → T'.heap = T74.heap → ((w64_0 = (0 : Int32) ∧ ((ik &&& (2147483647 : Int32)) % (3 : Int32)) = (1 : Int32) ∧ w90_0 = (1 : Int32)) ∨ (w64_0 = (0 : Int32) ∧ ¬ (((ik &&& (2147483647 : Int32)) % (3 : Int32)) = (1 : Int32)) ∧ w62_0 = (0 : Int32) ∧ w90_0 = (1 : Int32)) ∨ (w64_0 = (0 : Int32) ∧ ¬ (((ik &&& (2147483647 : Int32)) % (3 : Int32)) = (1 : Int32)) ∧ ¬ (w62_0 = (0 : Int32)) ∧ w90_0 = (0 : Int32)) ∨ (¬ (w64_0 = (0 : Int32)) ∧ w90_0 = (0 : Int32))) → Go p.tables e below Pf (T'.setTop (mkF m 179 #[.val (.long jid), .second, .val (.int ik), .val (.int ifl), .val (.int ((ik &&& (2147483647 : Int32)) % (3 : Int32))), .val (.ref w56_0), .val (.int w58_0), .val (.int w60_0), .val (.int w62_0), .val (.int w64_0), .val (.ref b65), .val (.int w90_0)] [])) := by
              intro T90 w90_0 X90 e90 hm90
              unfold Like at X90
              have bw90_0 : w90_0 = 0 ∨ w90_0 = 1 := by rcases hm90 with ⟨_, _, h⟩ | ⟨_, _, _, h⟩ | ⟨_, _, _, h⟩ | ⟨_, h⟩ <;> first | exact Or.inl h | exact Or.inr h
              show Go p.tables e below Pf (T90.setTop (mkF m 179 #[.val (.long jid), .second, .val (.int ik), .val (.int ifl), .val (.int ((ik &&& (2147483647 : Int32)) % (3 : Int32))), .val (.ref w56_0), .val (.int w58_0), .val (.int w60_0), .val (.int w62_0), .val (.int w64_0), .val (.ref b65), .val (.int w90_0)] []))
              refine Go.by' (fun t k => (XS.aload X90.here hx rfl (hb hby at_179) rfl rfl k)) ?_
              show Go p.tables e below Pf (T90.setTop (mkF m 181 #[.val (.long jid), .second, .val (.int ik), .val (.int ifl), .val (.int ((ik &&& (2147483647 : Int32)) % (3 : Int32))), .val (.ref w56_0), .val (.int w58_0), .val (.int w60_0), .val (.int w62_0), .val (.int w64_0), .val (.ref b65), .val (.int w90_0)] [(.ref b65)]))
              obtain ⟨cq91, kq91, q91a, q91b, q91c⟩ := isOf hZ e90 f74_0
              obtain ⟨_, _, ⟨T91, L91, k91, n91⟩, -, X91, ⟨Lc91, hQ91, l91, y91, z91⟩, st91⟩ := X90.virtualBack hx (y := (⟨"com/example/slatewipe/slatewipe/vendors/postgresql/Changes$Copy", "restorableInPlace", "()Z"⟩ : MethodName)) (z := (⟨"com/example/slatewipe/slatewipe/vendors/postgresql/Changes$Copy", "restorableInPlace", "()Z"⟩ : MethodName)) hown (mvT hZ hw64) (mvT hZ hw65) (notFace_of_selects (args := #[]) (mvT hZ hw67)) (mvT hZ hw67) (mvT hZ hw66) (by decide) (backOf (W := 0) (rmRI l Z a0 hw [] wN wR wW wD G b65 w56_0 w62_0 w64_0 T74.heap n0 O74 f74_1 f74_2 f74_3) hZ hw68 hw6 (by decide) (by decide)) q91a q91c (g := (mkF m 181 #[.val (.long jid), .second, .val (.int ik), .val (.int ifl), .val (.int ((ik &&& (2147483647 : Int32)) % (3 : Int32))), .val (.ref w56_0), .val (.int w58_0), .val (.int w60_0), .val (.int w62_0), .val (.int w64_0), .val (.ref b65), .val (.int w90_0)] [(.ref b65)])) rfl (by rw [hml]; rfl) (Steps.refl _) (argsL := []) (rest := []) (lenOf pd_2 rfl) rfl (by show 2 * 0 + _ ≤ _; exact Nat.le_of_eq rfl) (hb hby at_181) (fun _ _ => ⟨rfl, e90, (by decide : 5 + 0 ≤ _), (by decide : 23 + 0 ≤ _)⟩)
              dsimp only [Pt.U, Pt.locs, Pt.cells, Pt.slots] at X91 l91 y91 z91 st91 hQ91
              subst l91 y91 z91
              obtain ⟨r_91, rfl, rfl, e91, r91_0⟩ := hQ91
              try rw [List.append_nil] at X91
              refine Go.by' (fun t k => st91.trans k) ?_
              obtain rfl : w90_0 = r_91 := by
                exact own_fin G.2.2.2.2.2.2.1 G.2.2.2.2.2.2.2.1 hm56 hm90 r91_0
              show Go p.tables e below Pf (T91.setTop (mkF m 184 #[.val (.long jid), .second, .val (.int ik), .val (.int ifl), .val (.int ((ik &&& (2147483647 : Int32)) % (3 : Int32))), .val (.ref w56_0), .val (.int w58_0), .val (.int w60_0), .val (.int w62_0), .val (.int w64_0), .val (.ref b65), .val (.int w90_0)] [(.int w90_0)]))
              refine Go.by' (fun t k => (XS.iload X91.here hx rfl (hb hby at_184) rfl (XS.icmpNo X91.here hx rfl (hb hby at_186) rfl (teq rfl).2 (XS.iconst X91.here hx rfl (hb hby at_189) (XS.goto X91.here hx rfl (pc0 := 190) (pc' := 194) rfl (hb hby at_190) (by decide) (by decide) k))))) ?_
              show Go p.tables e below Pf (T91.setTop (mkF m 194 #[.val (.long jid), .second, .val (.int ik), .val (.int ifl), .val (.int ((ik &&& (2147483647 : Int32)) % (3 : Int32))), .val (.ref w56_0), .val (.int w58_0), .val (.int w60_0), .val (.int w62_0), .val (.int w64_0), .val (.ref b65), .val (.int w90_0)] [(.int (1 : Int32))]))
              rw [hPf]
              exact Go.retI' X91 hx hret hlk (by simp) rfl (hb hby at_194) (by decide) (by decide) ⟨rfl, N74, (by rw [e91]; exact KC74)⟩
            by_cases hc92 : w64_0 = (0 : Int32)
            · refine Go.by' (fun t k => (XS.ifYes X74.here hx rfl (pc0 := 144) (pc' := 153) rfl (hb hby at_144) rfl ((if0 _ _).trans (teq hc92).1) (by decide) (by decide) (XS.iload X74.here hx rfl (hb hby at_153) rfl (XS.iconst X74.here hx rfl (hb hby at_155) k)))) ?_
              show Go p.tables e below Pf (T74.setTop (mkF m 156 #[.val (.long jid), .second, .val (.int ik), .val (.int ifl), .val (.int ((ik &&& (2147483647 : Int32)) % (3 : Int32))), .val (.ref w56_0), .val (.int w58_0), .val (.int w60_0), .val (.int w62_0), .val (.int w64_0), .val (.ref b65), .unset] [(.int (1 : Int32)), (.int ((ik &&& (2147483647 : Int32)) % (3 : Int32)))]))
              by_cases hc93 : ((ik &&& (2147483647 : Int32)) % (3 : Int32)) = (1 : Int32)
              · refine Go.by' (fun t k => (XS.icmpNo X74.here hx rfl (hb hby at_156) rfl (teq hc93).2 (XS.iconst X74.here hx rfl (hb hby at_159) (XS.istore X74.here hx rfl (hb hby at_160) rfl (l' := #[.val (.long jid), .second, .val (.int ik), .val (.int ifl), .val (.int ((ik &&& (2147483647 : Int32)) % (3 : Int32))), .val (.ref w56_0), .val (.int w58_0), .val (.int w60_0), .val (.int w62_0), .val (.int w64_0), .val (.ref b65), .val (.int (1 : Int32))]) rfl (XS.goto X74.here hx rfl (pc0 := 162) (pc' := 179) rfl (hb hby at_162) (by decide) (by decide) k))))) ?_
                show Go p.tables e below Pf (T74.setTop (mkF m 179 #[.val (.long jid), .second, .val (.int ik), .val (.int ifl), .val (.int ((ik &&& (2147483647 : Int32)) % (3 : Int32))), .val (.ref w56_0), .val (.int w58_0), .val (.int w60_0), .val (.int w62_0), .val (.int w64_0), .val (.ref b65), .val (.int (1 : Int32))] []))
                exact jn90 T74 ((1 : Int32)) X74 rfl  (Or.inl ⟨hc92, hc93, rfl⟩)
              · refine Go.by' (fun t k => (XS.icmpYes X74.here hx rfl (pc0 := 156) (pc' := 165) rfl (hb hby at_156) rfl (feq hc93).2 (by decide) (by decide) (XS.iload X74.here hx rfl (hb hby at_165) rfl k))) ?_
                show Go p.tables e below Pf (T74.setTop (mkF m 167 #[.val (.long jid), .second, .val (.int ik), .val (.int ifl), .val (.int ((ik &&& (2147483647 : Int32)) % (3 : Int32))), .val (.ref w56_0), .val (.int w58_0), .val (.int w60_0), .val (.int w62_0), .val (.int w64_0), .val (.ref b65), .unset] [(.int w62_0)]))
                by_cases hc94 : w62_0 = (0 : Int32)
                · refine Go.by' (fun t k => (XS.ifYes X74.here hx rfl (pc0 := 167) (pc' := 176) rfl (hb hby at_167) rfl ((if0 _ _).trans (teq hc94).1) (by decide) (by decide) (XS.iconst X74.here hx rfl (hb hby at_176) (XS.istore X74.here hx rfl (hb hby at_177) rfl (l' := #[.val (.long jid), .second, .val (.int ik), .val (.int ifl), .val (.int ((ik &&& (2147483647 : Int32)) % (3 : Int32))), .val (.ref w56_0), .val (.int w58_0), .val (.int w60_0), .val (.int w62_0), .val (.int w64_0), .val (.ref b65), .val (.int (1 : Int32))]) rfl k)))) ?_
                  show Go p.tables e below Pf (T74.setTop (mkF m 179 #[.val (.long jid), .second, .val (.int ik), .val (.int ifl), .val (.int ((ik &&& (2147483647 : Int32)) % (3 : Int32))), .val (.ref w56_0), .val (.int w58_0), .val (.int w60_0), .val (.int w62_0), .val (.int w64_0), .val (.ref b65), .val (.int (1 : Int32))] []))
                  exact jn90 T74 ((1 : Int32)) X74 rfl  (Or.inr (Or.inl ⟨hc92, hc93, hc94, rfl⟩))
                · refine Go.by' (fun t k => (XS.ifNo X74.here hx rfl (hb hby at_167) rfl ((if0 _ _).trans (feq hc94).1) (XS.iconst X74.here hx rfl (hb hby at_170) (XS.istore X74.here hx rfl (hb hby at_171) rfl (l' := #[.val (.long jid), .second, .val (.int ik), .val (.int ifl), .val (.int ((ik &&& (2147483647 : Int32)) % (3 : Int32))), .val (.ref w56_0), .val (.int w58_0), .val (.int w60_0), .val (.int w62_0), .val (.int w64_0), .val (.ref b65), .val (.int (0 : Int32))]) rfl (XS.goto X74.here hx rfl (pc0 := 173) (pc' := 179) rfl (hb hby at_173) (by decide) (by decide) k))))) ?_
                  show Go p.tables e below Pf (T74.setTop (mkF m 179 #[.val (.long jid), .second, .val (.int ik), .val (.int ifl), .val (.int ((ik &&& (2147483647 : Int32)) % (3 : Int32))), .val (.ref w56_0), .val (.int w58_0), .val (.int w60_0), .val (.int w62_0), .val (.int w64_0), .val (.ref b65), .val (.int (0 : Int32))] []))
                  exact jn90 T74 ((0 : Int32)) X74 rfl  (Or.inr (Or.inr (Or.inl ⟨hc92, hc93, hc94, rfl⟩)))
            · refine Go.by' (fun t k => (XS.ifNo X74.here hx rfl (hb hby at_144) rfl ((if0 _ _).trans (feq hc92).1) (XS.iconst X74.here hx rfl (hb hby at_147) (XS.istore X74.here hx rfl (hb hby at_148) rfl (l' := #[.val (.long jid), .second, .val (.int ik), .val (.int ifl), .val (.int ((ik &&& (2147483647 : Int32)) % (3 : Int32))), .val (.ref w56_0), .val (.int w58_0), .val (.int w60_0), .val (.int w62_0), .val (.int w64_0), .val (.ref b65), .val (.int (0 : Int32))]) rfl (XS.goto X74.here hx rfl (pc0 := 150) (pc' := 179) rfl (hb hby at_150) (by decide) (by decide) k))))) ?_
              show Go p.tables e below Pf (T74.setTop (mkF m 179 #[.val (.long jid), .second, .val (.int ik), .val (.int ifl), .val (.int ((ik &&& (2147483647 : Int32)) % (3 : Int32))), .val (.ref w56_0), .val (.int w58_0), .val (.int w60_0), .val (.int w62_0), .val (.int w64_0), .val (.ref b65), .val (.int (0 : Int32))] []))
              exact jn90 T74 ((0 : Int32)) X74 rfl  (Or.inr (Or.inr (Or.inr ⟨hc92, rfl⟩)))
          by_cases hc95 : (ifl &&& (8 : Int32)) = (0 : Int32)
          · refine Go.by' (fun t k => (XS.ifYes X62.here hx rfl (pc0 := 83) (pc' := 90) rfl (hb hby at_83) rfl ((if0 _ _).trans (teq hc95).1) (by decide) (by decide) (XS.iconst X62.here hx rfl (hb hby at_90) k))) ?_
            show Go p.tables e below Pf (T62.setTop (mkF m 91 #[.val (.long jid), .second, .val (.int ik), .val (.int ifl), .val (.int ((ik &&& (2147483647 : Int32)) % (3 : Int32))), .val (.ref w56_0), .val (.int w58_0), .val (.int w60_0), .val (.int w62_0), .unset, .unset, .unset] [(.int (0 : Int32))]))
            exact jn64 T62 ((0 : Int32)) X62 e62  (Or.inl ⟨hc95, rfl⟩)
          · refine Go.by' (fun t k => (XS.ifNo X62.here hx rfl (hb hby at_83) rfl ((if0 _ _).trans (feq hc95).1) (XS.iconst X62.here hx rfl (hb hby at_86) (XS.goto X62.here hx rfl (pc0 := 87) (pc' := 91) rfl (hb hby at_87) (by decide) (by decide) k)))) ?_
            show Go p.tables e below Pf (T62.setTop (mkF m 91 #[.val (.long jid), .second, .val (.int ik), .val (.int ifl), .val (.int ((ik &&& (2147483647 : Int32)) % (3 : Int32))), .val (.ref w56_0), .val (.int w58_0), .val (.int w60_0), .val (.int w62_0), .unset, .unset, .unset] [(.int (1 : Int32))]))
            exact jn64 T62 ((1 : Int32)) X62 e62  (Or.inr ⟨hc95, rfl⟩)
        by_cases hc96 : (ifl &&& (4 : Int32)) = (0 : Int32)
        · refine Go.by' (fun t k => (XS.ifYes X60.here hx rfl (pc0 := 69) (pc' := 76) rfl (hb hby at_69) rfl ((if0 _ _).trans (teq hc96).1) (by decide) (by decide) (XS.iconst X60.here hx rfl (hb hby at_76) k))) ?_
          show Go p.tables e below Pf (T60.setTop (mkF m 77 #[.val (.long jid), .second, .val (.int ik), .val (.int ifl), .val (.int ((ik &&& (2147483647 : Int32)) % (3 : Int32))), .val (.ref w56_0), .val (.int w58_0), .val (.int w60_0), .unset, .unset, .unset, .unset] [(.int (0 : Int32))]))
          exact jn62 T60 ((0 : Int32)) X60 e60  (Or.inl ⟨hc96, rfl⟩)
        · refine Go.by' (fun t k => (XS.ifNo X60.here hx rfl (hb hby at_69) rfl ((if0 _ _).trans (feq hc96).1) (XS.iconst X60.here hx rfl (hb hby at_72) (XS.goto X60.here hx rfl (pc0 := 73) (pc' := 77) rfl (hb hby at_73) (by decide) (by decide) k)))) ?_
          show Go p.tables e below Pf (T60.setTop (mkF m 77 #[.val (.long jid), .second, .val (.int ik), .val (.int ifl), .val (.int ((ik &&& (2147483647 : Int32)) % (3 : Int32))), .val (.ref w56_0), .val (.int w58_0), .val (.int w60_0), .unset, .unset, .unset, .unset] [(.int (1 : Int32))]))
          exact jn62 T60 ((1 : Int32)) X60 e60  (Or.inr ⟨hc96, rfl⟩)
      by_cases hc97 : (ifl &&& (2 : Int32)) = (0 : Int32)
      · refine Go.by' (fun t k => (XS.ifYes X58.here hx rfl (pc0 := 56) (pc' := 63) rfl (hb hby at_56) rfl ((if0 _ _).trans (teq hc97).1) (by decide) (by decide) (XS.iconst X58.here hx rfl (hb hby at_63) k))) ?_
        show Go p.tables e below Pf (T58.setTop (mkF m 64 #[.val (.long jid), .second, .val (.int ik), .val (.int ifl), .val (.int ((ik &&& (2147483647 : Int32)) % (3 : Int32))), .val (.ref w56_0), .val (.int w58_0), .unset, .unset, .unset, .unset, .unset] [(.int (0 : Int32))]))
        exact jn60 T58 ((0 : Int32)) X58 e58  (Or.inl ⟨hc97, rfl⟩)
      · refine Go.by' (fun t k => (XS.ifNo X58.here hx rfl (hb hby at_56) rfl ((if0 _ _).trans (feq hc97).1) (XS.iconst X58.here hx rfl (hb hby at_59) (XS.goto X58.here hx rfl (pc0 := 60) (pc' := 64) rfl (hb hby at_60) (by decide) (by decide) k)))) ?_
        show Go p.tables e below Pf (T58.setTop (mkF m 64 #[.val (.long jid), .second, .val (.int ik), .val (.int ifl), .val (.int ((ik &&& (2147483647 : Int32)) % (3 : Int32))), .val (.ref w56_0), .val (.int w58_0), .unset, .unset, .unset, .unset, .unset] [(.int (1 : Int32))]))
        exact jn60 T58 ((1 : Int32)) X58 e58  (Or.inr ⟨hc97, rfl⟩)
    by_cases hc98 : (ifl &&& (1 : Int32)) = (0 : Int32)
    · refine Go.by' (fun t k => (XS.ifYes X56.here hx rfl (pc0 := 43) (pc' := 50) rfl (hb hby at_43) rfl ((if0 _ _).trans (teq hc98).1) (by decide) (by decide) (XS.iconst X56.here hx rfl (hb hby at_50) k))) ?_
      show Go p.tables e below Pf (T56.setTop (mkF m 51 #[.val (.long jid), .second, .val (.int ik), .val (.int ifl), .val (.int ((ik &&& (2147483647 : Int32)) % (3 : Int32))), .val (.ref w56_0), .unset, .unset, .unset, .unset, .unset, .unset] [(.int (0 : Int32))]))
      exact jn58 T56 ((0 : Int32)) X56 e56  (Or.inl ⟨hc98, rfl⟩)
    · refine Go.by' (fun t k => (XS.ifNo X56.here hx rfl (hb hby at_43) rfl ((if0 _ _).trans (feq hc98).1) (XS.iconst X56.here hx rfl (hb hby at_46) (XS.goto X56.here hx rfl (pc0 := 47) (pc' := 51) rfl (hb hby at_47) (by decide) (by decide) k)))) ?_
      show Go p.tables e below Pf (T56.setTop (mkF m 51 #[.val (.long jid), .second, .val (.int ik), .val (.int ifl), .val (.int ((ik &&& (2147483647 : Int32)) % (3 : Int32))), .val (.ref w56_0), .unset, .unset, .unset, .unset, .unset, .unset] [(.int (1 : Int32))]))
      exact jn58 T56 ((1 : Int32)) X56 e56  (Or.inr ⟨hc98, rfl⟩)
  by_cases hc99 : ((ik &&& (2147483647 : Int32)) % (3 : Int32)) = (0 : Int32)
  · refine Go.by' (fun t k => (XS.ifNo X0.here hx rfl (hb hby at_10) rfl ((if0 _ _).trans (teq hc99).2) k)) ?_
    show Go p.tables e below Pf (s₁.setTop (mkF m 13 #[.val (.long jid), .second, .val (.int ik), .val (.int ifl), .val (.int ((ik &&& (2147483647 : Int32)) % (3 : Int32))), .unset, .unset, .unset, .unset, .unset, .unset, .unset] []))
    obtain ⟨T100, X100, e100, st100⟩ := getS2 X0 hx hZ hown (host := "") (Or.inl hw72) Via.refl e0 (G.1.ext O0.2) (g := (mkF m 13 #[.val (.long jid), .second, .val (.int ik), .val (.int ifl), .val (.int ((ik &&& (2147483647 : Int32)) % (3 : Int32))), .unset, .unset, .unset, .unset, .unset, .unset, .unset] [])) rfl (hb hby at_13)
    refine Go.by' st100 ?_
    show Go p.tables e below Pf (T100.setTop (mkF m 16 #[.val (.long jid), .second, .val (.int ik), .val (.int ifl), .val (.int ((ik &&& (2147483647 : Int32)) % (3 : Int32))), .unset, .unset, .unset, .unset, .unset, .unset, .unset] [(.ref wN)]))
    refine Go.by' (fun t k => (XS.astore X100.here hx rfl (hb hby at_16) rfl rfl (l' := #[.val (.long jid), .second, .val (.int ik), .val (.int ifl), .val (.int ((ik &&& (2147483647 : Int32)) % (3 : Int32))), .val (.ref wN), .unset, .unset, .unset, .unset, .unset, .unset]) rfl (XS.goto X100.here hx rfl (pc0 := 18) (pc' := 40) rfl (hb hby at_18) (by decide) (by decide) k))) ?_
    show Go p.tables e below Pf (T100.setTop (mkF m 40 #[.val (.long jid), .second, .val (.int ik), .val (.int ifl), .val (.int ((ik &&& (2147483647 : Int32)) % (3 : Int32))), .val (.ref wN), .unset, .unset, .unset, .unset, .unset, .unset] []))
    exact jn56 T100 (wN) X100 e100  (Or.inl ⟨hc99, rfl⟩)
  · refine Go.by' (fun t k => (XS.ifYes X0.here hx rfl (pc0 := 10) (pc' := 21) rfl (hb hby at_10) rfl ((if0 _ _).trans (feq hc99).2) (by decide) (by decide) (XS.iload X0.here hx rfl (hb hby at_21) rfl (XS.iconst X0.here hx rfl (hb hby at_23) k)))) ?_
    show Go p.tables e below Pf (s₁.setTop (mkF m 24 #[.val (.long jid), .second, .val (.int ik), .val (.int ifl), .val (.int ((ik &&& (2147483647 : Int32)) % (3 : Int32))), .unset, .unset, .unset, .unset, .unset, .unset, .unset] [(.int (1 : Int32)), (.int ((ik &&& (2147483647 : Int32)) % (3 : Int32)))]))
    by_cases hc101 : ((ik &&& (2147483647 : Int32)) % (3 : Int32)) = (1 : Int32)
    · refine Go.by' (fun t k => (XS.icmpNo X0.here hx rfl (hb hby at_24) rfl (teq hc101).2 k)) ?_
      show Go p.tables e below Pf (s₁.setTop (mkF m 27 #[.val (.long jid), .second, .val (.int ik), .val (.int ifl), .val (.int ((ik &&& (2147483647 : Int32)) % (3 : Int32))), .unset, .unset, .unset, .unset, .unset, .unset, .unset] []))
      obtain ⟨T102, X102, e102, st102⟩ := getS2 X0 hx hZ hown (host := "") (Or.inl hw71) Via.refl e0 (G.2.2.1.ext O0.2) (g := (mkF m 27 #[.val (.long jid), .second, .val (.int ik), .val (.int ifl), .val (.int ((ik &&& (2147483647 : Int32)) % (3 : Int32))), .unset, .unset, .unset, .unset, .unset, .unset, .unset] [])) rfl (hb hby at_27)
      refine Go.by' st102 ?_
      show Go p.tables e below Pf (T102.setTop (mkF m 30 #[.val (.long jid), .second, .val (.int ik), .val (.int ifl), .val (.int ((ik &&& (2147483647 : Int32)) % (3 : Int32))), .unset, .unset, .unset, .unset, .unset, .unset, .unset] [(.ref wR)]))
      refine Go.by' (fun t k => (XS.astore X102.here hx rfl (hb hby at_30) rfl rfl (l' := #[.val (.long jid), .second, .val (.int ik), .val (.int ifl), .val (.int ((ik &&& (2147483647 : Int32)) % (3 : Int32))), .val (.ref wR), .unset, .unset, .unset, .unset, .unset, .unset]) rfl (XS.goto X102.here hx rfl (pc0 := 32) (pc' := 40) rfl (hb hby at_32) (by decide) (by decide) k))) ?_
      show Go p.tables e below Pf (T102.setTop (mkF m 40 #[.val (.long jid), .second, .val (.int ik), .val (.int ifl), .val (.int ((ik &&& (2147483647 : Int32)) % (3 : Int32))), .val (.ref wR), .unset, .unset, .unset, .unset, .unset, .unset] []))
      exact jn56 T102 (wR) X102 e102  (Or.inr (Or.inl ⟨hc99, hc101, rfl⟩))
    · refine Go.by' (fun t k => (XS.icmpYes X0.here hx rfl (pc0 := 24) (pc' := 35) rfl (hb hby at_24) rfl (feq hc101).2 (by decide) (by decide) k)) ?_
      show Go p.tables e below Pf (s₁.setTop (mkF m 35 #[.val (.long jid), .second, .val (.int ik), .val (.int ifl), .val (.int ((ik &&& (2147483647 : Int32)) % (3 : Int32))), .unset, .unset, .unset, .unset, .unset, .unset, .unset] []))
      obtain ⟨T103, X103, e103, st103⟩ := getS2 X0 hx hZ hown (host := "") (Or.inl hw1) Via.refl e0 (G.2.2.2.2.1.ext O0.2) (g := (mkF m 35 #[.val (.long jid), .second, .val (.int ik), .val (.int ifl), .val (.int ((ik &&& (2147483647 : Int32)) % (3 : Int32))), .unset, .unset, .unset, .unset, .unset, .unset, .unset] [])) rfl (hb hby at_35)
      refine Go.by' st103 ?_
      show Go p.tables e below Pf (T103.setTop (mkF m 38 #[.val (.long jid), .second, .val (.int ik), .val (.int ifl), .val (.int ((ik &&& (2147483647 : Int32)) % (3 : Int32))), .unset, .unset, .unset, .unset, .unset, .unset, .unset] [(.ref wW)]))
      refine Go.by' (fun t k => (XS.astore X103.here hx rfl (hb hby at_38) rfl rfl (l' := #[.val (.long jid), .second, .val (.int ik), .val (.int ifl), .val (.int ((ik &&& (2147483647 : Int32)) % (3 : Int32))), .val (.ref wW), .unset, .unset, .unset, .unset, .unset, .unset]) rfl k)) ?_
      show Go p.tables e below Pf (T103.setTop (mkF m 40 #[.val (.long jid), .second, .val (.int ik), .val (.int ifl), .val (.int ((ik &&& (2147483647 : Int32)) % (3 : Int32))), .val (.ref wW), .unset, .unset, .unset, .unset, .unset, .unset] []))
      exact jn56 T103 (wW) X103 e103  (Or.inr (Or.inr ⟨hc99, hc101, rfl⟩))
set_option maxRecDepth 65536 in
set_option maxHeartbeats 40000000 in
theorem comes_1 {Post : Tables → Env → Array Value → State → Outcome → State → Prop} (hpost : ∀ tb e args s v u, (limb_1_1.after args s (.returned v) u = true ∧ limb_1_2.after args s (.returned v) u = true ∧ True) → FrameEnd s (.returned v) u (Jvm.fieldLocs frame_1_writes args s ++ Jvm.arrayLocs frame_1_arrays args s ++ Jvm.staticLocs frame_1_statics s) 24 128 → Post tb e args s (.returned v) u) :
    ArmFor flags0 classFile x code maxLocals ret World_1 tables_1 room_1 Calls_1 rest_1 Pre_1 Post := by
  intro l hfl _ _ p e ha hc hk s m args below hf hA hF happ hP
  obtain ⟨hcalls, hrest, hpre⟩ := hP
  obtain ⟨-, -, -, hnamed, -, -, -, hat⟩ := (Spec.applies_iff hf).mp happ
  obtain ⟨hg, hn⟩ := and_e (Cond.before_iff.mp (show (Jvm.Cond.and given_1 narrow_1).before args s = true from hpre))
  obtain ⟨ga1, gb1⟩ := and_e hg
  obtain ⟨ga2, gb2⟩ := and_e gb1
  obtain ⟨ga3, gb3⟩ := and_e gb2
  obtain ⟨w0, w1, w2, rfl⟩ : ∃ w0 w1 w2 : Value, args = #[w0, w1, w2] := by
    have hs : args.size = 3 := by simpa [Cond.value, given_1] using ga1
    obtain ⟨L⟩ := args
    match L, hs with
    | [w0, w1, w2], _ => exact ⟨w0, w1, w2, rfl⟩
  have hw := fun d (hd : d ∈ tables_1) => atoms_spec (ws := Jvm.Cond.code x code maxLocals ret :: tables_1) hat d (List.mem_cons_of_mem _ hd)
  have hfit : Fit s := fun {y c} hc i hi => by
    obtain ⟨ha, rfl⟩ := Array.getElem?_eq_some_iff.mp hc
    have q := List.all_eq_true.mp ((Array.all_eq_true_iff_forall_mem.mp hF) _ (Array.getElem_mem ha)) i (List.mem_range.mpr hi)
    simpa [Array.getElem?_eq_getElem hi] using q
  obtain ⟨hsets, hown0⟩ := atoms_of _ (rest_1_c_eq ▸ (show rest_1_c.before _ s = true from hrest))
  obtain ⟨jid, ei0⟩ := isL_v ga2
  obtain rfl : w0 = (.long jid) := Option.some.inj ei0
  obtain ⟨ik, ei1⟩ := is_v ga3
  obtain rfl : w1 = (.int ik) := Option.some.inj ei1
  obtain ⟨ifl, ei2⟩ := is_v gb3
  obtain rfl : w2 = (.int ifl) := Option.some.inj ei2
  obtain ⟨na1, nb1⟩ := and_e hn
  obtain ⟨na2, nb2⟩ := and_e nb1
  obtain ⟨na3, nb3⟩ := and_e nb2
  obtain ⟨na4, nb4⟩ := and_e nb3
  obtain ⟨na5, nb5⟩ := and_e nb4
  obtain ⟨wN, evwN⟩ := exa_v na5
  have SwN := Sta.start evwN (Or.inr ⟨(hw _ (List.mem_of_getElem? (i := 2) rfl)), (hw _ (List.mem_of_getElem? (i := 73) rfl))⟩)
  have AwN := Exa.start evwN na5
  have FwN := Fld.start ((fld_at evwN).symm.trans (eqv_i (Term.int_eval _) nb5))
  obtain ⟨wR, evwR⟩ := exa_v na2
  have SwR := Sta.start evwR (Or.inr ⟨(hw _ (List.mem_of_getElem? (i := 2) rfl)), (hw _ (List.mem_of_getElem? (i := 70) rfl))⟩)
  have AwR := Exa.start evwR na2
  have FwR := Fld.start ((fld_at evwR).symm.trans (eqv_i (Term.int_eval _) na4))
  obtain ⟨wW, evwW⟩ := exa_v na1
  have SwW := Sta.start evwW (Or.inr ⟨(hw _ (List.mem_of_getElem? (i := 2) rfl)), (hw _ (List.mem_of_getElem? (i := 3) rfl))⟩)
  have AwW := Exa.start evwW na1
  have FwW := Fld.start ((fld_at evwW).symm.trans (eqv_i (Term.int_eval _) na3))
  obtain ⟨wD, evwD⟩ := exa_v (Cond.before_iff.mp (hsets _ (List.mem_of_getElem? (i := 7) rfl)))
  have SwD := Sta.start evwD (Or.inr ⟨(hw _ (List.mem_of_getElem? (i := 9) rfl)), (hsets _ (List.mem_of_getElem? (i := 2) rfl))⟩)
  have AwD := Exa.start evwD (Cond.before_iff.mp (hsets _ (List.mem_of_getElem? (i := 7) rfl)))
  have G : Gh s wN wR wW wD := ⟨SwN, AwN, SwR, AwR, SwW, AwW, FwN.ne FwR (by decide), FwW.ne FwR (by decide), SwD, AwD⟩
  obtain ⟨n, o, h1, h2, h3, _, L, rfl, hQ, hq⟩ := rm0 l s _ hw tables_1 wN wR wW wD G jid ik ifl s.heap s.heap.size (Old.start s)  p e ha hc hk s m _ below hf ((Spec.applies_iff_loose hf).mp happ).1 ⟨rfl, State.Warmed39.refl s, rfl⟩ trivial
  obtain ⟨rfl, N, -⟩ := hQ
  refine ⟨n, _, h1, h2, h3, hpost _ _ _ _ _ _ ⟨Cond.after_iff.mpr rfl, Cond.after_iff.mpr (eq_i res_at (Term.int_eval (1)) rfl), trivial⟩ ⟨hq.1, hq.2.1, (hq.2.2.sift fun y hy => Or.inr (N y hy)).mono (by decide) (by decide)⟩⟩
theorem main_1_1 : Claimed_1_1 := comes_1 fun _ _ _ _ _ _ h hF => ⟨h.1, hF⟩
theorem main_1_2 : Claimed_1_2 := comes_1 fun _ _ _ _ _ _ h hF => ⟨h.2.1, hF⟩
end Jvm.Pilot.@@N@@
namespace Jvm.Pilot.@@N@@
open Jvm Jvm.ClassFile Sem Op Lib Jvm.Free Jvm.Stand Jvm.Pilot.@@N@@.Jvm.D
/-! MADE BY PROGRAM (witnessworld.py) out of the Statement's table words and the real class files: 23 classes; the members and pool entries that the words name. The judged class is class 1, her method 1. -/
namespace start1
open Jvm.ClassFile
def u (s : String) : CpInfo := .utf8 (stringToUtf16 s)
/-- a pool by its gaps: so many unusable entries, then the entry; so many at the end -/
def gap : Nat → List CpInfo → List CpInfo
  | 0, r => r
  | n + 1, r => .unusable :: gap n r
def poolList (es : List (Nat × CpInfo)) (last : Nat) : List CpInfo := es.foldr (fun e r => gap e.1 (e.2 :: r)) (gap last [])
def pool (es : List (Nat × CpInfo)) (last : Nat) : Array CpInfo := ⟨poolList es last⟩
def fileOf (pool : Array CpInfo) (this : Nat) (attrs : Array Attribute := #[]) (ms : Array MethodInfo := #[]) (fl : Nat := 33) (sup : Nat := 0) (ifs : Array Nat := #[]) (fds : Array FieldInfo := #[]) : ClassFile where
  minorVersion := 0
  majorVersion := 65
  constantPool := pool
  accessFlags := fl
  thisClass := this
  superClass := sup
  interfaces := ifs
  fields := fds
  methods := ms
  attributes := attrs
def plain (name : String) (sup : Option ClassId) : Class where
  name := name
  kind := .ordinary
  loader := none
  accessFlags := 33
  super := sup
  interfaces := #[]
  cf := none
  fields := #[]
  methods := #[]
  instanceTypes := #[]
  staticTypes := #[]
  resolved := #[]
  callSites := []
  init := .initialized
  statics := none
  mirror := none

def pool0 : Array CpInfo := pool [(5, u "<init>"), (0, u "()V"), (1, .class_ 10), (1, u "java/lang/Object")] 113

def k0c0 : Code := { maxStack := 0, maxLocals := 1, code := object_method_1_code, exceptionTable := #[], attributes := #[] }
def k0m0 : Method := { name := "<init>", desc := "()V", sig := { parameters := [], returnType := none }, accessFlags := 1, code := some k0c0 }
/-- java/lang/Object -/
def k0 : Class := { plain "java/lang/Object" none with
  accessFlags := 33
  interfaces := #[]
  cf := some (fileOf pool0 8 #[] #[{ accessFlags := 1, nameIndex := 5, descriptorIndex := 6, attributes := #[] }] 33 0 #[] #[])
  fields := #[]
  methods := #[k0m0]
  instanceTypes := #[]
  staticTypes := #[]
  resolved := Array.replicate 124 none
  statics := none }

def pool1 : Array CpInfo := pool [(2, .class_ 4), (0, .nameAndType 5 6), (0, u "java/lang/Object"), (0, u "<init>"), (0, u "()V"), (0, .integer 2147483647), (0, .fieldref 9 10), (0, .class_ 11), (0, .nameAndType 12 13), (0, u "com/example/slatewipe/slatewipe/vendors/postgresql/Changes$Noted"), (0, u "NOTHING"), (0, u "Lcom/example/slatewipe/slatewipe/vendors/postgresql/Changes$Noted;"), (0, .fieldref 9 15), (0, .nameAndType 16 13), (0, u "ROWS"), (0, .fieldref 9 18), (0, .nameAndType 19 13), (0, u "WHOLE"), (0, .class_ 21), (0, u "com/example/slatewipe/slatewipe/vendors/postgresql/Changes$Copy"), (0, .class_ 23), (0, u "java/util/ArrayList"), (0, .methodref 22 3), (0, .methodref 20 26), (0, .nameAndType 5 27), (0, u "(JLcom/example/slatewipe/slatewipe/Table;Ljava/util/List;Ljava/util/List;Lcom/example/slatewipe/slatewipe/vendors/postgresql/Changes$Noted;ZZZZLjava/util/List;Ljava/util/List;)V"), (0, .methodref 20 29), (0, .nameAndType 30 31), (0, u "restorableInPlace"), (0, u "()Z"), (0, .class_ 33), (0, u "com/example/slatewipe/slatewipe/vendors/postgresql/CopyRestorableInPlacePinLaw"), (2, u "law"), (0, u "(JII)Z")] 8

def k1m0 : Method := { name := "<init>", desc := "()V", sig := { parameters := [], returnType := none }, accessFlags := 2, code := none }
def k1c1 : Code := { maxStack := 15, maxLocals := 12, code := code, exceptionTable := #[], attributes := #[] }
def k1m1 : Method := { name := "law", desc := "(JII)Z", sig := { parameters := [.long, .int, .int], returnType := some .boolean }, accessFlags := 9, code := some k1c1 }
/-- com/example/slatewipe/slatewipe/vendors/postgresql/CopyRestorableInPlacePinLaw -/
def k1 : Class := { plain "com/example/slatewipe/slatewipe/vendors/postgresql/CopyRestorableInPlacePinLaw" (some 0) with
  accessFlags := 49
  interfaces := #[]
  cf := some (fileOf pool1 32 #[] #[{ accessFlags := 2, nameIndex := 5, descriptorIndex := 6, attributes := #[] }, { accessFlags := 9, nameIndex := 36, descriptorIndex := 37, attributes := #[] }] 49 2 #[] #[])
  fields := #[]
  methods := #[k1m0, k1m1]
  instanceTypes := #[]
  staticTypes := #[]
  resolved := Array.replicate 46 none
  statics := none }

def pool2 : Array CpInfo := pool [(1, .class_ 2), (0, u "java/lang/constant/Constable"), (0, .class_ 4), (0, u "java/lang/Object")] 6

/-- java/lang/constant/Constable -/
def k2 : Class := { plain "java/lang/constant/Constable" (some 0) with
  accessFlags := 1537
  interfaces := #[]
  cf := some (fileOf pool2 1 #[] #[] 1537 3 #[] #[])
  fields := #[]
  methods := #[]
  instanceTypes := #[]
  staticTypes := #[]
  resolved := Array.replicate 11 none
  statics := none }

def pool3 : Array CpInfo := pool [(1, .class_ 2), (0, u "java/lang/Comparable"), (0, .class_ 4), (0, u "java/lang/Object")] 7

/-- java/lang/Comparable -/
def k3 : Class := { plain "java/lang/Comparable" (some 0) with
  accessFlags := 1537
  interfaces := #[]
  cf := some (fileOf pool3 1 #[] #[] 1537 3 #[] #[])
  fields := #[]
  methods := #[]
  instanceTypes := #[]
  staticTypes := #[]
  resolved := Array.replicate 12 none
  statics := none }

def pool4 : Array CpInfo := pool [(1, .class_ 2), (0, u "java/io/Serializable"), (0, .class_ 4), (0, u "java/lang/Object")] 2

/-- java/io/Serializable -/
def k4 : Class := { plain "java/io/Serializable" (some 0) with
  accessFlags := 1537
  interfaces := #[]
  cf := some (fileOf pool4 1 #[] #[] 1537 3 #[] #[])
  fields := #[]
  methods := #[]
  instanceTypes := #[]
  staticTypes := #[]
  resolved := Array.replicate 7 none
  statics := none }

def pool5 : Array CpInfo := pool [(2, .class_ 4), (1, u "java/lang/Enum"), (0, u "name"), (0, u "Ljava/lang/String;"), (2, u "ordinal"), (0, u "I"), (1, .class_ 14), (1, u "java/lang/Object"), (4, u "hash"), (86, .class_ 108), (1, u "java/lang/Enum$EnumDesc"), (2, .class_ 112), (0, u "java/lang/constant/Constable"), (0, .class_ 114), (0, u "java/lang/Comparable"), (0, .class_ 116), (0, u "java/io/Serializable")] 87

/-- java/lang/Enum -/
def k5 : Class := { plain "java/lang/Enum" (some 0) with
  accessFlags := 1057
  interfaces := #[2, 3, 4]
  cf := some (fileOf pool5 2 #[.nestMembers #[106]] #[] 1057 12 #[111, 113, 115] #[{ accessFlags := 18, nameIndex := 5, descriptorIndex := 6, attributes := #[] }, { accessFlags := 18, nameIndex := 9, descriptorIndex := 10, attributes := #[] }, { accessFlags := 2, nameIndex := 19, descriptorIndex := 10, attributes := #[] }])
  fields := #[{ name := "name", type := (.object "java/lang/String"), accessFlags := 18, slot := 0, constantValue := 0 }, { name := "ordinal", type := .int, accessFlags := 18, slot := 1, constantValue := 0 }, { name := "hash", type := .int, accessFlags := 2, slot := 2, constantValue := 0 }]
  methods := #[]
  instanceTypes := #[(.object "java/lang/String"), .int, .int]
  staticTypes := #[]
  resolved := Array.replicate 204 none
  statics := none }

def pool6 : Array CpInfo := pool [(1, .class_ 2), (0, u "com/example/slatewipe/slatewipe/vendors/postgresql/Changes$Noted"), (2, u "NOTHING"), (0, u "Lcom/example/slatewipe/slatewipe/vendors/postgresql/Changes$Noted;"), (2, u "ROWS"), (2, u "WHOLE"), (2, u "$VALUES"), (0, u "[Lcom/example/slatewipe/slatewipe/vendors/postgresql/Changes$Noted;"), (6, .class_ 25), (1, u "java/lang/Enum"), (26, .class_ 53), (0, u "com/example/slatewipe/slatewipe/vendors/postgresql/Changes")] 2

/-- com/example/slatewipe/slatewipe/vendors/postgresql/Changes$Noted -/
def k6 : Class := { plain "com/example/slatewipe/slatewipe/vendors/postgresql/Changes$Noted" (some 5) with
  accessFlags := 16432
  interfaces := #[]
  cf := some (fileOf pool6 1 #[.nestHost 52] #[] 16432 23 #[] #[{ accessFlags := 16409, nameIndex := 5, descriptorIndex := 6, attributes := #[] }, { accessFlags := 16409, nameIndex := 9, descriptorIndex := 6, attributes := #[] }, { accessFlags := 16409, nameIndex := 12, descriptorIndex := 6, attributes := #[] }, { accessFlags := 4122, nameIndex := 15, descriptorIndex := 16, attributes := #[] }])
  fields := #[{ name := "NOTHING", type := (.object "com/example/slatewipe/slatewipe/vendors/postgresql/Changes$Noted"), accessFlags := 16409, slot := 0, constantValue := 0 }, { name := "ROWS", type := (.object "com/example/slatewipe/slatewipe/vendors/postgresql/Changes$Noted"), accessFlags := 16409, slot := 1, constantValue := 0 }, { name := "WHOLE", type := (.object "com/example/slatewipe/slatewipe/vendors/postgresql/Changes$Noted"), accessFlags := 16409, slot := 2, constantValue := 0 }, { name := "$VALUES", type := (.array (.object "com/example/slatewipe/slatewipe/vendors/postgresql/Changes$Noted")), accessFlags := 4122, slot := 3, constantValue := 0 }]
  methods := #[]
  instanceTypes := #[(.object "java/lang/String"), .int, .int]
  staticTypes := #[(.object "com/example/slatewipe/slatewipe/vendors/postgresql/Changes$Noted"), (.object "com/example/slatewipe/slatewipe/vendors/postgresql/Changes$Noted"), (.object "com/example/slatewipe/slatewipe/vendors/postgresql/Changes$Noted"), (.array (.object "com/example/slatewipe/slatewipe/vendors/postgresql/Changes$Noted"))]
  resolved := Array.replicate 56 none
  statics := some 0 }

def pool7 : Array CpInfo := pool [(1, .methodref 2 3), (0, .class_ 4), (0, .nameAndType 5 6), (0, u "java/lang/Object"), (0, u "<init>"), (0, u "()V"), (0, .class_ 8), (0, u "java/lang/Record")] 13

def k7c0 : Code := { maxStack := 1, maxLocals := 1, code := jdk_30_method_1_code, exceptionTable := #[], attributes := #[] }
def k7m0 : Method := { name := "<init>", desc := "()V", sig := { parameters := [], returnType := none }, accessFlags := 4, code := some k7c0 }
/-- java/lang/Record -/
def k7 : Class := { plain "java/lang/Record" (some 0) with
  accessFlags := 1057
  interfaces := #[]
  cf := some (fileOf pool7 7 #[] #[{ accessFlags := 4, nameIndex := 5, descriptorIndex := 6, attributes := #[] }] 1057 2 #[] #[])
  fields := #[]
  methods := #[k7m0]
  instanceTypes := #[]
  staticTypes := #[]
  resolved := Array.replicate 22 none
  statics := none }

def pool8 : Array CpInfo := pool [(1, .methodref 2 3), (0, .class_ 4), (0, .nameAndType 5 6), (0, u "java/lang/Record"), (0, u "<init>"), (0, u "()V"), (0, .fieldref 8 9), (0, .class_ 10), (0, .nameAndType 11 12), (0, u "com/example/slatewipe/slatewipe/vendors/postgresql/Changes$Copy"), (0, u "id"), (0, u "J"), (0, .fieldref 8 14), (0, .nameAndType 15 16), (0, u "table"), (0, u "Lcom/example/slatewipe/slatewipe/Table;"), (0, .fieldref 8 18), (0, .nameAndType 19 20), (0, u "columns"), (0, u "Ljava/util/List;"), (0, .fieldref 8 22), (0, .nameAndType 23 20), (0, u "key"), (0, .fieldref 8 25), (0, .nameAndType 26 27), (0, u "noted"), (0, u "Lcom/example/slatewipe/slatewipe/vendors/postgresql/Changes$Noted;"), (0, .fieldref 8 29), (0, .nameAndType 30 31), (0, u "added"), (0, u "Z"), (0, .fieldref 8 33), (0, .nameAndType 34 31), (0, u "recorded"), (0, .fieldref 8 36), (0, .nameAndType 37 31), (0, u "referenced"), (0, .fieldref 8 39), (0, .nameAndType 40 31), (0, u "rules"), (0, .fieldref 8 42), (0, .nameAndType 43 20), (0, u "switchOff"), (0, .fieldref 8 45), (0, .nameAndType 46 20), (0, u "backOn"), (0, .fieldref 48 49), (0, .class_ 50), (0, .nameAndType 51 27), (0, u "com/example/slatewipe/slatewipe/vendors/postgresql/Changes$Noted"), (0, u "ROWS"), (14, u "(JLcom/example/slatewipe/slatewipe/Table;Ljava/util/List;Ljava/util/List;Lcom/example/slatewipe/slatewipe/vendors/postgresql/Changes$Noted;ZZZZLjava/util/List;Ljava/util/List;)V"), (4, u "restorableInPlace"), (0, u "()Z"), (12, .class_ 86), (0, u "com/example/slatewipe/slatewipe/vendors/postgresql/Changes")] 30

def k8c0 : Code := { maxStack := 3, maxLocals := 13, code := prog_61_method_1_code, exceptionTable := #[], attributes := #[] }
def k8m0 : Method := { name := "<init>", desc := "(JLcom/example/slatewipe/slatewipe/Table;Ljava/util/List;Ljava/util/List;Lcom/example/slatewipe/slatewipe/vendors/postgresql/Changes$Noted;ZZZZLjava/util/List;Ljava/util/List;)V", sig := { parameters := [.long, (.object "com/example/slatewipe/slatewipe/Table"), (.object "java/util/List"), (.object "java/util/List"), (.object "com/example/slatewipe/slatewipe/vendors/postgresql/Changes$Noted"), .boolean, .boolean, .boolean, .boolean, (.object "java/util/List"), (.object "java/util/List")], returnType := none }, accessFlags := 0, code := some k8c0 }
def k8c1 : Code := { maxStack := 2, maxLocals := 1, code := prog_61_method_2_code, exceptionTable := #[], attributes := #[] }
def k8m1 : Method := { name := "restorableInPlace", desc := "()Z", sig := { parameters := [], returnType := some .boolean }, accessFlags := 0, code := some k8c1 }
/-- com/example/slatewipe/slatewipe/vendors/postgresql/Changes$Copy -/
def k8 : Class := { plain "com/example/slatewipe/slatewipe/vendors/postgresql/Changes$Copy" (some 7) with
  accessFlags := 48
  interfaces := #[]
  cf := some (fileOf pool8 8 #[.nestHost 85] #[{ accessFlags := 0, nameIndex := 5, descriptorIndex := 66, attributes := #[] }, { accessFlags := 0, nameIndex := 71, descriptorIndex := 72, attributes := #[] }] 48 2 #[] #[{ accessFlags := 18, nameIndex := 11, descriptorIndex := 12, attributes := #[] }, { accessFlags := 18, nameIndex := 15, descriptorIndex := 16, attributes := #[] }, { accessFlags := 18, nameIndex := 19, descriptorIndex := 20, attributes := #[] }, { accessFlags := 18, nameIndex := 23, descriptorIndex := 20, attributes := #[] }, { accessFlags := 18, nameIndex := 26, descriptorIndex := 27, attributes := #[] }, { accessFlags := 18, nameIndex := 30, descriptorIndex := 31, attributes := #[] }, { accessFlags := 18, nameIndex := 34, descriptorIndex := 31, attributes := #[] }, { accessFlags := 18, nameIndex := 37, descriptorIndex := 31, attributes := #[] }, { accessFlags := 18, nameIndex := 40, descriptorIndex := 31, attributes := #[] }, { accessFlags := 18, nameIndex := 43, descriptorIndex := 20, attributes := #[] }, { accessFlags := 18, nameIndex := 46, descriptorIndex := 20, attributes := #[] }])
  fields := #[{ name := "id", type := .long, accessFlags := 18, slot := 0, constantValue := 0 }, { name := "table", type := (.object "com/example/slatewipe/slatewipe/Table"), accessFlags := 18, slot := 1, constantValue := 0 }, { name := "columns", type := (.object "java/util/List"), accessFlags := 18, slot := 2, constantValue := 0 }, { name := "key", type := (.object "java/util/List"), accessFlags := 18, slot := 3, constantValue := 0 }, { name := "noted", type := (.object "com/example/slatewipe/slatewipe/vendors/postgresql/Changes$Noted"), accessFlags := 18, slot := 4, constantValue := 0 }, { name := "added", type := .boolean, accessFlags := 18, slot := 5, constantValue := 0 }, { name := "recorded", type := .boolean, accessFlags := 18, slot := 6, constantValue := 0 }, { name := "referenced", type := .boolean, accessFlags := 18, slot := 7, constantValue := 0 }, { name := "rules", type := .boolean, accessFlags := 18, slot := 8, constantValue := 0 }, { name := "switchOff", type := (.object "java/util/List"), accessFlags := 18, slot := 9, constantValue := 0 }, { name := "backOn", type := (.object "java/util/List"), accessFlags := 18, slot := 10, constantValue := 0 }]
  methods := #[k8m0, k8m1]
  instanceTypes := #[.long, (.object "com/example/slatewipe/slatewipe/Table"), (.object "java/util/List"), (.object "java/util/List"), (.object "com/example/slatewipe/slatewipe/vendors/postgresql/Changes$Noted"), .boolean, .boolean, .boolean, .boolean, (.object "java/util/List"), (.object "java/util/List")]
  staticTypes := #[]
  resolved := Array.replicate 117 none
  statics := none }

def pool9 : Array CpInfo := pool [(8, .class_ 10), (1, u "java/lang/Iterable"), (24, .class_ 36), (0, u "java/lang/Object")] 25

/-- java/lang/Iterable -/
def k9 : Class := { plain "java/lang/Iterable" (some 0) with
  accessFlags := 1537
  interfaces := #[]
  cf := some (fileOf pool9 8 #[] #[] 1537 35 #[] #[])
  fields := #[]
  methods := #[]
  instanceTypes := #[]
  staticTypes := #[]
  resolved := Array.replicate 62 none
  statics := none }

def pool10 : Array CpInfo := pool [(10, .class_ 12), (1, u "java/util/Collection"), (47, .class_ 61), (0, u "java/lang/Object"), (0, .class_ 63), (0, u "java/lang/Iterable")] 51

/-- java/util/Collection -/
def k10 : Class := { plain "java/util/Collection" (some 0) with
  accessFlags := 1537
  interfaces := #[9]
  cf := some (fileOf pool10 10 #[] #[] 1537 60 #[62] #[])
  fields := #[]
  methods := #[]
  instanceTypes := #[]
  staticTypes := #[]
  resolved := Array.replicate 115 none
  statics := none }

def pool11 : Array CpInfo := pool [(1, .methodref 2 3), (0, .class_ 4), (0, .nameAndType 5 6), (0, u "java/lang/Object"), (0, u "<init>"), (0, u "()V"), (1, .class_ 10), (1, u "java/util/AbstractCollection"), (66, .class_ 78), (0, u "java/util/Collection")] 81

def k11c0 : Code := { maxStack := 1, maxLocals := 1, code := jdk_22_method_1_code, exceptionTable := #[], attributes := #[] }
def k11m0 : Method := { name := "<init>", desc := "()V", sig := { parameters := [], returnType := none }, accessFlags := 4, code := some k11c0 }
/-- java/util/AbstractCollection -/
def k11 : Class := { plain "java/util/AbstractCollection" (some 0) with
  accessFlags := 1057
  interfaces := #[10]
  cf := some (fileOf pool11 8 #[] #[{ accessFlags := 4, nameIndex := 5, descriptorIndex := 6, attributes := #[] }] 1057 2 #[77] #[])
  fields := #[]
  methods := #[k11m0]
  instanceTypes := #[]
  staticTypes := #[]
  resolved := Array.replicate 160 none
  statics := none }

def pool12 : Array CpInfo := pool [(8, .class_ 10), (1, u "java/util/SequencedCollection"), (15, .class_ 27), (0, u "java/lang/Object"), (0, .class_ 29), (0, u "java/util/Collection")] 27

/-- java/util/SequencedCollection -/
def k12 : Class := { plain "java/util/SequencedCollection" (some 0) with
  accessFlags := 1537
  interfaces := #[10]
  cf := some (fileOf pool12 8 #[] #[] 1537 26 #[28] #[])
  fields := #[]
  methods := #[]
  instanceTypes := #[]
  staticTypes := #[]
  resolved := Array.replicate 57 none
  statics := none }

def pool13 : Array CpInfo := pool [(8, .class_ 10), (1, u "java/util/List"), (92, .class_ 104), (0, u "java/lang/Object"), (15, .class_ 121), (0, u "java/util/SequencedCollection")] 129

/-- java/util/List -/
def k13 : Class := { plain "java/util/List" (some 0) with
  accessFlags := 1537
  interfaces := #[12]
  cf := some (fileOf pool13 8 #[] #[] 1537 103 #[120] #[])
  fields := #[]
  methods := #[]
  instanceTypes := #[]
  staticTypes := #[]
  resolved := Array.replicate 251 none
  statics := none }

def pool14 : Array CpInfo := pool [(1, .methodref 2 3), (0, .class_ 4), (0, .nameAndType 5 6), (0, u "java/util/AbstractCollection"), (0, u "<init>"), (0, u "()V"), (0, .fieldref 8 9), (0, .class_ 10), (0, .nameAndType 11 12), (0, u "java/util/AbstractList"), (0, u "modCount"), (0, u "I"), (64, .class_ 78), (0, u "java/util/AbstractList$Itr"), (3, .class_ 83), (0, u "java/util/AbstractList$ListItr"), (9, .class_ 94), (0, u "java/util/AbstractList$RandomAccessSubList"), (3, .class_ 99), (0, u "java/util/AbstractList$SubList"), (33, .class_ 134), (0, u "java/util/List"), (73, .class_ 209), (0, u "java/util/AbstractList$SubList$1"), (0, .class_ 211), (0, u "java/util/AbstractList$RandomAccessSpliterator")] 6

def k14c0 : Code := { maxStack := 2, maxLocals := 1, code := jdk_39_method_1_code, exceptionTable := #[], attributes := #[] }
def k14m0 : Method := { name := "<init>", desc := "()V", sig := { parameters := [], returnType := none }, accessFlags := 4, code := some k14c0 }
/-- java/util/AbstractList -/
def k14 : Class := { plain "java/util/AbstractList" (some 11) with
  accessFlags := 1057
  interfaces := #[13]
  cf := some (fileOf pool14 8 #[.nestMembers #[93, 98, 208, 210, 82, 77]] #[{ accessFlags := 4, nameIndex := 5, descriptorIndex := 6, attributes := #[] }] 1057 2 #[133] #[{ accessFlags := 132, nameIndex := 11, descriptorIndex := 12, attributes := #[] }])
  fields := #[{ name := "modCount", type := .int, accessFlags := 132, slot := 0, constantValue := 0 }]
  methods := #[k14m0]
  instanceTypes := #[.int]
  staticTypes := #[]
  resolved := Array.replicate 218 none
  statics := none }

def pool15 : Array CpInfo := pool [(1, .class_ 2), (0, u "java/util/RandomAccess"), (0, .class_ 4), (0, u "java/lang/Object")] 2

/-- java/util/RandomAccess -/
def k15 : Class := { plain "java/util/RandomAccess" (some 0) with
  accessFlags := 1537
  interfaces := #[]
  cf := some (fileOf pool15 1 #[] #[] 1537 3 #[] #[])
  fields := #[]
  methods := #[]
  instanceTypes := #[]
  staticTypes := #[]
  resolved := Array.replicate 7 none
  statics := none }

def pool16 : Array CpInfo := pool [(1, .class_ 2), (0, u "java/lang/Cloneable"), (0, .class_ 4), (0, u "java/lang/Object")] 2

/-- java/lang/Cloneable -/
def k16 : Class := { plain "java/lang/Cloneable" (some 0) with
  accessFlags := 1537
  interfaces := #[]
  cf := some (fileOf pool16 1 #[] #[] 1537 3 #[] #[])
  fields := #[]
  methods := #[]
  instanceTypes := #[]
  staticTypes := #[]
  resolved := Array.replicate 7 none
  statics := none }

def pool17 : Array CpInfo := pool [(1, .methodref 2 3), (0, .class_ 4), (0, .nameAndType 5 6), (0, u "java/util/AbstractList"), (0, u "<init>"), (0, u "()V"), (2, .fieldref 10 11), (0, .class_ 12), (0, .nameAndType 13 14), (0, u "java/util/ArrayList"), (0, u "elementData"), (0, u "[Ljava/lang/Object;"), (2, u "EMPTY_ELEMENTDATA"), (21, .fieldref 10 40), (0, .nameAndType 41 14), (0, u "DEFAULTCAPACITY_EMPTY_ELEMENTDATA"), (8, u "size"), (0, u "I"), (96, .class_ 149), (0, u "java/util/List"), (112, .class_ 263), (0, u "java/util/ArrayList$ListItr"), (3, .class_ 268), (0, u "java/util/ArrayList$Itr"), (7, .class_ 277), (0, u "java/util/ArrayList$SubList"), (12, .class_ 291), (0, u "java/util/ArrayList$ArrayListSpliterator"), (37, .class_ 330), (0, u "java/util/RandomAccess"), (0, .class_ 332), (0, u "java/lang/Cloneable"), (0, .class_ 334), (0, u "java/io/Serializable"), (0, u "serialVersionUID"), (0, u "J"), (3, u "DEFAULT_CAPACITY"), (159, .class_ 501), (0, u "java/util/ArrayList$SubList$2"), (0, .class_ 503), (0, u "java/util/ArrayList$SubList$1")] 5

def k17c0 : Code := { maxStack := 2, maxLocals := 1, code := jdk_38_method_2_code, exceptionTable := #[], attributes := #[] }
def k17m0 : Method := { name := "<init>", desc := "()V", sig := { parameters := [], returnType := none }, accessFlags := 1, code := some k17c0 }
/-- java/util/ArrayList -/
def k17 : Class := { plain "java/util/ArrayList" (some 14) with
  accessFlags := 33
  interfaces := #[13, 15, 16, 4]
  cf := some (fileOf pool17 10 #[.nestMembers #[290, 276, 500, 502, 262, 267]] #[{ accessFlags := 1, nameIndex := 5, descriptorIndex := 6, attributes := #[] }] 33 2 #[148, 329, 331, 333] #[{ accessFlags := 26, nameIndex := 335, descriptorIndex := 336, attributes := #[] }, { accessFlags := 26, nameIndex := 340, descriptorIndex := 51, attributes := #[] }, { accessFlags := 26, nameIndex := 17, descriptorIndex := 14, attributes := #[] }, { accessFlags := 26, nameIndex := 41, descriptorIndex := 14, attributes := #[] }, { accessFlags := 128, nameIndex := 13, descriptorIndex := 14, attributes := #[] }, { accessFlags := 2, nameIndex := 50, descriptorIndex := 51, attributes := #[] }])
  fields := #[{ name := "serialVersionUID", type := .long, accessFlags := 26, slot := 0, constantValue := 0 }, { name := "DEFAULT_CAPACITY", type := .int, accessFlags := 26, slot := 1, constantValue := 0 }, { name := "EMPTY_ELEMENTDATA", type := (.array (.object "java/lang/Object")), accessFlags := 26, slot := 2, constantValue := 0 }, { name := "DEFAULTCAPACITY_EMPTY_ELEMENTDATA", type := (.array (.object "java/lang/Object")), accessFlags := 26, slot := 3, constantValue := 0 }, { name := "elementData", type := (.array (.object "java/lang/Object")), accessFlags := 128, slot := 1, constantValue := 0 }, { name := "size", type := .int, accessFlags := 2, slot := 2, constantValue := 0 }]
  methods := #[k17m0]
  instanceTypes := #[.int, (.array (.object "java/lang/Object")), .int]
  staticTypes := #[.long, .int, (.array (.object "java/lang/Object")), (.array (.object "java/lang/Object"))]
  resolved := Array.replicate 509 none
  statics := some 1 }

/-- the primitive byte -/
def k18 : Class := { plain "byte" none with kind := .primitive 'B', accessFlags := 0x411 }
/-- [B -/
def k19 : Class := { plain "[B" (some 0) with kind := .array 18 .byte, interfaces := #[16, 4], accessFlags := 1041 }

/-- the primitive int -/
def k20 : Class := { plain "int" none with kind := .primitive 'I', accessFlags := 0x411 }
/-- [I -/
def k21 : Class := { plain "[I" (some 0) with kind := .array 20 .int, interfaces := #[16, 4], accessFlags := 1041 }

/-- [Ljava/lang/Object; -/
def k22 : Class := { plain "[Ljava/lang/Object;" (some 0) with kind := .array 0 (.object "java/lang/Object"), interfaces := #[16, 4], accessFlags := 1041 }

def heap : Heap := #[{ cls := 6, slots := #[.ref 2, .ref 3, .ref 4, .null], vm := .statics 6 },
  { cls := 17, slots := #[.long 0, .int 0, .ref 5, .ref 6], vm := .statics 17 },
  { cls := 6, slots := #[.null, .int 0, .int 0], vm := .none },
  { cls := 6, slots := #[.null, .int 1, .int 0], vm := .none },
  { cls := 6, slots := #[.null, .int 2, .int 0], vm := .none },
  { cls := 22, slots := #[], vm := .none },
  { cls := 22, slots := #[], vm := .none }]
def classes : Array Class := #[k0, k1, k2, k3, k4, k5, k6, k7, k8, k9, k10, k11, k12, k13, k14, k15, k16, k17, k18, k19, k20, k21, k22]
def interned : List (Array UInt16 × Addr) := []
def slotsUsed : Nat := 17
def theMethod : MethodId := ⟨1, 1⟩
def args0 : Array Value := #[.long 5, .int 1, .int 3]
def aboutOver (below : List Frame) : State where
  vm := { classes := classes, interned := interned.toArray }
  heap := heap
  slotsUsed := slotsUsed
  threads := #[{ frames := .invoking theMethod args0 :: below }]
def below0 : List Frame := [.native { method := ⟨0, 0⟩, args := #[] }]
def about1 : State := aboutOver below0
def p0 : Program := .bare "" "" ""
def e0 : Env := launch0.env 0 0 0
theorem w_frames : about1.frames = Frame.invoking theMethod args0 :: below0 := rfl
set_option maxRecDepth 65536 in
theorem w_args : argsFit about1.vm theMethod args0 = true := by decide +kernel
set_option maxRecDepth 65536 in
theorem w_heap : heapFits about1 = true := by decide +kernel
set_option maxRecDepth 65536 in
theorem w_runnable : about1.curStatus? = some .runnable := by decide +kernel
set_option maxRecDepth 65536 in
theorem w_alone : about1.alone = true := by decide +kernel
set_option maxRecDepth 65536 in
theorem w_named : about1.methodNamed? x = some theMethod := by decide +kernel
set_option maxRecDepth 65536 in
theorem w_hears : about1.hears theMethod below0 = true := by decide +kernel
set_option maxRecDepth 65536 in
theorem w_ripe : about1.ripe theMethod args0 below0 = true := by decide +kernel
theorem w_running : about1.status = .running := rfl
set_option maxRecDepth 65536 in
theorem w_room : about1.hasRoom e0.platform room_1 = true :=
  launch0.hasRoom_least _ room_1 (by decide +kernel) (by decide +kernel) (by decide +kernel) (by decide +kernel) (by decide +kernel) (by decide +kernel)
theorem allAtoms_all (ts : List Jvm.Cond) (a : Array Jvm.Value) (st : Jvm.State) : (allAtoms ts).before a st = ts.all (fun c => c.before a st) := by
  induction ts with
  | nil => rfl
  | cons c t ih =>
    show (Jvm.Cond.and c (allAtoms t)).before a st = _
    rw [Jvm.Cond.before_and, ih, List.all_cons]
def words1 : List Jvm.Cond := Jvm.Cond.code x code maxLocals ret :: tables_1
/-- a 'code' word, met by the world's own term for the bytes: nothing is compared byte by byte -/
theorem code_word {y : MethodName} {bytes : ByteArray} {mx : Nat} {rt : Option FieldType} {a : Array Value} {s : State} {m : MethodId} {meth : Method} {c : Code} (h1 : s.methodNamed? y = some m) (h2 : s.vm.method? m = some meth) (h3 : meth.code = some c) (h4 : c.code = bytes)
    (h5 : (c.maxLocals == mx && c.exceptionTable.isEmpty && decide (c.maxStack ≤ mostOperands) && decide (meth.sig.returnType = rt) && !meth.locks && decide (parseMethodDescriptor y.desc = some meth.sig)) = true) : (Jvm.Cond.code y bytes mx rt).before a s = true := by
  simp only [Bool.and_eq_true, beq_iff_eq, Bool.not_eq_true', decide_eq_true_eq] at h5
  obtain ⟨⟨⟨⟨⟨g1, g2⟩, g3⟩, g4⟩, g5⟩, g6⟩ := h5
  simp [Cond.before, Cond.holds, Cond.value, h1, h2, h3, h4, g1, g2, g3, g4, g5, g6]
def isCode : Jvm.Cond → Bool
  | .code _ _ _ _ => true
  | _ => false
theorem all_split {L : List Jvm.Cond} {P : Jvm.Cond → Bool} (h1 : L.all (fun c => isCode c || P c) = true) (h2 : ∀ c ∈ L.filter isCode, P c = true) : L.all P = true := by
  refine List.all_eq_true.mpr fun c hc => ?_
  have h := List.all_eq_true.mp h1 c hc
  rcases Bool.eq_false_or_eq_true (isCode c) with hi | hi
  · exact h2 c (List.mem_filter.mpr ⟨hc, hi⟩)
  · simpa [hi] using h
set_option maxRecDepth 65536 in
theorem w_c0 : (Jvm.Cond.code x code maxLocals ret).before args0 about1 = true := code_word (m := ⟨1, 1⟩) (meth := k1m1) (c := k1c1) (by decide +kernel) rfl rfl rfl (by decide +kernel)
set_option maxRecDepth 65536 in
theorem w_c1 : (Jvm.Cond.code ({ cls := "java/util/ArrayList", name := "<init>", desc := "()V" } : Jvm.MethodName) jdk_38_method_2_code (1 : Nat) (Option.none : Option Jvm.ClassFile.FieldType)).before args0 about1 = true := code_word (m := ⟨17, 0⟩) (meth := k17m0) (c := k17c0) (by decide +kernel) rfl rfl rfl (by decide +kernel)
set_option maxRecDepth 65536 in
theorem w_c2 : (Jvm.Cond.code ({ cls := "java/util/AbstractList", name := "<init>", desc := "()V" } : Jvm.MethodName) jdk_39_method_1_code (1 : Nat) (Option.none : Option Jvm.ClassFile.FieldType)).before args0 about1 = true := code_word (m := ⟨14, 0⟩) (meth := k14m0) (c := k14c0) (by decide +kernel) rfl rfl rfl (by decide +kernel)
set_option maxRecDepth 65536 in
theorem w_c3 : (Jvm.Cond.code ({ cls := "java/util/AbstractCollection", name := "<init>", desc := "()V" } : Jvm.MethodName) jdk_22_method_1_code (1 : Nat) (Option.none : Option Jvm.ClassFile.FieldType)).before args0 about1 = true := code_word (m := ⟨11, 0⟩) (meth := k11m0) (c := k11c0) (by decide +kernel) rfl rfl rfl (by decide +kernel)
set_option maxRecDepth 65536 in
theorem w_c4 : (Jvm.Cond.code ({ cls := "java/lang/Object", name := "<init>", desc := "()V" } : Jvm.MethodName) object_method_1_code (1 : Nat) (Option.none : Option Jvm.ClassFile.FieldType)).before args0 about1 = true := code_word (m := ⟨0, 0⟩) (meth := k0m0) (c := k0c0) (by decide +kernel) rfl rfl rfl (by decide +kernel)
set_option maxRecDepth 65536 in
theorem w_c5 : (Jvm.Cond.code ({ cls := "com/example/slatewipe/slatewipe/vendors/postgresql/Changes$Copy", name := "<init>", desc := "(JLcom/example/slatewipe/slatewipe/Table;Ljava/util/List;Ljava/util/List;Lcom/example/slatewipe/slatewipe/vendors/postgresql/Changes$Noted;ZZZZLjava/util/List;Ljava/util/List;)V" } : Jvm.MethodName) prog_61_method_1_code (13 : Nat) (Option.none : Option Jvm.ClassFile.FieldType)).before args0 about1 = true := code_word (m := ⟨8, 0⟩) (meth := k8m0) (c := k8c0) (by decide +kernel) rfl rfl rfl (by decide +kernel)
set_option maxRecDepth 65536 in
theorem w_c6 : (Jvm.Cond.code ({ cls := "java/lang/Record", name := "<init>", desc := "()V" } : Jvm.MethodName) jdk_30_method_1_code (1 : Nat) (Option.none : Option Jvm.ClassFile.FieldType)).before args0 about1 = true := code_word (m := ⟨7, 0⟩) (meth := k7m0) (c := k7c0) (by decide +kernel) rfl rfl rfl (by decide +kernel)
set_option maxRecDepth 65536 in
theorem w_c7 : (Jvm.Cond.code ({ cls := "com/example/slatewipe/slatewipe/vendors/postgresql/Changes$Copy", name := "restorableInPlace", desc := "()Z" } : Jvm.MethodName) prog_61_method_2_code (1 : Nat) (Option.some Jvm.ClassFile.FieldType.boolean)).before args0 about1 = true := code_word (m := ⟨8, 1⟩) (meth := k8m1) (c := k8c1) (by decide +kernel) rfl rfl rfl (by decide +kernel)
def codes1 : List Jvm.Cond := [Jvm.Cond.code x code maxLocals ret, Jvm.Cond.code ({ cls := "java/util/ArrayList", name := "<init>", desc := "()V" } : Jvm.MethodName) jdk_38_method_2_code (1 : Nat) (Option.none : Option Jvm.ClassFile.FieldType), Jvm.Cond.code ({ cls := "java/util/AbstractList", name := "<init>", desc := "()V" } : Jvm.MethodName) jdk_39_method_1_code (1 : Nat) (Option.none : Option Jvm.ClassFile.FieldType), Jvm.Cond.code ({ cls := "java/util/AbstractCollection", name := "<init>", desc := "()V" } : Jvm.MethodName) jdk_22_method_1_code (1 : Nat) (Option.none : Option Jvm.ClassFile.FieldType), Jvm.Cond.code ({ cls := "java/lang/Object", name := "<init>", desc := "()V" } : Jvm.MethodName) object_method_1_code (1 : Nat) (Option.none : Option Jvm.ClassFile.FieldType), Jvm.Cond.code ({ cls := "com/example/slatewipe/slatewipe/vendors/postgresql/Changes$Copy", name := "<init>", desc := "(JLcom/example/slatewipe/slatewipe/Table;Ljava/util/List;Ljava/util/List;Lcom/example/slatewipe/slatewipe/vendors/postgresql/Changes$Noted;ZZZZLjava/util/List;Ljava/util/List;)V" } : Jvm.MethodName) prog_61_method_1_code (13 : Nat) (Option.none : Option Jvm.ClassFile.FieldType), Jvm.Cond.code ({ cls := "java/lang/Record", name := "<init>", desc := "()V" } : Jvm.MethodName) jdk_30_method_1_code (1 : Nat) (Option.none : Option Jvm.ClassFile.FieldType), Jvm.Cond.code ({ cls := "com/example/slatewipe/slatewipe/vendors/postgresql/Changes$Copy", name := "restorableInPlace", desc := "()Z" } : Jvm.MethodName) prog_61_method_2_code (1 : Nat) (Option.some Jvm.ClassFile.FieldType.boolean)]
set_option maxRecDepth 65536 in
theorem codes_eq : words1.filter isCode = codes1 := rfl
theorem w_codes : ∀ c ∈ words1.filter isCode, c.before args0 about1 = true := by
  rw [codes_eq]
  intro c hc
  simp only [codes1, List.mem_cons, List.not_mem_nil, or_false] at hc
  rcases hc with rfl | rfl | rfl | rfl | rfl | rfl | rfl | rfl
  · exact w_c0
  · exact w_c1
  · exact w_c2
  · exact w_c3
  · exact w_c4
  · exact w_c5
  · exact w_c6
  · exact w_c7
set_option maxRecDepth 65536 in
theorem w_t1 : (words1.take 24).all (fun c => isCode c || c.before args0 about1) = true := by decide +kernel
set_option maxRecDepth 65536 in
theorem w_t2 : ((words1.drop 24).take 24).all (fun c => isCode c || c.before args0 about1) = true := by decide +kernel
set_option maxRecDepth 65536 in
theorem w_t3 : (((words1.drop 24).drop 24).take 24).all (fun c => isCode c || c.before args0 about1) = true := by decide +kernel
set_option maxRecDepth 65536 in
theorem w_t4 : (((words1.drop 24).drop 24).drop 24).all (fun c => isCode c || c.before args0 about1) = true := by decide +kernel
theorem w_tables : (allAtoms (Jvm.Cond.code x code maxLocals ret :: tables_1)).before args0 about1 = true := by
  rw [allAtoms_all]
  show words1.all (fun c => c.before args0 about1) = true
  refine all_split ?_ w_codes
  rw [← List.take_append_drop 24 words1, List.all_append, w_t1, ← List.take_append_drop 24 (words1.drop 24), List.all_append, w_t2, ← List.take_append_drop 24 ((words1.drop 24).drop 24), List.all_append, w_t3, w_t4]
  rfl
set_option maxRecDepth 65536 in
theorem w_rest : rest_1_c.before args0 about1 = true := by decide +kernel
set_option maxRecDepth 65536 in
theorem w_case : (Jvm.Cond.and given_1 narrow_1).before args0 about1 = true := by decide +kernel
theorem w_applies : (headSpec (Jvm.Cond.code x code maxLocals ret :: tables_1) room_1).applies x e0.platform about1 = true :=
  (Spec.applies_iff w_frames).mpr ⟨w_running, w_runnable, w_alone, w_named, w_hears, w_ripe, w_room, w_tables⟩
theorem atStart : AtStart classFile x code maxLocals ret World_1 tables_1 room_1 Calls_1 rest_1 Pre_1 launch0 p0 e0 about1 theMethod args0 below0 :=
  ⟨lists_1, trivial, launch0.admits_env _ _ _, launch0.least_env, fairChoices_fair.cas, fairChoices_fair.clock, w_frames, w_args, w_heap, w_applies, trivial, w_rest, w_case⟩
end start1
theorem witness_1 : WitnessClaimed_1 := ⟨start1.p0, start1.e0, start1.about1, start1.theMethod, start1.args0, start1.below0, start1.atStart⟩
end Jvm.Pilot.@@N@@
