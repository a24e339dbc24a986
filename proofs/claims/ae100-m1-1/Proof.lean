import JvmDerived
import JvmDerived.Pilot.@@N@@Statement
import JvmDerived.Pilot.@@N@@Code
set_option linter.unusedVariables false
set_option linter.unusedSimpArgs false
namespace Jvm.Pilot.@@N@@
open Jvm Jvm.ClassFile Sem Op Lib Jvm.Free Jvm.Stand Jvm.LawKit Jvm.RoadKit Bundle Jvm.Pilot.@@N@@.Jvm.D
/-! my own words: Go (the run comes from T to a state with P), a step, a return -/
def Go (tb : Tables) (e : Env) (below : List Frame) (P : State → Prop) (T : State) : Prop := ∃ u, P u ∧ ∀ t, Steps tb e below u t → Steps tb e below T t
theorem Go.by' {tb : Tables} {e : Env} {below : List Frame} {P : State → Prop} {T T' : State} (h : ∀ t, Steps tb e below T' t → Steps tb e below T t) (k : Go tb e below P T') : Go tb e below P T :=
  k.elim fun u q => ⟨u, q.1, fun t z => h t (q.2 t z)⟩
theorem Go.cast {tb : Tables} {e : Env} {below : List Frame} {P : State → Prop} {T : State} {g g' : JFrame} (q : g = g') (k : Go tb e below P (T.setTop g')) : Go tb e below P (T.setTop g) := q ▸ k
theorem Go.castF {tb : Tables} {e : Env} {below : List Frame} {P : State → Prop} {T : State} {α : Type} (F : α → JFrame) {a b : α} (q : a = b) (k : Go tb e below P (T.setTop (F b))) : Go tb e below P (T.setTop (F a)) := q ▸ k
def Fin' (s : State) (below : List Frame) (ce sl : Nat) (Q : Option Value → Heap → List Loc → Prop) (u : State) : Prop := u.status = .running ∧ ∃ o, Ended u below o ∧ ∃ v L, o = .returned v ∧ Q v u.heap L ∧ FrameEnd s o u L ce sl
theorem Go.body {tb : Tables} {e : Env} {below : List Frame} {s : State} {ce sl : Nat} {Q : Option Value → Heap → List Loc → Prop} {T : State} (h : Go tb e below (Fin' s below ce sl Q) T) :
    ∃ s₂ o, Steps tb e below T s₂ ∧ s₂.status = .running ∧ Ended s₂ below o ∧ ∃ v L, o = .returned v ∧ Q v s₂.heap L ∧ FrameEnd s o s₂ L ce sl := by
  obtain ⟨u, ⟨h1, o, h2, h3⟩, h4⟩ := h
  exact ⟨u, o, h4 u (Steps.refl _), h1, h2, h3⟩
section OwnStand
variable {p : Program} {l : Launch} {e : Env} {R : Room} {s : State} {m : MethodId} {args : Array Value} {below : List Frame} {meth : Method} {c : Code} {T : State} {locs : List Loc} {cells slots : Nat}
def Like (X : Stand p l e R s m args below meth c T locs cells slots) (T' : State) : Prop := Stand p l e R s m args below meth c T' locs cells slots
theorem Go.out (X : Stand p l e R s m args below meth c T locs cells slots) {v : Option Value} (hv : meth.sig.returnType = none → v = none) (hlocks : meth.locks = false) {g : JFrame} {ce sl : Nat} {Q : Option Value → Heap → List Loc → Prop}
    (st : ∀ fs : List Frame, (∀ (f : JFrame) (acts : List Action), f.method = m → f.locked = none → f.entered = [] → (doReturn e (T.setTop f) acts v).1 = T.setFrames fs) → Steps p.tables e below (T.setTop g) (T.setFrames fs))
    (hc : cells ≤ ce) (hs : slots ≤ sl) (q : Q v T.heap locs) : Go p.tables e below (Fin' s below ce sl Q) (T.setTop g) := by
  obtain ⟨fs, hr, hrun, hended, hW, hsame⟩ := X.leave (v := v) hv hlocks
  exact ⟨T.setFrames fs, ⟨hrun, _, hended, v, locs, rfl, q, ⟨_, rfl⟩, hW, hsame.mono hc hs⟩, fun t k => (st fs hr).trans k⟩
theorem Go.retI' (X : Stand p l e R s m args below meth c T locs cells slots) (hx : p.tables.exec = Jvm.exec) {pc : Nat} {Ls : Array Slot} {z : Int32} {rest : List Value} {t : FieldType} (hret : meth.sig.returnType = some t) (hlocks : meth.locks = false)
    (ht : t = .int ∨ t = .boolean ∨ t = .byte ∨ t = .char ∨ t = .short) (hn : narrow t (.int z) = .int z) (hd : decode c.code pc = .ok (.ireturn, 1)) {ce sl : Nat} {Q : Option Value → Heap → List Loc → Prop} (hc : cells ≤ ce) (hs : slots ≤ sl) (q : Q (some (.int z)) T.heap locs) :
    Go p.tables e below (Fin' s below ce sl Q) (T.setTop (mkF m pc Ls (.int z :: rest))) :=
  Go.out X (fun h => by rw [hret] at h; cases h) hlocks (fun _ hl => retOut X hx hret hn (Or.inl ⟨rfl, ht, z, rfl⟩) hd hl) hc hs q
theorem Go.retA' (X : Stand p l e R s m args below meth c T locs cells slots) (hx : p.tables.exec = Jvm.exec) {pc : Nat} {Ls : Array Slot} {w : Value} {rest : List Value} {t : FieldType} (hret : meth.sig.returnType = some t) (hlocks : meth.locks = false)
    (ht : t.isReference = true) (hw : w.isRef = true) (hd : decode c.code pc = .ok (.areturn, 1)) {ce sl : Nat} {Q : Option Value → Heap → List Loc → Prop} (hc : cells ≤ ce) (hs : slots ≤ sl) (q : Q (some w) T.heap locs) :
    Go p.tables e below (Fin' s below ce sl Q) (T.setTop (mkF m pc Ls (w :: rest))) :=
  Go.out X (fun h => by rw [hret] at h; cases h) hlocks (fun _ hl => retOut X hx hret (by cases t <;> first | (cases ht; done) | (rcases ref_cases hw with rfl | ⟨z, rfl⟩ <;> rfl)) (Or.inr (Or.inr (Or.inr (Or.inr ⟨rfl, ht, hw⟩)))) hd hl) hc hs q
theorem Go.retD' (X : Stand p l e R s m args below meth c T locs cells slots) (hx : p.tables.exec = Jvm.exec) {pc : Nat} {Ls : Array Slot} {z : UInt64} {rest : List Value} (hret : meth.sig.returnType = some .double) (hlocks : meth.locks = false)
    (hd : decode c.code pc = .ok (.dreturn, 1)) {ce sl : Nat} {Q : Option Value → Heap → List Loc → Prop} (hc : cells ≤ ce) (hs : slots ≤ sl) (q : Q (some (.double z)) T.heap locs) :
    Go p.tables e below (Fin' s below ce sl Q) (T.setTop (mkF m pc Ls (.double z :: rest))) :=
  Go.out X (fun h => by rw [hret] at h; cases h) hlocks (fun _ hl => retOut X hx hret rfl (Or.inr (Or.inr (Or.inl ⟨rfl, rfl, z, rfl⟩))) hd hl) hc hs q
theorem Go.retV' (X : Stand p l e R s m args below meth c T locs cells slots) (hx : p.tables.exec = Jvm.exec) {pc : Nat} {Ls : Array Slot} (hret : meth.sig.returnType = none) (hlocks : meth.locks = false)
    (hd : decode c.code pc = .ok (.return_, 1)) {ce sl : Nat} {Q : Option Value → Heap → List Loc → Prop} (hc : cells ≤ ce) (hs : slots ≤ sl) (q : Q none T.heap locs) :
    Go p.tables e below (Fin' s below ce sl Q) (T.setTop (mkF m pc Ls [])) :=
  Go.out X (fun _ => rfl) hlocks (fun _ hl => X.returnOut hx hret hd hl) hc hs q
end OwnStand
theorem own_nb {z : Int32} (h : z = 0 ∨ z = 1) : narrow .boolean (.int z) = .int z := by rcases h with rfl | rfl <;> rfl
theorem own_fb {z : Int32} (h : z = 0 ∨ z = 1) : fits .boolean (.int z) = true := by rcases h with rfl | rfl <;> rfl
theorem own_bb {x : Int32} : nar .byte (x.toInt8.toInt32) = x.toInt8.toInt32 := by show x.toInt8.toInt32.toInt8.toInt32 = x.toInt8.toInt32; simp
theorem own_nm (x : Int32) : nar .char (x &&& (255 : Int32)) = (x &&& (255 : Int32)) := i2c_mask x
theorem own_i2c {x : Int32} (h0 : ¬ x < (0 : Int32)) (h1 : ¬ (255 : Int32) < x) : x.toUInt32.toUInt16.toUInt32.toInt32 = x := by
  have a := c_i2c x
  have z0 : (0 : Int32).toInt = 0 := rfl
  have z1 : (255 : Int32).toInt = 255 := rfl
  rw [Int32.lt_iff_toInt_lt] at h0 h1
  rw [← Int32.toInt_inj]; omega
theorem own_nc {x : Int32} (h0 : ¬ x < (0 : Int32)) (h1 : ¬ (255 : Int32) < x) : nar .char x = x := own_i2c h0 h1
theorem own_b8 {x y : Int32} (h0 : ¬ x < (0 : Int32)) (h1 : ¬ (255 : Int32) < x) (h2 : ¬ y < (0 : Int32)) (h3 : ¬ (255 : Int32) < y) : (x.toInt8.toInt32) = (y.toInt8.toInt32) ↔ x = y := by
  have a := c_i2b x
  have b := c_i2b y
  have z0 : (0 : Int32).toInt = 0 := rfl
  have z1 : (255 : Int32).toInt = 255 := rfl
  rw [Int32.lt_iff_toInt_lt] at h0 h1 h2 h3
  rw [← Int32.toInt_inj, ← Int32.toInt_inj]; omega
theorem own_m (x : Int32) : ¬ (x &&& (255 : Int32)) < (0 : Int32) ∧ ¬ (255 : Int32) < (x &&& (255 : Int32)) := by
  have h := c_mask x 255 8 (by decide) (by decide)
  have z0 : (0 : Int32).toInt = 0 := rfl
  have z1 : (255 : Int32).toInt = 255 := rfl
  rw [Int32.lt_iff_toInt_lt, Int32.lt_iff_toInt_lt]; omega
theorem own_le {Z : State} {n0 : Nat} {h : Heap} (X : Old Z n0 h) : n0 ≤ h.size := X.1 ▸ X.2.1
theorem own_len {Z : State} {args : Array Value} {t : Term} {a : Addr} {cl : Cell} {ty : FieldType} {z : Int32} (ht : t.eval args Z none [] Z = some (.ref a)) (A : Arr Z Z.heap a cl ty) (h : (Term.length t).eval args Z none [] Z = some (.int z)) : cl.slots.size < 2 ^ 31 ∧ cl.slots.size.toInt32 = z := by
  have ha := Arr.fin (Vm.Alike.refl _) A
  by_cases q : cl.slots.size < 2 ^ 31
  · exact ⟨q, Value.int.inj (Option.some.inj ((len_f ht ha q).symm.trans h))⟩
  · exfalso; simp [Term.eval, ht, ha] at h; exact q (by omega)
theorem own_eqr {Z : State} {args : Array Value} {X F : Term} {a : Addr} (hF : F.eval args Z none [] Z = some (.ref a)) (h : (Cond.eq X F).value args Z none Z [] = some true) : X.eval args Z none [] Z = some (.ref a) := by
  obtain ⟨x, y', e1, e2, k1, k2⟩ := cmp_v (Or.inl h)
  cases hF.symm.trans e2
  have hx : x.isRef = true := k2.2
  have := gotT (eq_R e1 hF hx rfl) h
  rw [e1, this]
theorem own_sub {args : Array Value} {first s : State} {o : Option Outcome} {idx : List Nat} {a b : Term} {x y : Int32} (ha : a.eval args first o idx s = some (.int x)) (hb : b.eval args first o idx s = some (.int y)) : (Term.sub a b).eval args first o idx s = some (.int (x - y)) := by simp [Term.eval, ha, hb]
def Gh (Z : State) (wD : Addr) (kD : ClassId) (wC : Addr) (cC : Cell) : Prop := (Sta Z Z.heap "java/util/ArrayList" "DEFAULTCAPACITY_EMPTY_ELEMENTDATA" "[Ljava/lang/Object;" (.ref wD)) ∧ (Exa Z Z.heap wD "[Ljava/lang/Object;") ∧ (Arv Z Z.heap wD kD (.object "java/lang/Object") (0 : Int32) [] Value.null) ∧ (Sta Z Z.heap "java/lang/Integer$IntegerCache" "high" "I" (.int (127 : Int32))) ∧ (Sta Z Z.heap "java/lang/Integer$IntegerCache" "cache" "[Ljava/lang/Integer;" (.ref wC)) ∧ (Bxs Z wC cC "java/lang/Integer" "I" (256 : Int32) (fun j => .int (j - 128)))
theorem d9_0 : decode jdk_18_method_1_code 0 = .ok (.aload_n 0, 1) := by decide +kernel
theorem d9_1 : decode jdk_18_method_1_code 1 = .ok (.invokespecial 1, 3) := by decide +kernel
theorem d9_4 : decode jdk_18_method_1_code 4 = .ok (.return_, 1) := by decide +kernel
theorem pn_9 : plainName "java/lang/Number" = true := by first | (simp [plainName, overriddenIn]; done) | decide +kernel
set_option maxHeartbeats 4000000 in
theorem ef_rmNum (m : MethodId) {al : Addr} : entryFrame m #[(.ref al)] 1 = mkF m 0 #[.val (.ref al)] [] := by first | (simp [entryFrame, mkF, argsToLocals, Value.category]; done) | rfl
def QrmNum (Z : State) (wD : Addr) (kD : ClassId) (wC : Addr) (cC : Cell) (al : Addr) (h0 : Heap) (n0 : Nat) (v : Option Value) (h : Heap) (L : List Loc) : Prop := (v = none) ∧ (L = []) ∧ (h = h0)
set_option maxRecDepth 65536 in
set_option maxHeartbeats 40000000 in
theorem rmNum (l : Launch) (Z : State) (a0 : Array Value) (hw : ∀ d ∈ tables_1, d.before a0 Z = true) (ws : List Jvm.Cond) (wD : Addr) (kD : ClassId) (wC : Addr) (cC : Cell) (G : Gh Z wD kD wC cC) (al : Addr) (h0 : Heap) (n0 : Nat) (O0 : Old Z n0 h0) :
    MetFree l (⟨"java/lang/Number", "<init>", "()V"⟩ : MethodName) (head1 (Jvm.Cond.code (⟨"java/lang/Number", "<init>", "()V"⟩ : MethodName) jdk_18_method_1_code 1 none :: ws) ({ frames := 1, cells := 0, slots := 0, locals := 12 } : Room)) (fun aa' UU' => aa' = #[(.ref al)] ∧ Z.Warmed39 UU'.vm ∧ UU'.heap = h0) (fun _ _ _ _ _ => True) (fun _ UU' oo' VV' => ∃ v' L', oo' = .returned v' ∧ QrmNum Z wD kD wC cC al h0 n0 v' VV'.heap L' ∧ FrameEnd UU' oo' VV' L' ({ frames := 1, cells := 0, slots := 0, locals := 12 } : Room).cells ({ frames := 1, cells := 0, slots := 0, locals := 12 } : Room).slots) := by
  refine MetFree.of_bodySF (plainFor_of_name pn_9) hisR ?_
  intro p e s m args below meth c s₁ Bd hml0 hP hK
  obtain ⟨rfl, hZ, hh⟩ := hP
  have hx := Bd.exec
  have hby := Bd.bytes
  have hlk := Bd.notSynchronized
  have hml : c.maxLocals = 1 := hml0
  have hown : s.vm.findClass "java/lang/Number" = some m.cls := findClass_of_methodNamed Bd.named
  have hnm := (name_of_methodNamed Bd.named Bd.method).1
  have hret := Bd.returns
  have X0 : Stand p l e ({ frames := 1, cells := 0, slots := 0, locals := 12 } : Room) s m #[(.ref al)] below meth c s₁ [] 0 0 := Stand.of_body Bd
  have e0 : s₁.heap = h0 := by rw [← hh, Bd.state]; rfl
  have N0 := Fr.nil n0
  refine Go.body ?_
  obtain ⟨Pf, hPf⟩ : ∃ P, P = Fin' s below ({ frames := 1, cells := 0, slots := 0, locals := 12 } : Room).cells ({ frames := 1, cells := 0, slots := 0, locals := 12 } : Room).slots (QrmNum Z wD kD wC cC al h0 n0) := ⟨_, rfl⟩
  rw [← hPf]
  refine Go.cast (ef_rmNum m) ?_
  have hw19 := (hw _ (List.mem_of_getElem? (i := 19) rfl))
  have hw20 := (hw _ (List.mem_of_getElem? (i := 20) rfl))
  have hw62 := (hw _ (List.mem_of_getElem? (i := 62) rfl))
  show Go p.tables e below Pf (s₁.setTop (mkF m 0 #[.val (.ref al)] []))
  refine Go.by' (fun t k => (XS.aloadN X0.here hx rfl (hb hby d9_0) rfl rfl k)) ?_
  show Go p.tables e below Pf (s₁.setTop (mkF m 1 #[.val (.ref al)] [(.ref al)]))
  obtain ⟨T1, X1, e1, st1⟩ := initO X0 hx hZ hown hw62 hw19 hw20 e0 (g := (mkF m 1 #[.val (.ref al)] [(.ref al)])) rfl (by rw [hml]; rfl) rfl (hb hby d9_1) (by decide) (W := 0) (by show 2 * 0 + _ ≤ _; exact Nat.le_of_eq rfl) (by decide)
  refine Go.by' st1 ?_
  show Go p.tables e below Pf (T1.setTop (mkF m 4 #[.val (.ref al)] []))
  rw [hPf]
  exact Go.retV' X1 hx hret hlk (hb hby d9_4) (by decide) (by decide) ⟨rfl, rfl, e1⟩
theorem d8_0 : decode jdk_33_method_23_code 0 = .ok (.aload_n 0, 1) := by decide +kernel
theorem d8_1 : decode jdk_33_method_23_code 1 = .ok (.invokespecial 202, 3) := by decide +kernel
theorem pd_0 : parseMethodDescriptor "()V" = some ⟨[], none⟩ := by decide +kernel
theorem d8_4 : decode jdk_33_method_23_code 4 = .ok (.aload_n 0, 1) := by decide +kernel
theorem d8_5 : decode jdk_33_method_23_code 5 = .ok (.iload_n 1, 1) := by decide +kernel
theorem d8_6 : decode jdk_33_method_23_code 6 = .ok (.putfield 205, 3) := by decide +kernel
theorem d8_9 : decode jdk_33_method_23_code 9 = .ok (.return_, 1) := by decide +kernel
theorem pn_8 : plainName "java/lang/Integer" = true := by first | (simp [plainName, overriddenIn]; done) | decide +kernel
set_option maxHeartbeats 4000000 in
theorem ef_rmII (m : MethodId) {al : Addr} {iv : Int32} : entryFrame m #[(.ref al), (.int iv)] 2 = mkF m 0 #[.val (.ref al), .val (.int iv)] [] := by first | (simp [entryFrame, mkF, argsToLocals, Value.category]; done) | rfl
def QrmII (Z : State) (wD : Addr) (kD : ClassId) (wC : Addr) (cC : Cell) (al : Addr) (iv : Int32) (h0 : Heap) (n0 : Nat) (v : Option Value) (h : Heap) (L : List Loc) : Prop := (v = none) ∧ (Fr n0 L) ∧ (Keep h0 h [al]) ∧ (Exa Z h al "java/lang/Integer") ∧ (Fld Z h al "java/lang/Integer" "value" "I" (.int iv))
set_option maxRecDepth 65536 in
set_option maxHeartbeats 40000000 in
theorem rmII (l : Launch) (Z : State) (a0 : Array Value) (hw : ∀ d ∈ tables_1, d.before a0 Z = true) (ws : List Jvm.Cond) (wD : Addr) (kD : ClassId) (wC : Addr) (cC : Cell) (G : Gh Z wD kD wC cC) (al : Addr) (iv : Int32) (h0 : Heap) (n0 : Nat) (O0 : Old Z n0 h0) (EX : Exa Z h0 al "java/lang/Integer") (FV : Fld Z h0 al "java/lang/Integer" "value" "I" (.int (0 : Int32))) (g_al : n0 ≤ al) :
    MetFree l (⟨"java/lang/Integer", "<init>", "(I)V"⟩ : MethodName) (head1 (Jvm.Cond.code (⟨"java/lang/Integer", "<init>", "(I)V"⟩ : MethodName) jdk_33_method_23_code 2 none :: ws) ({ frames := 2, cells := 0, slots := 0, locals := 24 } : Room)) (fun aa' UU' => aa' = #[(.ref al), (.int iv)] ∧ Z.Warmed39 UU'.vm ∧ UU'.heap = h0) (fun _ _ _ _ _ => True) (fun _ UU' oo' VV' => ∃ v' L', oo' = .returned v' ∧ QrmII Z wD kD wC cC al iv h0 n0 v' VV'.heap L' ∧ FrameEnd UU' oo' VV' L' ({ frames := 2, cells := 0, slots := 0, locals := 24 } : Room).cells ({ frames := 2, cells := 0, slots := 0, locals := 24 } : Room).slots) := by
  refine MetFree.of_bodySF (plainFor_of_name pn_8) hisR ?_
  intro p e s m args below meth c s₁ Bd hml0 hP hK
  obtain ⟨rfl, hZ, hh⟩ := hP
  have hx := Bd.exec
  have hby := Bd.bytes
  have hlk := Bd.notSynchronized
  have hml : c.maxLocals = 2 := hml0
  have hown : s.vm.findClass "java/lang/Integer" = some m.cls := findClass_of_methodNamed Bd.named
  have hnm := (name_of_methodNamed Bd.named Bd.method).1
  have hret := Bd.returns
  have X0 : Stand p l e ({ frames := 2, cells := 0, slots := 0, locals := 24 } : Room) s m #[(.ref al), (.int iv)] below meth c s₁ [] 0 0 := Stand.of_body Bd
  have e0 : s₁.heap = h0 := by rw [← hh, Bd.state]; rfl
  have N0 := Fr.nil n0
  have KC0 : Keep h0 h0 [al] := Keep.refl _ _
  refine Go.body ?_
  obtain ⟨Pf, hPf⟩ : ∃ P, P = Fin' s below ({ frames := 2, cells := 0, slots := 0, locals := 24 } : Room).cells ({ frames := 2, cells := 0, slots := 0, locals := 24 } : Room).slots (QrmII Z wD kD wC cC al iv h0 n0) := ⟨_, rfl⟩
  rw [← hPf]
  refine Go.cast (ef_rmII m) ?_
  have hw51 := (hw _ (List.mem_of_getElem? (i := 51) rfl))
  have hw56 := (hw _ (List.mem_of_getElem? (i := 56) rfl))
  have hw57 := (hw _ (List.mem_of_getElem? (i := 57) rfl))
  have hw60 := (hw _ (List.mem_of_getElem? (i := 60) rfl))
  have hw61 := (hw _ (List.mem_of_getElem? (i := 61) rfl))
  have hw63 := (hw _ (List.mem_of_getElem? (i := 63) rfl))
  have hw64 := (hw _ (List.mem_of_getElem? (i := 64) rfl))
  show Go p.tables e below Pf (s₁.setTop (mkF m 0 #[.val (.ref al), .val (.int iv)] []))
  refine Go.by' (fun t k => (XS.aloadN X0.here hx rfl (hb hby d8_0) rfl rfl k)) ?_
  show Go p.tables e below Pf (s₁.setTop (mkF m 1 #[.val (.ref al), .val (.int iv)] [(.ref al)]))
  obtain ⟨_, _, ⟨T2, L2, k2, n2⟩, -, X2, ⟨Lc2, hQ2, l2, y2, z2⟩, st2⟩ := X0.specialBack hx (y := (⟨"java/lang/Number", "<init>", "()V"⟩ : MethodName)) rfl hown (mvT hZ hw56) (mvT hZ hw57) (mvT hZ hw61) (by decide) (backOf (W := 0) (rmNum l Z a0 hw [] wD kD wC cC G al h0 n0 O0 ) hZ hw61 hw60 (by decide) (by decide)) (g := (mkF m 1 #[.val (.ref al), .val (.int iv)] [(.ref al)])) rfl (by rw [hml]; rfl) (Steps.refl _) (a := al) (argsL := []) (rest := []) (lenOf pd_0 rfl) rfl (by show 2 * 0 + _ ≤ _; exact Nat.le_of_eq rfl) (hb hby d8_1) (fun _ _ => ⟨rfl, e0, (by decide : 0 + 0 ≤ _), (by decide : 0 + 0 ≤ _)⟩)
  dsimp only [Pt.U, Pt.locs, Pt.cells, Pt.slots] at X2 l2 y2 z2 st2 hQ2
  subst l2 y2 z2
  obtain ⟨rfl, rfl, e2⟩ := hQ2
  try rw [List.append_nil] at X2
  refine Go.by' (fun t k => st2.trans k) ?_
  show Go p.tables e below Pf (T2.setTop (mkF m 4 #[.val (.ref al), .val (.int iv)] []))
  refine Go.by' (fun t k => (XS.aloadN X2.here hx rfl (hb hby d8_4) rfl rfl (XS.iloadN X2.here hx rfl (hb hby d8_5) rfl k))) ?_
  show Go p.tables e below Pf (T2.setTop (mkF m 6 #[.val (.ref al), .val (.int iv)] [(.int iv), (.ref al)]))
  obtain ⟨T3, h3, X3, e3, W3, st3⟩ := putF X2 hx hZ hown (host := "") (Or.inl hw63) Via.refl e2 FV EX (Or.inr ⟨hw64, rfl, hnm⟩) hw51 (ty := .int) (by decide) rfl rfl (g := (mkF m 6 #[.val (.ref al), .val (.int iv)] [(.int iv), (.ref al)])) rfl rfl (hb hby d8_6)
  refine Go.by' st3 ?_
  have Fw3 : Fld Z h3 al "java/lang/Integer" "value" "I" (Value.int iv) := FV.same W3
  have N3 := Fr.snoc X3 N0 g_al
  have O3 := O0.wr W3 g_al
  have KC3 : Keep h0 h3 [al] := KC0.wr W3 (Or.inl (List.mem_of_getElem? (i := 0) rfl))
  show Go p.tables e below Pf (T3.setTop (mkF m 9 #[.val (.ref al), .val (.int iv)] []))
  rw [hPf]
  exact Go.retV' X3 hx hret hlk (hb hby d8_9) (by decide) (by decide) ⟨rfl, N3, (by rw [e3]; exact KC3), (by rw [e3]; exact (EX.wr W3)), (by rw [e3]; exact Fw3)⟩
theorem own_ix {iv : Int32} (h1 : ¬ iv < (-128 : Int32)) (h2 : ¬ (127 : Int32) < iv) : ¬ (iv + (128 : Int32)) < 0 ∧ (iv + (128 : Int32)) < (256 : Int32) := by
  have a1 : (-128 : Int32).toInt = -128 := rfl
  have a2 : (127 : Int32).toInt = 127 := rfl
  have a3 : (0 : Int32).toInt = 0 := rfl
  have a4 : (256 : Int32).toInt = 256 := rfl
  have a5 : (128 : Int32).toInt = 128 := rfl
  have c := c_iadd iv 128
  have r := rng32 (iv + 128)
  simp only [Int32.lt_iff_toInt_lt] at *
  omega
theorem own_iv (iv : Int32) : (iv + (128 : Int32)) - 128 = iv := by rw [Int32.add_sub_cancel]
theorem d7_0 : decode jdk_33_method_22_code 0 = .ok (.iload_n 0, 1) := by decide +kernel
theorem d7_1 : decode jdk_33_method_22_code 1 = .ok (.bipush (-128), 2) := by decide +kernel
theorem d7_3 : decode jdk_33_method_22_code 3 = .ok (.if_icmp .lt 20, 3) := by decide +kernel
theorem d7_23 : decode jdk_33_method_22_code 23 = .ok (.new 1, 3) := by decide +kernel
theorem d7_26 : decode jdk_33_method_22_code 26 = .ok (.dup, 1) := by decide +kernel
theorem d7_27 : decode jdk_33_method_22_code 27 = .ok (.iload_n 0, 1) := by decide +kernel
theorem d7_28 : decode jdk_33_method_22_code 28 = .ok (.invokespecial 199, 3) := by decide +kernel
theorem pd_1 : parseMethodDescriptor "(I)V" = some ⟨[.int], none⟩ := by decide +kernel
theorem d7_31 : decode jdk_33_method_22_code 31 = .ok (.areturn, 1) := by decide +kernel
theorem d7_6 : decode jdk_33_method_22_code 6 = .ok (.iload_n 0, 1) := by decide +kernel
theorem d7_7 : decode jdk_33_method_22_code 7 = .ok (.getstatic 191, 3) := by decide +kernel
theorem d7_10 : decode jdk_33_method_22_code 10 = .ok (.if_icmp .gt 13, 3) := by decide +kernel
theorem d7_13 : decode jdk_33_method_22_code 13 = .ok (.getstatic 195, 3) := by decide +kernel
theorem d7_16 : decode jdk_33_method_22_code 16 = .ok (.iload_n 0, 1) := by decide +kernel
theorem d7_17 : decode jdk_33_method_22_code 17 = .ok (.sipush 128, 3) := by decide +kernel
theorem d7_20 : decode jdk_33_method_22_code 20 = .ok (.iadd, 1) := by decide +kernel
theorem d7_21 : decode jdk_33_method_22_code 21 = .ok (.aaload, 1) := by decide +kernel
theorem d7_22 : decode jdk_33_method_22_code 22 = .ok (.areturn, 1) := by decide +kernel
theorem pn_7 : plainName "java/lang/Integer" = true := by first | (simp [plainName, overriddenIn]; done) | decide +kernel
set_option maxHeartbeats 4000000 in
theorem ef_rmVO (m : MethodId) {iv : Int32} : entryFrame m #[(.int iv)] 1 = mkF m 0 #[.val (.int iv)] [] := by first | (simp [entryFrame, mkF, argsToLocals, Value.category]; done) | rfl
def QrmVO (Z : State) (wD : Addr) (kD : ClassId) (wC : Addr) (cC : Cell) (iv : Int32) (h0 : Heap) (n0 : Nat) (v : Option Value) (h : Heap) (L : List Loc) : Prop := ∃ (r : Addr), (v = some (.ref r)) ∧ (Fr n0 L) ∧ (Keep h0 h []) ∧ (Exa Z h r "java/lang/Integer") ∧ (Fld Z h r "java/lang/Integer" "value" "I" (.int iv))
set_option maxRecDepth 65536 in
set_option maxHeartbeats 40000000 in
theorem rmVO (l : Launch) (Z : State) (a0 : Array Value) (hw : ∀ d ∈ tables_1, d.before a0 Z = true) (ws : List Jvm.Cond) (wD : Addr) (kD : ClassId) (wC : Addr) (cC : Cell) (G : Gh Z wD kD wC cC) (iv : Int32) (h0 : Heap) (n0 : Nat) (O0 : Old Z n0 h0) :
    MetFree l (⟨"java/lang/Integer", "valueOf", "(I)Ljava/lang/Integer;"⟩ : MethodName) (head1 (Jvm.Cond.code (⟨"java/lang/Integer", "valueOf", "(I)Ljava/lang/Integer;"⟩ : MethodName) jdk_33_method_22_code 1 (some (.object "java/lang/Integer")) :: ws) ({ frames := 3, cells := 1, slots := 1, locals := 38 } : Room)) (fun aa' UU' => aa' = #[(.int iv)] ∧ Z.Warmed39 UU'.vm ∧ UU'.heap = h0) (fun _ _ _ _ _ => True) (fun _ UU' oo' VV' => ∃ v' L', oo' = .returned v' ∧ QrmVO Z wD kD wC cC iv h0 n0 v' VV'.heap L' ∧ FrameEnd UU' oo' VV' L' ({ frames := 3, cells := 1, slots := 1, locals := 38 } : Room).cells ({ frames := 3, cells := 1, slots := 1, locals := 38 } : Room).slots) := by
  refine MetFree.of_bodySF (plainFor_of_name pn_7) hisR ?_
  intro p e s m args below meth c s₁ Bd hml0 hP hK
  obtain ⟨rfl, hZ, hh⟩ := hP
  have hx := Bd.exec
  have hby := Bd.bytes
  have hlk := Bd.notSynchronized
  have hml : c.maxLocals = 1 := hml0
  have hown : s.vm.findClass "java/lang/Integer" = some m.cls := findClass_of_methodNamed Bd.named
  have hnm := (name_of_methodNamed Bd.named Bd.method).1
  have hret := Bd.returns
  have X0 : Stand p l e ({ frames := 3, cells := 1, slots := 1, locals := 38 } : Room) s m #[(.int iv)] below meth c s₁ [] 0 0 := Stand.of_body Bd
  have e0 : s₁.heap = h0 := by rw [← hh, Bd.state]; rfl
  have N0 := Fr.nil n0
  have KC0 : Keep h0 h0 [] := Keep.refl _ _
  refine Go.body ?_
  obtain ⟨Pf, hPf⟩ : ∃ P, P = Fin' s below ({ frames := 3, cells := 1, slots := 1, locals := 38 } : Room).cells ({ frames := 3, cells := 1, slots := 1, locals := 38 } : Room).slots (QrmVO Z wD kD wC cC iv h0 n0) := ⟨_, rfl⟩
  rw [← hPf]
  refine Go.cast (ef_rmVO m) ?_
  have hw46 := (hw _ (List.mem_of_getElem? (i := 46) rfl))
  have hw48 := (hw _ (List.mem_of_getElem? (i := 48) rfl))
  have hw50 := (hw _ (List.mem_of_getElem? (i := 50) rfl))
  have hw51 := (hw _ (List.mem_of_getElem? (i := 51) rfl))
  have hw52 := (hw _ (List.mem_of_getElem? (i := 52) rfl))
  have hw53 := (hw _ (List.mem_of_getElem? (i := 53) rfl))
  have hw55 := (hw _ (List.mem_of_getElem? (i := 55) rfl))
  have hw64 := (hw _ (List.mem_of_getElem? (i := 64) rfl))
  have hw118 := (hw _ (List.mem_of_getElem? (i := 118) rfl))
  show Go p.tables e below Pf (s₁.setTop (mkF m 0 #[.val (.int iv)] []))
  refine Go.by' (fun t k => (XS.iloadN X0.here hx rfl (hb hby d7_0) rfl (XS.bipush X0.here hx rfl (hb hby d7_1) k))) ?_
  show Go p.tables e below Pf (s₁.setTop (mkF m 3 #[.val (.int iv)] [(.int (-128 : Int32)), (.int iv)]))
  by_cases hc4 : iv < (-128 : Int32)
  · refine Go.by' (fun t k => (XS.icmpYes X0.here hx rfl (pc0 := 3) (pc' := 23) rfl (hb hby d7_3) rfl (tlt hc4).1 (by decide) (by decide) k)) ?_
    show Go p.tables e below Pf (s₁.setTop (mkF m 23 #[.val (.int iv)] []))
    obtain ⟨T5, h5, X5, e5, E5, A5, D5, -, st5⟩ := newO X0 hx hZ hown hw50 hw51 hw46 e0 (g := (mkF m 23 #[.val (.int iv)] [])) rfl (hb hby d7_23) (by decide) (by decide)
    obtain ⟨b5, g5⟩ : ∃ z, z = h0.size := ⟨_, rfl⟩
    rw [← g5] at A5 D5 st5
    refine Go.by' st5 ?_
    have g_b5 : n0 ≤ b5 := Nat.le_trans (own_le O0) (Nat.le_of_eq g5.symm)
    have sz_b5 : h0.size ≤ b5 := Nat.le_trans KC0.1 (Nat.le_of_eq g5.symm)
    have O5 := O0.ext E5
    have KC5 : Keep h0 h5 [] := KC0.ext E5
    have Fn5_64 : Fld Z h5 b5 "java/lang/Integer" "value" "I" (Value.int (0 : Int32)) := D5 (Or.inr hw64) (ty := .int) (by decide)
    show Go p.tables e below Pf (T5.setTop (mkF m 26 #[.val (.int iv)] [(.ref b5)]))
    refine Go.by' (fun t k => (XS.dup X5.here hx rfl (hb hby d7_26) rfl rfl (XS.iloadN X5.here hx rfl (hb hby d7_27) rfl k))) ?_
    show Go p.tables e below Pf (T5.setTop (mkF m 28 #[.val (.int iv)] [(.int iv), (.ref b5), (.ref b5)]))
    obtain ⟨_, _, ⟨T6, L6, k6, n6⟩, -, X6, ⟨Lc6, hQ6, l6, y6, z6⟩, st6⟩ := X5.specialBack hx (y := (⟨"java/lang/Integer", "<init>", "(I)V"⟩ : MethodName)) rfl hown (mvT hZ hw52) (mvT hZ hw53) (mvT hZ hw55) (by decide) (backOf (W := 1) (rmII l Z a0 hw [] wD kD wC cC G b5 iv h5 n0 O5 A5 Fn5_64 g_b5) hZ hw55 hw46 (by decide) (by decide)) (g := (mkF m 28 #[.val (.int iv)] [(.int iv), (.ref b5), (.ref b5)])) rfl (by rw [hml]; rfl) (Steps.refl _) (a := b5) (argsL := [(.int iv)]) (rest := [(.ref b5)]) (lenOf pd_1 rfl) rfl (by show 2 * 0 + _ ≤ _; exact Nat.le_of_eq rfl) (hb hby d7_28) (fun _ _ => ⟨rfl, e5, (by decide : 1 + 0 ≤ _), (by decide : 1 + 0 ≤ _)⟩)
    dsimp only [Pt.U, Pt.locs, Pt.cells, Pt.slots] at X6 l6 y6 z6 st6 hQ6
    subst l6 y6 z6
    obtain ⟨rfl, N6q, K6, f6_0, f6_1⟩ := hQ6
    have N6 := Fr.app N0 N6q
    refine Go.by' (fun t k => st6.trans k) ?_
    have O6 := O5.keep K6 (allS g_b5 all0)
    have KC6 : Keep h0 T6.heap [] := KC5.trans K6 (allS (Or.inr sz_b5) all0)
    show Go p.tables e below Pf (T6.setTop (mkF m 31 #[.val (.int iv)] [(.ref b5)]))
    rw [hPf]
    exact Go.retA' X6 hx hret hlk rfl rfl (hb hby d7_31) (by decide) (by decide) ⟨b5, rfl, N6, KC6, f6_0, f6_1⟩
  · refine Go.by' (fun t k => (XS.icmpNo X0.here hx rfl (hb hby d7_3) rfl (flt hc4).1 (XS.iloadN X0.here hx rfl (hb hby d7_6) rfl k))) ?_
    show Go p.tables e below Pf (s₁.setTop (mkF m 7 #[.val (.int iv)] [(.int iv)]))
    obtain ⟨T7, X7, e7, st7⟩ := getS2 X0 hx hZ hown (host := "") (Or.inl hw48) Via.refl e0 (G.2.2.2.1.ext O0.2) (g := (mkF m 7 #[.val (.int iv)] [(.int iv)])) rfl (hb hby d7_7)
    refine Go.by' st7 ?_
    show Go p.tables e below Pf (T7.setTop (mkF m 10 #[.val (.int iv)] [(.int (127 : Int32)), (.int iv)]))
    by_cases hc8 : (127 : Int32) < iv
    · refine Go.by' (fun t k => (XS.icmpYes X7.here hx rfl (pc0 := 10) (pc' := 23) rfl (hb hby d7_10) rfl (tlt hc8).2.2.1 (by decide) (by decide) k)) ?_
      show Go p.tables e below Pf (T7.setTop (mkF m 23 #[.val (.int iv)] []))
      obtain ⟨T9, h9, X9, e9, E9, A9, D9, -, st9⟩ := newO X7 hx hZ hown hw50 hw51 hw46 e7 (g := (mkF m 23 #[.val (.int iv)] [])) rfl (hb hby d7_23) (by decide) (by decide)
      obtain ⟨b9, g9⟩ : ∃ z, z = h0.size := ⟨_, rfl⟩
      rw [← g9] at A9 D9 st9
      refine Go.by' st9 ?_
      have g_b9 : n0 ≤ b9 := Nat.le_trans (own_le O0) (Nat.le_of_eq g9.symm)
      have sz_b9 : h0.size ≤ b9 := Nat.le_trans KC0.1 (Nat.le_of_eq g9.symm)
      have O9 := O0.ext E9
      have KC9 : Keep h0 h9 [] := KC0.ext E9
      have Fn9_64 : Fld Z h9 b9 "java/lang/Integer" "value" "I" (Value.int (0 : Int32)) := D9 (Or.inr hw64) (ty := .int) (by decide)
      show Go p.tables e below Pf (T9.setTop (mkF m 26 #[.val (.int iv)] [(.ref b9)]))
      refine Go.by' (fun t k => (XS.dup X9.here hx rfl (hb hby d7_26) rfl rfl (XS.iloadN X9.here hx rfl (hb hby d7_27) rfl k))) ?_
      show Go p.tables e below Pf (T9.setTop (mkF m 28 #[.val (.int iv)] [(.int iv), (.ref b9), (.ref b9)]))
      obtain ⟨_, _, ⟨T10, L10, k10, n10⟩, -, X10, ⟨Lc10, hQ10, l10, y10, z10⟩, st10⟩ := X9.specialBack hx (y := (⟨"java/lang/Integer", "<init>", "(I)V"⟩ : MethodName)) rfl hown (mvT hZ hw52) (mvT hZ hw53) (mvT hZ hw55) (by decide) (backOf (W := 1) (rmII l Z a0 hw [] wD kD wC cC G b9 iv h9 n0 O9 A9 Fn9_64 g_b9) hZ hw55 hw46 (by decide) (by decide)) (g := (mkF m 28 #[.val (.int iv)] [(.int iv), (.ref b9), (.ref b9)])) rfl (by rw [hml]; rfl) (Steps.refl _) (a := b9) (argsL := [(.int iv)]) (rest := [(.ref b9)]) (lenOf pd_1 rfl) rfl (by show 2 * 0 + _ ≤ _; exact Nat.le_of_eq rfl) (hb hby d7_28) (fun _ _ => ⟨rfl, e9, (by decide : 1 + 0 ≤ _), (by decide : 1 + 0 ≤ _)⟩)
      dsimp only [Pt.U, Pt.locs, Pt.cells, Pt.slots] at X10 l10 y10 z10 st10 hQ10
      subst l10 y10 z10
      obtain ⟨rfl, N10q, K10, f10_0, f10_1⟩ := hQ10
      have N10 := Fr.app N0 N10q
      refine Go.by' (fun t k => st10.trans k) ?_
      have O10 := O9.keep K10 (allS g_b9 all0)
      have KC10 : Keep h0 T10.heap [] := KC9.trans K10 (allS (Or.inr sz_b9) all0)
      show Go p.tables e below Pf (T10.setTop (mkF m 31 #[.val (.int iv)] [(.ref b9)]))
      rw [hPf]
      exact Go.retA' X10 hx hret hlk rfl rfl (hb hby d7_31) (by decide) (by decide) ⟨b9, rfl, N10, KC10, f10_0, f10_1⟩
    · refine Go.by' (fun t k => (XS.icmpNo X7.here hx rfl (hb hby d7_10) rfl (flt hc8).2.2.1 k)) ?_
      show Go p.tables e below Pf (T7.setTop (mkF m 13 #[.val (.int iv)] []))
      obtain ⟨T11, X11, e11, st11⟩ := getS2 X7 hx hZ hown (host := "") (Or.inl hw118) Via.refl e7 (G.2.2.2.2.1.ext O0.2) (g := (mkF m 13 #[.val (.int iv)] [])) rfl (hb hby d7_13)
      refine Go.by' st11 ?_
      show Go p.tables e below Pf (T11.setTop (mkF m 16 #[.val (.int iv)] [(.ref wC)]))
      refine Go.by' (fun t k => (XS.iloadN X11.here hx rfl (hb hby d7_16) rfl (XS.sipush X11.here hx rfl (hb hby d7_17) (XS.iadd X11.here hx rfl (hb hby d7_20) rfl k)))) ?_
      show Go p.tables e below Pf (T11.setTop (mkF m 21 #[.val (.int iv)] [(.int (iv + (128 : Int32))), (.ref wC)]))
      have hin12 : ¬ ((iv + (128 : Int32)) < 0 ∨ cC.slots.size ≤ ((iv + (128 : Int32))).toNatClampNeg) := inb_of G.2.2.2.2.2.2.1 (own_ix hc4 hc8)
      obtain ⟨b12, at12, E12, F12⟩ := G.2.2.2.2.2.2.2.2 (iv + (128 : Int32)) hin12
      have F12' : Fld Z Z.heap b12 "java/lang/Integer" "value" "I" (.int iv) := own_iv iv ▸ F12
      refine Go.by' (fun t k => (X11.aaload hx (j := (iv + (128 : Int32))) (v := (.ref b12)) (by rw [e11]; exact (G.2.2.2.2.2.1.ext O0.2).1) (State.isArrayOf_alike hZ.alike G.2.2.2.2.2.1.2.1) rfl G.2.2.2.2.2.1.2.2 hin12 at12 (g := (mkF m 21 #[.val (.int iv)] [(.int (iv + (128 : Int32))), (.ref wC)])) rfl rfl (hb hby d7_21) t k)) ?_
      show Go p.tables e below Pf (T11.setTop (mkF m 22 #[.val (.int iv)] [(.ref b12)]))
      rw [hPf]
      exact Go.retA' X11 hx hret hlk rfl rfl (hb hby d7_22) (by decide) (by decide) ⟨b12, rfl, N0, (by rw [e11]; exact KC0), (by rw [e11]; exact (E12.ext O0.2)), (by rw [e11]; exact (F12'.ext O0.2))⟩
theorem d19_0 : decode jdk_33_method_27_code 0 = .ok (.aload_n 0, 1) := by decide +kernel
theorem d19_1 : decode jdk_33_method_27_code 1 = .ok (.getfield 205, 3) := by decide +kernel
theorem d19_4 : decode jdk_33_method_27_code 4 = .ok (.ireturn, 1) := by decide +kernel
theorem pn_19 : plainName "java/lang/Integer" = true := by first | (simp [plainName, overriddenIn]; done) | decide +kernel
set_option maxHeartbeats 4000000 in
theorem ef_rmIV (m : MethodId) {al : Addr} : entryFrame m #[(.ref al)] 1 = mkF m 0 #[.val (.ref al)] [] := by first | (simp [entryFrame, mkF, argsToLocals, Value.category]; done) | rfl
def QrmIV (Z : State) (wD : Addr) (kD : ClassId) (wC : Addr) (cC : Cell) (al : Addr) (iv : Int32) (h0 : Heap) (n0 : Nat) (v : Option Value) (h : Heap) (L : List Loc) : Prop := (v = some (.int iv)) ∧ (L = []) ∧ (h = h0)
set_option maxRecDepth 65536 in
set_option maxHeartbeats 40000000 in
theorem rmIV (l : Launch) (Z : State) (a0 : Array Value) (hw : ∀ d ∈ tables_1, d.before a0 Z = true) (ws : List Jvm.Cond) (wD : Addr) (kD : ClassId) (wC : Addr) (cC : Cell) (G : Gh Z wD kD wC cC) (al : Addr) (iv : Int32) (h0 : Heap) (n0 : Nat) (O0 : Old Z n0 h0) (FV : Fld Z h0 al "java/lang/Integer" "value" "I" (.int iv)) :
    MetFree l (⟨"java/lang/Integer", "intValue", "()I"⟩ : MethodName) (head1 (Jvm.Cond.code (⟨"java/lang/Integer", "intValue", "()I"⟩ : MethodName) jdk_33_method_27_code 1 (some .int) :: ws) ({ frames := 0, cells := 0, slots := 0, locals := 0 } : Room)) (fun aa' UU' => aa' = #[(.ref al)] ∧ Z.Warmed39 UU'.vm ∧ UU'.heap = h0) (fun _ _ _ _ _ => True) (fun _ UU' oo' VV' => ∃ v' L', oo' = .returned v' ∧ QrmIV Z wD kD wC cC al iv h0 n0 v' VV'.heap L' ∧ FrameEnd UU' oo' VV' L' ({ frames := 0, cells := 0, slots := 0, locals := 0 } : Room).cells ({ frames := 0, cells := 0, slots := 0, locals := 0 } : Room).slots) := by
  refine MetFree.of_bodySF (plainFor_of_name pn_19) hisR ?_
  intro p e s m args below meth c s₁ Bd hml0 hP hK
  obtain ⟨rfl, hZ, hh⟩ := hP
  have hx := Bd.exec
  have hby := Bd.bytes
  have hlk := Bd.notSynchronized
  have hml : c.maxLocals = 1 := hml0
  have hown : s.vm.findClass "java/lang/Integer" = some m.cls := findClass_of_methodNamed Bd.named
  have hnm := (name_of_methodNamed Bd.named Bd.method).1
  have hret := Bd.returns
  have X0 : Stand p l e ({ frames := 0, cells := 0, slots := 0, locals := 0 } : Room) s m #[(.ref al)] below meth c s₁ [] 0 0 := Stand.of_body Bd
  have e0 : s₁.heap = h0 := by rw [← hh, Bd.state]; rfl
  have N0 := Fr.nil n0
  refine Go.body ?_
  obtain ⟨Pf, hPf⟩ : ∃ P, P = Fin' s below ({ frames := 0, cells := 0, slots := 0, locals := 0 } : Room).cells ({ frames := 0, cells := 0, slots := 0, locals := 0 } : Room).slots (QrmIV Z wD kD wC cC al iv h0 n0) := ⟨_, rfl⟩
  rw [← hPf]
  refine Go.cast (ef_rmIV m) ?_
  have hw63 := (hw _ (List.mem_of_getElem? (i := 63) rfl))
  show Go p.tables e below Pf (s₁.setTop (mkF m 0 #[.val (.ref al)] []))
  refine Go.by' (fun t k => (XS.aloadN X0.here hx rfl (hb hby d19_0) rfl rfl k)) ?_
  show Go p.tables e below Pf (s₁.setTop (mkF m 1 #[.val (.ref al)] [(.ref al)]))
  obtain ⟨T13, X13, e13, st13⟩ := getF X0 hx hZ hown (host := "") (Or.inl hw63) Via.refl e0 FV (g := (mkF m 1 #[.val (.ref al)] [(.ref al)])) rfl rfl (hb hby d19_1)
  refine Go.by' st13 ?_
  show Go p.tables e below Pf (T13.setTop (mkF m 4 #[.val (.ref al)] [(.int iv)]))
  rw [hPf]
  exact Go.retI' X13 hx hret hlk (by simp) rfl (hb hby d19_4) (by decide) (by decide) ⟨rfl, rfl, e13⟩
theorem d3_0 : decode jdk_22_method_1_code 0 = .ok (.aload_n 0, 1) := by decide +kernel
theorem d3_1 : decode jdk_22_method_1_code 1 = .ok (.invokespecial 1, 3) := by decide +kernel
theorem d3_4 : decode jdk_22_method_1_code 4 = .ok (.return_, 1) := by decide +kernel
theorem pn_3 : plainName "java/util/AbstractCollection" = true := by first | (simp [plainName, overriddenIn]; done) | decide +kernel
set_option maxHeartbeats 4000000 in
theorem ef_rmAC (m : MethodId) {al : Addr} : entryFrame m #[(.ref al)] 1 = mkF m 0 #[.val (.ref al)] [] := by first | (simp [entryFrame, mkF, argsToLocals, Value.category]; done) | rfl
def QrmAC (Z : State) (wD : Addr) (kD : ClassId) (wC : Addr) (cC : Cell) (al : Addr) (h0 : Heap) (n0 : Nat) (v : Option Value) (h : Heap) (L : List Loc) : Prop := (v = none) ∧ (L = []) ∧ (h = h0)
set_option maxRecDepth 65536 in
set_option maxHeartbeats 40000000 in
theorem rmAC (l : Launch) (Z : State) (a0 : Array Value) (hw : ∀ d ∈ tables_1, d.before a0 Z = true) (ws : List Jvm.Cond) (wD : Addr) (kD : ClassId) (wC : Addr) (cC : Cell) (G : Gh Z wD kD wC cC) (al : Addr) (h0 : Heap) (n0 : Nat) (O0 : Old Z n0 h0) :
    MetFree l (⟨"java/util/AbstractCollection", "<init>", "()V"⟩ : MethodName) (head1 (Jvm.Cond.code (⟨"java/util/AbstractCollection", "<init>", "()V"⟩ : MethodName) jdk_22_method_1_code 1 none :: ws) ({ frames := 1, cells := 0, slots := 0, locals := 12 } : Room)) (fun aa' UU' => aa' = #[(.ref al)] ∧ Z.Warmed39 UU'.vm ∧ UU'.heap = h0) (fun _ _ _ _ _ => True) (fun _ UU' oo' VV' => ∃ v' L', oo' = .returned v' ∧ QrmAC Z wD kD wC cC al h0 n0 v' VV'.heap L' ∧ FrameEnd UU' oo' VV' L' ({ frames := 1, cells := 0, slots := 0, locals := 12 } : Room).cells ({ frames := 1, cells := 0, slots := 0, locals := 12 } : Room).slots) := by
  refine MetFree.of_bodySF (plainFor_of_name pn_3) hisR ?_
  intro p e s m args below meth c s₁ Bd hml0 hP hK
  obtain ⟨rfl, hZ, hh⟩ := hP
  have hx := Bd.exec
  have hby := Bd.bytes
  have hlk := Bd.notSynchronized
  have hml : c.maxLocals = 1 := hml0
  have hown : s.vm.findClass "java/util/AbstractCollection" = some m.cls := findClass_of_methodNamed Bd.named
  have hnm := (name_of_methodNamed Bd.named Bd.method).1
  have hret := Bd.returns
  have X0 : Stand p l e ({ frames := 1, cells := 0, slots := 0, locals := 12 } : Room) s m #[(.ref al)] below meth c s₁ [] 0 0 := Stand.of_body Bd
  have e0 : s₁.heap = h0 := by rw [← hh, Bd.state]; rfl
  have N0 := Fr.nil n0
  refine Go.body ?_
  obtain ⟨Pf, hPf⟩ : ∃ P, P = Fin' s below ({ frames := 1, cells := 0, slots := 0, locals := 12 } : Room).cells ({ frames := 1, cells := 0, slots := 0, locals := 12 } : Room).slots (QrmAC Z wD kD wC cC al h0 n0) := ⟨_, rfl⟩
  rw [← hPf]
  refine Go.cast (ef_rmAC m) ?_
  have hw18 := (hw _ (List.mem_of_getElem? (i := 18) rfl))
  have hw19 := (hw _ (List.mem_of_getElem? (i := 19) rfl))
  have hw20 := (hw _ (List.mem_of_getElem? (i := 20) rfl))
  show Go p.tables e below Pf (s₁.setTop (mkF m 0 #[.val (.ref al)] []))
  refine Go.by' (fun t k => (XS.aloadN X0.here hx rfl (hb hby d3_0) rfl rfl k)) ?_
  show Go p.tables e below Pf (s₁.setTop (mkF m 1 #[.val (.ref al)] [(.ref al)]))
  obtain ⟨T14, X14, e14, st14⟩ := initO X0 hx hZ hown hw18 hw19 hw20 e0 (g := (mkF m 1 #[.val (.ref al)] [(.ref al)])) rfl (by rw [hml]; rfl) rfl (hb hby d3_1) (by decide) (W := 0) (by show 2 * 0 + _ ≤ _; exact Nat.le_of_eq rfl) (by decide)
  refine Go.by' st14 ?_
  show Go p.tables e below Pf (T14.setTop (mkF m 4 #[.val (.ref al)] []))
  rw [hPf]
  exact Go.retV' X14 hx hret hlk (hb hby d3_4) (by decide) (by decide) ⟨rfl, rfl, e14⟩
theorem d2_0 : decode jdk_39_method_1_code 0 = .ok (.aload_n 0, 1) := by decide +kernel
theorem d2_1 : decode jdk_39_method_1_code 1 = .ok (.invokespecial 1, 3) := by decide +kernel
theorem d2_4 : decode jdk_39_method_1_code 4 = .ok (.aload_n 0, 1) := by decide +kernel
theorem d2_5 : decode jdk_39_method_1_code 5 = .ok (.iconst 0, 1) := by decide +kernel
theorem d2_6 : decode jdk_39_method_1_code 6 = .ok (.putfield 7, 3) := by decide +kernel
theorem d2_9 : decode jdk_39_method_1_code 9 = .ok (.return_, 1) := by decide +kernel
theorem pn_2 : plainName "java/util/AbstractList" = true := by first | (simp [plainName, overriddenIn]; done) | decide +kernel
set_option maxHeartbeats 4000000 in
theorem ef_rmAB (m : MethodId) {al : Addr} : entryFrame m #[(.ref al)] 1 = mkF m 0 #[.val (.ref al)] [] := by first | (simp [entryFrame, mkF, argsToLocals, Value.category]; done) | rfl
def QrmAB (Z : State) (wD : Addr) (kD : ClassId) (wC : Addr) (cC : Cell) (al : Addr) (h0 : Heap) (n0 : Nat) (v : Option Value) (h : Heap) (L : List Loc) : Prop := (v = none) ∧ (Fr n0 L) ∧ (Keep h0 h [al]) ∧ (Exa Z h al "java/util/ArrayList") ∧ (Fld Z h al "java/util/AbstractList" "modCount" "I" (.int (0 : Int32))) ∧ (Fld Z h al "java/util/ArrayList" "elementData" "[Ljava/lang/Object;" .null) ∧ (Fld Z h al "java/util/ArrayList" "size" "I" (.int (0 : Int32)))
set_option maxRecDepth 65536 in
set_option maxHeartbeats 40000000 in
theorem rmAB (l : Launch) (Z : State) (a0 : Array Value) (hw : ∀ d ∈ tables_1, d.before a0 Z = true) (ws : List Jvm.Cond) (wD : Addr) (kD : ClassId) (wC : Addr) (cC : Cell) (G : Gh Z wD kD wC cC) (al : Addr) (h0 : Heap) (n0 : Nat) (O0 : Old Z n0 h0) (EX : Exa Z h0 al "java/util/ArrayList") (FM : Fld Z h0 al "java/util/AbstractList" "modCount" "I" (.int (0 : Int32))) (F_elementData : Fld Z h0 al "java/util/ArrayList" "elementData" "[Ljava/lang/Object;" .null) (F_size : Fld Z h0 al "java/util/ArrayList" "size" "I" (.int (0 : Int32))) (g_al : n0 ≤ al) :
    MetFree l (⟨"java/util/AbstractList", "<init>", "()V"⟩ : MethodName) (head1 (Jvm.Cond.code (⟨"java/util/AbstractList", "<init>", "()V"⟩ : MethodName) jdk_39_method_1_code 1 none :: ws) ({ frames := 2, cells := 0, slots := 0, locals := 24 } : Room)) (fun aa' UU' => aa' = #[(.ref al)] ∧ Z.Warmed39 UU'.vm ∧ UU'.heap = h0) (fun _ _ _ _ _ => True) (fun _ UU' oo' VV' => ∃ v' L', oo' = .returned v' ∧ QrmAB Z wD kD wC cC al h0 n0 v' VV'.heap L' ∧ FrameEnd UU' oo' VV' L' ({ frames := 2, cells := 0, slots := 0, locals := 24 } : Room).cells ({ frames := 2, cells := 0, slots := 0, locals := 24 } : Room).slots) := by
  refine MetFree.of_bodySF (plainFor_of_name pn_2) hisR ?_
  intro p e s m args below meth c s₁ Bd hml0 hP hK
  obtain ⟨rfl, hZ, hh⟩ := hP
  have hx := Bd.exec
  have hby := Bd.bytes
  have hlk := Bd.notSynchronized
  have hml : c.maxLocals = 1 := hml0
  have hown : s.vm.findClass "java/util/AbstractList" = some m.cls := findClass_of_methodNamed Bd.named
  have hnm := (name_of_methodNamed Bd.named Bd.method).1
  have hret := Bd.returns
  have X0 : Stand p l e ({ frames := 2, cells := 0, slots := 0, locals := 24 } : Room) s m #[(.ref al)] below meth c s₁ [] 0 0 := Stand.of_body Bd
  have e0 : s₁.heap = h0 := by rw [← hh, Bd.state]; rfl
  have N0 := Fr.nil n0
  have KC0 : Keep h0 h0 [al] := Keep.refl _ _
  refine Go.body ?_
  obtain ⟨Pf, hPf⟩ : ∃ P, P = Fin' s below ({ frames := 2, cells := 0, slots := 0, locals := 24 } : Room).cells ({ frames := 2, cells := 0, slots := 0, locals := 24 } : Room).slots (QrmAB Z wD kD wC cC al h0 n0) := ⟨_, rfl⟩
  rw [← hPf]
  refine Go.cast (ef_rmAB m) ?_
  have hw1 := (hw _ (List.mem_of_getElem? (i := 1) rfl))
  have hw12 := (hw _ (List.mem_of_getElem? (i := 12) rfl))
  have hw13 := (hw _ (List.mem_of_getElem? (i := 13) rfl))
  have hw16 := (hw _ (List.mem_of_getElem? (i := 16) rfl))
  have hw17 := (hw _ (List.mem_of_getElem? (i := 17) rfl))
  have hw21 := (hw _ (List.mem_of_getElem? (i := 21) rfl))
  have hw22 := (hw _ (List.mem_of_getElem? (i := 22) rfl))
  have hw25 := (hw _ (List.mem_of_getElem? (i := 25) rfl))
  have hw40 := (hw _ (List.mem_of_getElem? (i := 40) rfl))
  show Go p.tables e below Pf (s₁.setTop (mkF m 0 #[.val (.ref al)] []))
  refine Go.by' (fun t k => (XS.aloadN X0.here hx rfl (hb hby d2_0) rfl rfl k)) ?_
  show Go p.tables e below Pf (s₁.setTop (mkF m 1 #[.val (.ref al)] [(.ref al)]))
  obtain ⟨_, _, ⟨T15, L15, k15, n15⟩, -, X15, ⟨Lc15, hQ15, l15, y15, z15⟩, st15⟩ := X0.specialBack hx (y := (⟨"java/util/AbstractCollection", "<init>", "()V"⟩ : MethodName)) rfl hown (mvT hZ hw12) (mvT hZ hw13) (mvT hZ hw17) (by decide) (backOf (W := 0) (rmAC l Z a0 hw [] wD kD wC cC G al h0 n0 O0 ) hZ hw17 hw16 (by decide) (by decide)) (g := (mkF m 1 #[.val (.ref al)] [(.ref al)])) rfl (by rw [hml]; rfl) (Steps.refl _) (a := al) (argsL := []) (rest := []) (lenOf pd_0 rfl) rfl (by show 2 * 0 + _ ≤ _; exact Nat.le_of_eq rfl) (hb hby d2_1) (fun _ _ => ⟨rfl, e0, (by decide : 0 + 0 ≤ _), (by decide : 0 + 0 ≤ _)⟩)
  dsimp only [Pt.U, Pt.locs, Pt.cells, Pt.slots] at X15 l15 y15 z15 st15 hQ15
  subst l15 y15 z15
  obtain ⟨rfl, rfl, e15⟩ := hQ15
  try rw [List.append_nil] at X15
  refine Go.by' (fun t k => st15.trans k) ?_
  show Go p.tables e below Pf (T15.setTop (mkF m 4 #[.val (.ref al)] []))
  refine Go.by' (fun t k => (XS.aloadN X15.here hx rfl (hb hby d2_4) rfl rfl (XS.iconst X15.here hx rfl (hb hby d2_5) k))) ?_
  show Go p.tables e below Pf (T15.setTop (mkF m 6 #[.val (.ref al)] [(.int (0 : Int32)), (.ref al)]))
  obtain ⟨T16, h16, X16, e16, W16, st16⟩ := putF X15 hx hZ hown (host := "") (Or.inl hw21) Via.refl e15 FM EX (Or.inl hw22) hw1 (ty := .int) (by decide) rfl rfl (g := (mkF m 6 #[.val (.ref al)] [(.int (0 : Int32)), (.ref al)])) rfl rfl (hb hby d2_6)
  refine Go.by' st16 ?_
  have Fw16 : Fld Z h16 al "java/util/AbstractList" "modCount" "I" (Value.int (0 : Int32)) := FM.same W16
  have N16 := Fr.snoc X16 N0 g_al
  have O16 := O0.wr W16 g_al
  have KC16 : Keep h0 h16 [al] := KC0.wr W16 (Or.inl (List.mem_of_getElem? (i := 0) rfl))
  show Go p.tables e below Pf (T16.setTop (mkF m 9 #[.val (.ref al)] []))
  rw [hPf]
  exact Go.retV' X16 hx hret hlk (hb hby d2_9) (by decide) (by decide) ⟨rfl, N16, (by rw [e16]; exact KC16), (by rw [e16]; exact (EX.wr W16)), (by rw [e16]; exact Fw16), (by rw [e16]; exact (F_elementData.other W16 (Or.inr (slot_ne (Or.inl hw25) (Or.inl hw22) (by decide) (t := (.array (.object "java/lang/Object"))) (t' := .int) (by decide) (by decide))))), (by rw [e16]; exact (F_size.other W16 (Or.inr (slot_ne (Or.inl hw40) (Or.inl hw22) (by decide) (t := .int) (t' := .int) (by decide) (by decide)))))⟩
theorem d1_0 : decode jdk_38_method_2_code 0 = .ok (.aload_n 0, 1) := by decide +kernel
theorem d1_1 : decode jdk_38_method_2_code 1 = .ok (.invokespecial 1, 3) := by decide +kernel
theorem d1_4 : decode jdk_38_method_2_code 4 = .ok (.aload_n 0, 1) := by decide +kernel
theorem d1_5 : decode jdk_38_method_2_code 5 = .ok (.getstatic 39, 3) := by decide +kernel
theorem d1_8 : decode jdk_38_method_2_code 8 = .ok (.putfield 9, 3) := by decide +kernel
theorem d1_11 : decode jdk_38_method_2_code 11 = .ok (.return_, 1) := by decide +kernel
theorem pn_1 : plainName "java/util/ArrayList" = true := by first | (simp [plainName, overriddenIn]; done) | decide +kernel
set_option maxHeartbeats 4000000 in
theorem ef_rmAL (m : MethodId) {al : Addr} : entryFrame m #[(.ref al)] 1 = mkF m 0 #[.val (.ref al)] [] := by first | (simp [entryFrame, mkF, argsToLocals, Value.category]; done) | rfl
def QrmAL (Z : State) (wD : Addr) (kD : ClassId) (wC : Addr) (cC : Cell) (al : Addr) (h0 : Heap) (n0 : Nat) (v : Option Value) (h : Heap) (L : List Loc) : Prop := (v = none) ∧ (Fr n0 L) ∧ (Keep h0 h [al]) ∧ (Exa Z h al "java/util/ArrayList") ∧ (Fld Z h al "java/util/AbstractList" "modCount" "I" (.int (0 : Int32))) ∧ (Fld Z h al "java/util/ArrayList" "elementData" "[Ljava/lang/Object;" (.ref wD)) ∧ (Fld Z h al "java/util/ArrayList" "size" "I" (.int (0 : Int32)))
set_option maxRecDepth 65536 in
set_option maxHeartbeats 40000000 in
theorem rmAL (l : Launch) (Z : State) (a0 : Array Value) (hw : ∀ d ∈ tables_1, d.before a0 Z = true) (ws : List Jvm.Cond) (wD : Addr) (kD : ClassId) (wC : Addr) (cC : Cell) (G : Gh Z wD kD wC cC) (al : Addr) (h0 : Heap) (n0 : Nat) (O0 : Old Z n0 h0) (EX : Exa Z h0 al "java/util/ArrayList") (FM : Fld Z h0 al "java/util/AbstractList" "modCount" "I" (.int (0 : Int32))) (F_elementData : Fld Z h0 al "java/util/ArrayList" "elementData" "[Ljava/lang/Object;" .null) (F_size : Fld Z h0 al "java/util/ArrayList" "size" "I" (.int (0 : Int32))) (g_al : n0 ≤ al) :
    MetFree l (⟨"java/util/ArrayList", "<init>", "()V"⟩ : MethodName) (head1 (Jvm.Cond.code (⟨"java/util/ArrayList", "<init>", "()V"⟩ : MethodName) jdk_38_method_2_code 1 none :: ws) ({ frames := 3, cells := 0, slots := 0, locals := 36 } : Room)) (fun aa' UU' => aa' = #[(.ref al)] ∧ Z.Warmed39 UU'.vm ∧ UU'.heap = h0) (fun _ _ _ _ _ => True) (fun _ UU' oo' VV' => ∃ v' L', oo' = .returned v' ∧ QrmAL Z wD kD wC cC al h0 n0 v' VV'.heap L' ∧ FrameEnd UU' oo' VV' L' ({ frames := 3, cells := 0, slots := 0, locals := 36 } : Room).cells ({ frames := 3, cells := 0, slots := 0, locals := 36 } : Room).slots) := by
  refine MetFree.of_bodySF (plainFor_of_name pn_1) hisR ?_
  intro p e s m args below meth c s₁ Bd hml0 hP hK
  obtain ⟨rfl, hZ, hh⟩ := hP
  have hx := Bd.exec
  have hby := Bd.bytes
  have hlk := Bd.notSynchronized
  have hml : c.maxLocals = 1 := hml0
  have hown : s.vm.findClass "java/util/ArrayList" = some m.cls := findClass_of_methodNamed Bd.named
  have hnm := (name_of_methodNamed Bd.named Bd.method).1
  have hret := Bd.returns
  have X0 : Stand p l e ({ frames := 3, cells := 0, slots := 0, locals := 36 } : Room) s m #[(.ref al)] below meth c s₁ [] 0 0 := Stand.of_body Bd
  have e0 : s₁.heap = h0 := by rw [← hh, Bd.state]; rfl
  have N0 := Fr.nil n0
  have KC0 : Keep h0 h0 [al] := Keep.refl _ _
  refine Go.body ?_
  obtain ⟨Pf, hPf⟩ : ∃ P, P = Fin' s below ({ frames := 3, cells := 0, slots := 0, locals := 36 } : Room).cells ({ frames := 3, cells := 0, slots := 0, locals := 36 } : Room).slots (QrmAL Z wD kD wC cC al h0 n0) := ⟨_, rfl⟩
  rw [← hPf]
  refine Go.cast (ef_rmAL m) ?_
  have hw1 := (hw _ (List.mem_of_getElem? (i := 1) rfl))
  have hw6 := (hw _ (List.mem_of_getElem? (i := 6) rfl))
  have hw7 := (hw _ (List.mem_of_getElem? (i := 7) rfl))
  have hw10 := (hw _ (List.mem_of_getElem? (i := 10) rfl))
  have hw11 := (hw _ (List.mem_of_getElem? (i := 11) rfl))
  have hw22 := (hw _ (List.mem_of_getElem? (i := 22) rfl))
  have hw23 := (hw _ (List.mem_of_getElem? (i := 23) rfl))
  have hw24 := (hw _ (List.mem_of_getElem? (i := 24) rfl))
  have hw25 := (hw _ (List.mem_of_getElem? (i := 25) rfl))
  have hw40 := (hw _ (List.mem_of_getElem? (i := 40) rfl))
  show Go p.tables e below Pf (s₁.setTop (mkF m 0 #[.val (.ref al)] []))
  refine Go.by' (fun t k => (XS.aloadN X0.here hx rfl (hb hby d1_0) rfl rfl k)) ?_
  show Go p.tables e below Pf (s₁.setTop (mkF m 1 #[.val (.ref al)] [(.ref al)]))
  obtain ⟨_, _, ⟨T17, L17, k17, n17⟩, -, X17, ⟨Lc17, hQ17, l17, y17, z17⟩, st17⟩ := X0.specialBack hx (y := (⟨"java/util/AbstractList", "<init>", "()V"⟩ : MethodName)) rfl hown (mvT hZ hw6) (mvT hZ hw7) (mvT hZ hw11) (by decide) (backOf (W := 0) (rmAB l Z a0 hw [] wD kD wC cC G al h0 n0 O0 EX FM F_elementData F_size g_al) hZ hw11 hw10 (by decide) (by decide)) (g := (mkF m 1 #[.val (.ref al)] [(.ref al)])) rfl (by rw [hml]; rfl) (Steps.refl _) (a := al) (argsL := []) (rest := []) (lenOf pd_0 rfl) rfl (by show 2 * 0 + _ ≤ _; exact Nat.le_of_eq rfl) (hb hby d1_1) (fun _ _ => ⟨rfl, e0, (by decide : 0 + 0 ≤ _), (by decide : 0 + 0 ≤ _)⟩)
  dsimp only [Pt.U, Pt.locs, Pt.cells, Pt.slots] at X17 l17 y17 z17 st17 hQ17
  subst l17 y17 z17
  obtain ⟨rfl, N17q, K17, f17_0, f17_1, f17_2, f17_3⟩ := hQ17
  have N17 := Fr.app N0 N17q
  refine Go.by' (fun t k => st17.trans k) ?_
  have O17 := O0.keep K17 (allS g_al all0)
  have KC17 : Keep h0 T17.heap [al] := KC0.trans K17 (allS (Or.inl (List.mem_of_getElem? (i := 0) rfl)) all0)
  show Go p.tables e below Pf (T17.setTop (mkF m 4 #[.val (.ref al)] []))
  refine Go.by' (fun t k => (XS.aloadN X17.here hx rfl (hb hby d1_4) rfl rfl k)) ?_
  show Go p.tables e below Pf (T17.setTop (mkF m 5 #[.val (.ref al)] [(.ref al)]))
  obtain ⟨T18, X18, e18, st18⟩ := getS2 X17 hx hZ hown (host := "") (Or.inl hw23) Via.refl rfl (G.1.ext O17.2) (g := (mkF m 5 #[.val (.ref al)] [(.ref al)])) rfl (hb hby d1_5)
  refine Go.by' st18 ?_
  show Go p.tables e below Pf (T18.setTop (mkF m 8 #[.val (.ref al)] [(.ref wD), (.ref al)]))
  obtain ⟨T19, h19, X19, e19, W19, st19⟩ := putF X18 hx hZ hown (host := "") (Or.inl hw24) Via.refl e18 f17_2 f17_0 (Or.inl hw25) hw1 (ty := (.array (.object "java/lang/Object"))) (by decide) rfl rfl (g := (mkF m 8 #[.val (.ref al)] [(.ref wD), (.ref al)])) rfl rfl (hb hby d1_8)
  refine Go.by' st19 ?_
  have Fw19 : Fld Z h19 al "java/util/ArrayList" "elementData" "[Ljava/lang/Object;" (Value.ref wD) := f17_2.same W19
  have N19 := Fr.snoc X19 N17 g_al
  have O19 := O17.wr W19 g_al
  have KC19 : Keep h0 h19 [al] := KC17.wr W19 (Or.inl (List.mem_of_getElem? (i := 0) rfl))
  show Go p.tables e below Pf (T19.setTop (mkF m 11 #[.val (.ref al)] []))
  rw [hPf]
  exact Go.retV' X19 hx hret hlk (hb hby d1_11) (by decide) (by decide) ⟨rfl, N19, (by rw [e19]; exact KC19), (by rw [e19]; exact (f17_0.wr W19)), (by rw [e19]; exact (f17_1.other W19 (Or.inr (slot_ne (Or.inl hw22) (Or.inl hw25) (by decide) (t := .int) (t' := (.array (.object "java/lang/Object"))) (by decide) (by decide))))), (by rw [e19]; exact Fw19), (by rw [e19]; exact (f17_3.other W19 (Or.inr (slot_ne (Or.inl hw40) (Or.inl hw25) (by decide) (t := .int) (t' := (.array (.object "java/lang/Object"))) (by decide) (by decide)))))⟩
theorem d14_0 : decode jdk_29_method_65_code 0 = .ok (.iload_n 0, 1) := by decide +kernel
theorem d14_1 : decode jdk_29_method_65_code 1 = .ok (.iload_n 1, 1) := by decide +kernel
theorem d14_2 : decode jdk_29_method_65_code 2 = .ok (.if_icmp .lt 7, 3) := by decide +kernel
theorem d14_9 : decode jdk_29_method_65_code 9 = .ok (.iload_n 1, 1) := by decide +kernel
theorem d14_5 : decode jdk_29_method_65_code 5 = .ok (.iload_n 0, 1) := by decide +kernel
theorem d14_6 : decode jdk_29_method_65_code 6 = .ok (.goto 4, 3) := by decide +kernel
theorem d14_10 : decode jdk_29_method_65_code 10 = .ok (.ireturn, 1) := by decide +kernel
set_option maxHeartbeats 4000000 in
theorem ef_rmMax (m : MethodId) {ia : Int32} {ib : Int32} : entryFrame m #[(.int ia), (.int ib)] 2 = mkF m 0 #[.val (.int ia), .val (.int ib)] [] := by first | (simp [entryFrame, mkF, argsToLocals, Value.category]; done) | rfl
def QrmMax (Z : State) (wD : Addr) (kD : ClassId) (wC : Addr) (cC : Cell) (ia : Int32) (ib : Int32) (h0 : Heap) (n0 : Nat) (v : Option Value) (h : Heap) (L : List Loc) : Prop := ∃ (r : Int32), (v = some (.int r)) ∧ (L = []) ∧ (h = h0) ∧ ((ia < ib ∧ r = ib) ∨ (¬ (ia < ib) ∧ r = ia))
set_option maxRecDepth 65536 in
set_option maxHeartbeats 40000000 in
theorem rmMax (l : Launch) (Z : State) (a0 : Array Value) (hw : ∀ d ∈ tables_1, d.before a0 Z = true) (ws : List Jvm.Cond) (wD : Addr) (kD : ClassId) (wC : Addr) (cC : Cell) (G : Gh Z wD kD wC cC) (ia : Int32) (ib : Int32) (h0 : Heap) (n0 : Nat) (O0 : Old Z n0 h0) :
    MetFree l (⟨"java/lang/Math", "max", "(II)I"⟩ : MethodName) (head1 (Jvm.Cond.code (⟨"java/lang/Math", "max", "(II)I"⟩ : MethodName) jdk_29_method_65_code 2 (some .int) :: ws) ({ frames := 0, cells := 0, slots := 0, locals := 0 } : Room)) (fun aa' UU' => aa' = #[(.int ia), (.int ib)] ∧ Z.Warmed39 UU'.vm ∧ UU'.heap = h0) (fun _ _ _ _ _ => True) (fun _ UU' oo' VV' => ∃ v' L', oo' = .returned v' ∧ QrmMax Z wD kD wC cC ia ib h0 n0 v' VV'.heap L' ∧ FrameEnd UU' oo' VV' L' ({ frames := 0, cells := 0, slots := 0, locals := 0 } : Room).cells ({ frames := 0, cells := 0, slots := 0, locals := 0 } : Room).slots) := by
  refine MetFree.of_bodySF (Jvm.Free.JP.mathPlain rfl (by decide +kernel)) hisR ?_
  intro p e s m args below meth c s₁ Bd hml0 hP hK
  obtain ⟨rfl, hZ, hh⟩ := hP
  have hx := Bd.exec
  have hby := Bd.bytes
  have hlk := Bd.notSynchronized
  have hml : c.maxLocals = 2 := hml0
  have hown : s.vm.findClass "java/lang/Math" = some m.cls := findClass_of_methodNamed Bd.named
  have hnm := (name_of_methodNamed Bd.named Bd.method).1
  have hret := Bd.returns
  have X0 : Stand p l e ({ frames := 0, cells := 0, slots := 0, locals := 0 } : Room) s m #[(.int ia), (.int ib)] below meth c s₁ [] 0 0 := Stand.of_body Bd
  have e0 : s₁.heap = h0 := by rw [← hh, Bd.state]; rfl
  have N0 := Fr.nil n0
  refine Go.body ?_
  obtain ⟨Pf, hPf⟩ : ∃ P, P = Fin' s below ({ frames := 0, cells := 0, slots := 0, locals := 0 } : Room).cells ({ frames := 0, cells := 0, slots := 0, locals := 0 } : Room).slots (QrmMax Z wD kD wC cC ia ib h0 n0) := ⟨_, rfl⟩
  rw [← hPf]
  refine Go.cast (ef_rmMax m) ?_
  show Go p.tables e below Pf (s₁.setTop (mkF m 0 #[.val (.int ia), .val (.int ib)] []))
  refine Go.by' (fun t k => (XS.iloadN X0.here hx rfl (hb hby d14_0) rfl (XS.iloadN X0.here hx rfl (hb hby d14_1) rfl k))) ?_
  show Go p.tables e below Pf (s₁.setTop (mkF m 2 #[.val (.int ia), .val (.int ib)] [(.int ib), (.int ia)]))
  have jn21 : ∀ (T' : State) (w21_0 : Int32), Like X0 T' → T'.heap = h0 → ((ia < ib ∧ w21_0 = ib) ∨ (¬ (ia < ib) ∧ w21_0 = ia)) → Go p.tables e below Pf (T'.setTop (mkF m 10 #[.val (.int ia), .val (.int ib)] [(.int w21_0)])) := by
    intro T21 w21_0 X21 e21 hm21
    unfold Like at X21
    show Go p.tables e below Pf (T21.setTop (mkF m 10 #[.val (.int ia), .val (.int ib)] [(.int w21_0)]))
    rw [hPf]
    exact Go.retI' X21 hx hret hlk (by simp) rfl (hb hby d14_10) (by decide) (by decide) ⟨w21_0, rfl, rfl, e21, hm21⟩
  by_cases hc22 : ia < ib
  · refine Go.by' (fun t k => (XS.icmpYes X0.here hx rfl (pc0 := 2) (pc' := 9) rfl (hb hby d14_2) rfl (tlt hc22).1 (by decide) (by decide) (XS.iloadN X0.here hx rfl (hb hby d14_9) rfl k))) ?_
    show Go p.tables e below Pf (s₁.setTop (mkF m 10 #[.val (.int ia), .val (.int ib)] [(.int ib)]))
    exact jn21 s₁ (ib) X0 e0  (Or.inl ⟨hc22, rfl⟩)
  · refine Go.by' (fun t k => (XS.icmpNo X0.here hx rfl (hb hby d14_2) rfl (flt hc22).1 (XS.iloadN X0.here hx rfl (hb hby d14_5) rfl (XS.goto X0.here hx rfl (pc0 := 6) (pc' := 10) rfl (hb hby d14_6) (by decide) (by decide) k)))) ?_
    show Go p.tables e below Pf (s₁.setTop (mkF m 10 #[.val (.int ia), .val (.int ib)] [(.int ia)]))
    exact jn21 s₁ (ia) X0 e0  (Or.inr ⟨hc22, rfl⟩)
theorem d13_0 : decode jdk_38_method_6_code 0 = .ok (.aload_n 0, 1) := by decide +kernel
theorem d13_1 : decode jdk_38_method_6_code 1 = .ok (.getfield 9, 3) := by decide +kernel
theorem d13_4 : decode jdk_38_method_6_code 4 = .ok (.arraylength, 1) := by decide +kernel
theorem d13_5 : decode jdk_38_method_6_code 5 = .ok (.istore_n 2, 1) := by decide +kernel
theorem d13_6 : decode jdk_38_method_6_code 6 = .ok (.iload_n 2, 1) := by decide +kernel
theorem d13_7 : decode jdk_38_method_6_code 7 = .ok (.ifCond .gt 13, 3) := by decide +kernel
theorem d13_10 : decode jdk_38_method_6_code 10 = .ok (.aload_n 0, 1) := by decide +kernel
theorem d13_11 : decode jdk_38_method_6_code 11 = .ok (.getfield 9, 3) := by decide +kernel
theorem d13_14 : decode jdk_38_method_6_code 14 = .ok (.getstatic 39, 3) := by decide +kernel
theorem d13_17 : decode jdk_38_method_6_code 17 = .ok (.if_acmp .eq 28, 3) := by decide +kernel
theorem d13_45 : decode jdk_38_method_6_code 45 = .ok (.aload_n 0, 1) := by decide +kernel
theorem d13_46 : decode jdk_38_method_6_code 46 = .ok (.bipush 10, 2) := by decide +kernel
theorem d13_48 : decode jdk_38_method_6_code 48 = .ok (.iload_n 1, 1) := by decide +kernel
theorem d13_49 : decode jdk_38_method_6_code 49 = .ok (.invokestatic 79, 3) := by decide +kernel
theorem pd_2 : parseMethodDescriptor "(II)I" = some ⟨[.int, .int], some .int⟩ := by decide +kernel
theorem d13_52 : decode jdk_38_method_6_code 52 = .ok (.anewarray 7, 3) := by decide +kernel
theorem d13_55 : decode jdk_38_method_6_code 55 = .ok (.dup_x1, 1) := by decide +kernel
theorem d13_56 : decode jdk_38_method_6_code 56 = .ok (.putfield 9, 3) := by decide +kernel
theorem d13_59 : decode jdk_38_method_6_code 59 = .ok (.areturn, 1) := by decide +kernel
theorem pn_13 : plainName "java/util/ArrayList" = true := by first | (simp [plainName, overriddenIn]; done) | decide +kernel
set_option maxHeartbeats 4000000 in
theorem ef_rmG1 (m : MethodId) {al : Addr} : entryFrame m #[(.ref al), (.int (1 : Int32))] 4 = mkF m 0 #[.val (.ref al), .val (.int (1 : Int32)), .unset, .unset] [] := by first | (simp [entryFrame, mkF, argsToLocals, Value.category]; done) | rfl
def QrmG1 (Z : State) (wD : Addr) (kD : ClassId) (wC : Addr) (cC : Cell) (al : Addr) (mc : Int32) (h0 : Heap) (n0 : Nat) (v : Option Value) (h : Heap) (L : List Loc) : Prop := ∃ (r : Addr) (kk : ClassId), (v = some (.ref r)) ∧ (Fr n0 L) ∧ (Keep h0 h [al]) ∧ (Arv Z h r kk (.object "java/lang/Object") (10 : Int32) [.null, .null, .null, .null, .null, .null, .null, .null, .null, .null] Value.null) ∧ (h0.size ≤ r) ∧ (Exa Z h al "java/util/ArrayList") ∧ (Fld Z h al "java/util/ArrayList" "elementData" "[Ljava/lang/Object;" (.ref r)) ∧ (Fld Z h al "java/util/ArrayList" "size" "I" (.int (0 : Int32))) ∧ (Fld Z h al "java/util/AbstractList" "modCount" "I" (.int mc)) ∧ (Ovr Z kk "java/lang/Object")
set_option maxRecDepth 65536 in
set_option maxHeartbeats 40000000 in
theorem rmG1 (l : Launch) (Z : State) (a0 : Array Value) (hw : ∀ d ∈ tables_1, d.before a0 Z = true) (ws : List Jvm.Cond) (wD : Addr) (kD : ClassId) (wC : Addr) (cC : Cell) (G : Gh Z wD kD wC cC) (al : Addr) (mc : Int32) (h0 : Heap) (n0 : Nat) (O0 : Old Z n0 h0) (EX : Exa Z h0 al "java/util/ArrayList") (FS : Fld Z h0 al "java/util/ArrayList" "size" "I" (.int (0 : Int32))) (FE : Fld Z h0 al "java/util/ArrayList" "elementData" "[Ljava/lang/Object;" (.ref wD)) (FM : Fld Z h0 al "java/util/AbstractList" "modCount" "I" (.int mc)) (g_al : n0 ≤ al) :
    MetFree l (⟨"java/util/ArrayList", "grow", "(I)[Ljava/lang/Object;"⟩ : MethodName) (head1 (Jvm.Cond.code (⟨"java/util/ArrayList", "grow", "(I)[Ljava/lang/Object;"⟩ : MethodName) jdk_38_method_6_code 4 (some (.array (.object "java/lang/Object"))) :: ws) ({ frames := 1, cells := 1, slots := 10, locals := 14 } : Room)) (fun aa' UU' => aa' = #[(.ref al), (.int (1 : Int32))] ∧ Z.Warmed39 UU'.vm ∧ UU'.heap = h0) (fun _ _ _ _ _ => True) (fun _ UU' oo' VV' => ∃ v' L', oo' = .returned v' ∧ QrmG1 Z wD kD wC cC al mc h0 n0 v' VV'.heap L' ∧ FrameEnd UU' oo' VV' L' ({ frames := 1, cells := 1, slots := 10, locals := 14 } : Room).cells ({ frames := 1, cells := 1, slots := 10, locals := 14 } : Room).slots) := by
  refine MetFree.of_bodySF (plainFor_of_name pn_13) hisR ?_
  intro p e s m args below meth c s₁ Bd hml0 hP hK
  obtain ⟨rfl, hZ, hh⟩ := hP
  have hx := Bd.exec
  have hby := Bd.bytes
  have hlk := Bd.notSynchronized
  have hml : c.maxLocals = 4 := hml0
  have hown : s.vm.findClass "java/util/ArrayList" = some m.cls := findClass_of_methodNamed Bd.named
  have hnm := (name_of_methodNamed Bd.named Bd.method).1
  have hret := Bd.returns
  have X0 : Stand p l e ({ frames := 1, cells := 1, slots := 10, locals := 14 } : Room) s m #[(.ref al), (.int (1 : Int32))] below meth c s₁ [] 0 0 := Stand.of_body Bd
  have e0 : s₁.heap = h0 := by rw [← hh, Bd.state]; rfl
  have N0 := Fr.nil n0
  have KC0 : Keep h0 h0 [al] := Keep.refl _ _
  refine Go.body ?_
  obtain ⟨Pf, hPf⟩ : ∃ P, P = Fin' s below ({ frames := 1, cells := 1, slots := 10, locals := 14 } : Room).cells ({ frames := 1, cells := 1, slots := 10, locals := 14 } : Room).slots (QrmG1 Z wD kD wC cC al mc h0 n0) := ⟨_, rfl⟩
  rw [← hPf]
  refine Go.cast (ef_rmG1 m) ?_
  have hw1 := (hw _ (List.mem_of_getElem? (i := 1) rfl))
  have hw22 := (hw _ (List.mem_of_getElem? (i := 22) rfl))
  have hw23 := (hw _ (List.mem_of_getElem? (i := 23) rfl))
  have hw24 := (hw _ (List.mem_of_getElem? (i := 24) rfl))
  have hw25 := (hw _ (List.mem_of_getElem? (i := 25) rfl))
  have hw40 := (hw _ (List.mem_of_getElem? (i := 40) rfl))
  have hw87 := (hw _ (List.mem_of_getElem? (i := 87) rfl))
  have hw88 := (hw _ (List.mem_of_getElem? (i := 88) rfl))
  have hw89 := (hw _ (List.mem_of_getElem? (i := 89) rfl))
  have hw90 := (hw _ (List.mem_of_getElem? (i := 90) rfl))
  have hw91 := (hw _ (List.mem_of_getElem? (i := 91) rfl))
  have hw92 := (hw _ (List.mem_of_getElem? (i := 92) rfl))
  show Go p.tables e below Pf (s₁.setTop (mkF m 0 #[.val (.ref al), .val (.int (1 : Int32)), .unset, .unset] []))
  refine Go.by' (fun t k => (XS.aloadN X0.here hx rfl (hb hby d13_0) rfl rfl k)) ?_
  show Go p.tables e below Pf (s₁.setTop (mkF m 1 #[.val (.ref al), .val (.int (1 : Int32)), .unset, .unset] [(.ref al)]))
  obtain ⟨T23, X23, e23, st23⟩ := getF X0 hx hZ hown (host := "") (Or.inl hw24) Via.refl e0 FE (g := (mkF m 1 #[.val (.ref al), .val (.int (1 : Int32)), .unset, .unset] [(.ref al)])) rfl rfl (hb hby d13_1)
  refine Go.by' st23 ?_
  show Go p.tables e below Pf (T23.setTop (mkF m 4 #[.val (.ref al), .val (.int (1 : Int32)), .unset, .unset] [(.ref wD)]))
  obtain ⟨cl24, Ar24, -, S24, P24, -, -⟩ := (id (G.2.2.1.ext O0.2))
  refine Go.by' (fun t k => (X23.arraylength hx (by rw [e23]; exact Ar24.1) (State.isArrayOf_alike hZ.alike Ar24.2.1) (g := (mkF m 4 #[.val (.ref al), .val (.int (1 : Int32)), .unset, .unset] [(.ref wD)])) rfl rfl (hb hby d13_4) t k)) ?_
  rw [len_of S24 P24]
  show Go p.tables e below Pf (T23.setTop (mkF m 5 #[.val (.ref al), .val (.int (1 : Int32)), .unset, .unset] [(.int (0 : Int32))]))
  refine Go.by' (fun t k => (XS.istoreN X23.here hx rfl (hb hby d13_5) rfl (l' := #[.val (.ref al), .val (.int (1 : Int32)), .val (.int (0 : Int32)), .unset]) rfl (XS.iloadN X23.here hx rfl (hb hby d13_6) rfl (XS.ifNo X23.here hx rfl (hb hby d13_7) rfl ((if0 _ _).trans (flt (by decide)).2.2.1) (XS.aloadN X23.here hx rfl (hb hby d13_10) rfl rfl k))))) ?_
  show Go p.tables e below Pf (T23.setTop (mkF m 11 #[.val (.ref al), .val (.int (1 : Int32)), .val (.int (0 : Int32)), .unset] [(.ref al)]))
  obtain ⟨T25, X25, e25, st25⟩ := getF X23 hx hZ hown (host := "") (Or.inl hw24) Via.refl e23 FE (g := (mkF m 11 #[.val (.ref al), .val (.int (1 : Int32)), .val (.int (0 : Int32)), .unset] [(.ref al)])) rfl rfl (hb hby d13_11)
  refine Go.by' st25 ?_
  show Go p.tables e below Pf (T25.setTop (mkF m 14 #[.val (.ref al), .val (.int (1 : Int32)), .val (.int (0 : Int32)), .unset] [(.ref wD)]))
  obtain ⟨T26, X26, e26, st26⟩ := getS2 X25 hx hZ hown (host := "") (Or.inl hw23) Via.refl e25 (G.1.ext O0.2) (g := (mkF m 14 #[.val (.ref al), .val (.int (1 : Int32)), .val (.int (0 : Int32)), .unset] [(.ref wD)])) rfl (hb hby d13_14)
  refine Go.by' st26 ?_
  show Go p.tables e below Pf (T26.setTop (mkF m 17 #[.val (.ref al), .val (.int (1 : Int32)), .val (.int (0 : Int32)), .unset] [(.ref wD), (.ref wD)]))
  refine Go.by' (fun t k => Jvm.RoadKit.acmp (g := (mkF m 17 #[.val (.ref al), .val (.int (1 : Int32)), .val (.int (0 : Int32)), .unset] [(.ref wD), (.ref wD)])) X26 hx rfl rfl rfl (pc0 := 17) (pc' := 45) (same := true) rfl (hb hby d13_17) rfl (decide_eq_true rfl) (by decide) (by decide) k) ?_
  show Go p.tables e below Pf (T26.setTop (mkF m 45 #[.val (.ref al), .val (.int (1 : Int32)), .val (.int (0 : Int32)), .unset] []))
  refine Go.by' (fun t k => (XS.aloadN X26.here hx rfl (hb hby d13_45) rfl rfl (XS.bipush X26.here hx rfl (hb hby d13_46) (XS.iloadN X26.here hx rfl (hb hby d13_48) rfl k)))) ?_
  show Go p.tables e below Pf (T26.setTop (mkF m 49 #[.val (.ref al), .val (.int (1 : Int32)), .val (.int (0 : Int32)), .unset] [(.int (1 : Int32)), (.int (10 : Int32)), (.ref al)]))
  obtain ⟨_, _, ⟨T27, L27, k27, n27⟩, -, X27, ⟨Lc27, hQ27, l27, y27, z27⟩, st27⟩ := Jvm.LawKit.callS X26 hx (y := (⟨"java/lang/Math", "max", "(II)I"⟩ : MethodName)) hown (mvT hZ hw87) (mvT hZ hw88) (mvT hZ hw89) (mvT hZ hw90) (by decide) (backOf (W := 1) (rmMax l Z a0 hw [] wD kD wC cC G ((10 : Int32)) ((1 : Int32)) h0 n0 O0 ) hZ hw90 hw89 (by decide) (by decide)) (g := (mkF m 49 #[.val (.ref al), .val (.int (1 : Int32)), .val (.int (0 : Int32)), .unset] [(.int (1 : Int32)), (.int (10 : Int32)), (.ref al)])) rfl (by rw [hml]; rfl) (argsL := [(.int (10 : Int32)), (.int (1 : Int32))]) (rest := [(.ref al)]) (lenOf pd_2 rfl) rfl (by show 2 * 0 + _ ≤ _; exact Nat.le_of_eq rfl) (hb hby d13_49) (fun _ _ => ⟨rfl, e26, (by decide : 0 + 0 ≤ _), (by decide : 0 + 0 ≤ _)⟩)
  dsimp only [Pt.U, Pt.locs, Pt.cells, Pt.slots] at X27 l27 y27 z27 st27 hQ27
  subst l27 y27 z27
  obtain ⟨r_27, rfl, rfl, e27, r27_0⟩ := hQ27
  try rw [List.append_nil] at X27
  refine Go.by' st27 ?_
  obtain rfl : r_27 = (10 : Int32) := by rcases r27_0 with ⟨h1, h2⟩ | ⟨h1, h2⟩ <;> first | exact h2 | exact absurd h1 (by decide)
  show Go p.tables e below Pf (T27.setTop (mkF m 52 #[.val (.ref al), .val (.int (1 : Int32)), .val (.int (0 : Int32)), .unset] [(.int (10 : Int32)), (.ref al)]))
  obtain ⟨T28, h28, k28, X28, e28, E28, A28, Ov28, st28⟩ := newR X27 hx hZ hown hw91 hw92 e27 (g := (mkF m 52 #[.val (.ref al), .val (.int (1 : Int32)), .val (.int (0 : Int32)), .unset] [(.int (10 : Int32)), (.ref al)])) rfl (hb hby d13_52) rfl (by decide) (cap := 10) (by decide) (by decide) (by decide) (by decide)
  obtain ⟨b28, g28⟩ : ∃ z, z = h0.size := ⟨_, rfl⟩
  rw [← g28] at A28 st28
  refine Go.by' st28 ?_
  have g_b28 : n0 ≤ b28 := Nat.le_trans (own_le O0) (Nat.le_of_eq g28.symm)
  have sz_b28 : h0.size ≤ b28 := Nat.le_trans KC0.1 (Nat.le_of_eq g28.symm)
  have O28 := O0.ext E28
  have KC28 : Keep h0 h28 [al] := KC0.ext E28
  have V28 : Arv Z h28 b28 k28 (.object "java/lang/Object") (10 : Int32) [.null, .null, .null, .null, .null, .null, .null, .null, .null, .null] Value.null := (Arv.new A28 (by decide)).pad (pad_rep [] Value.null 10)
  show Go p.tables e below Pf (T28.setTop (mkF m 55 #[.val (.ref al), .val (.int (1 : Int32)), .val (.int (0 : Int32)), .unset] [(.ref b28), (.ref al)]))
  refine Go.by' (fun t k => (XS.dupX1 X28.here hx rfl (hb hby d13_55) rfl rfl rfl k)) ?_
  show Go p.tables e below Pf (T28.setTop (mkF m 56 #[.val (.ref al), .val (.int (1 : Int32)), .val (.int (0 : Int32)), .unset] [(.ref b28), (.ref al), (.ref b28)]))
  obtain ⟨T29, h29, X29, e29, W29, st29⟩ := putF X28 hx hZ hown (host := "") (Or.inl hw24) Via.refl e28 (FE.ext E28) (EX.ext E28) (Or.inl hw25) hw1 (ty := (.array (.object "java/lang/Object"))) (by decide) rfl rfl (g := (mkF m 56 #[.val (.ref al), .val (.int (1 : Int32)), .val (.int (0 : Int32)), .unset] [(.ref b28), (.ref al), (.ref b28)])) rfl rfl (hb hby d13_56)
  refine Go.by' st29 ?_
  have Fw29 : Fld Z h29 al "java/util/ArrayList" "elementData" "[Ljava/lang/Object;" (Value.ref b28) := (FE.ext E28).same W29
  have N29 := Fr.snoc X29 N0 g_al
  have O29 := O28.wr W29 g_al
  have KC29 : Keep h0 h29 [al] := KC28.wr W29 (Or.inl (List.mem_of_getElem? (i := 0) rfl))
  show Go p.tables e below Pf (T29.setTop (mkF m 59 #[.val (.ref al), .val (.int (1 : Int32)), .val (.int (0 : Int32)), .unset] [(.ref b28)]))
  have c30 := ((EX.ext E28).wr W29)
  have c31 := ((FS.ext E28).other W29 (Or.inr (slot_ne (Or.inl hw40) (Or.inl hw25) (by decide) (t := .int) (t' := (.array (.object "java/lang/Object"))) (by decide) (by decide))))
  have c32 := ((FM.ext E28).other W29 (Or.inr (slot_ne (Or.inl hw22) (Or.inl hw25) (by decide) (t := .int) (t' := (.array (.object "java/lang/Object"))) (by decide) (by decide))))
  rw [hPf]
  exact Go.retA' X29 hx hret hlk rfl rfl (hb hby d13_59) (by decide) (by decide) ⟨b28, k28, rfl, N29, (by rw [e29]; exact KC29), (by rw [e29]; exact (V28.other W29 (Ne.symm (Nat.ne_of_lt (Nat.lt_of_lt_of_le EX.lt (Nat.le_of_eq g28.symm)))))), sz_b28, (by rw [e29]; exact c30), (by rw [e29]; exact Fw29), (by rw [e29]; exact c31), (by rw [e29]; exact c32), Ov28⟩
theorem d12_0 : decode jdk_38_method_7_code 0 = .ok (.aload_n 0, 1) := by decide +kernel
theorem d12_1 : decode jdk_38_method_7_code 1 = .ok (.aload_n 0, 1) := by decide +kernel
theorem d12_2 : decode jdk_38_method_7_code 2 = .ok (.getfield 48, 3) := by decide +kernel
theorem d12_5 : decode jdk_38_method_7_code 5 = .ok (.iconst 1, 1) := by decide +kernel
theorem d12_6 : decode jdk_38_method_7_code 6 = .ok (.iadd, 1) := by decide +kernel
theorem d12_7 : decode jdk_38_method_7_code 7 = .ok (.invokevirtual 69, 3) := by decide +kernel
theorem pd_3 : parseMethodDescriptor "(I)[Ljava/lang/Object;" = some ⟨[.int], some (.array (.object "java/lang/Object"))⟩ := by decide +kernel
theorem d12_10 : decode jdk_38_method_7_code 10 = .ok (.areturn, 1) := by decide +kernel
theorem pn_12 : plainName "java/util/ArrayList" = true := by first | (simp [plainName, overriddenIn]; done) | decide +kernel
set_option maxHeartbeats 4000000 in
theorem ef_rmG0 (m : MethodId) {al : Addr} : entryFrame m #[(.ref al)] 1 = mkF m 0 #[.val (.ref al)] [] := by first | (simp [entryFrame, mkF, argsToLocals, Value.category]; done) | rfl
def QrmG0 (Z : State) (wD : Addr) (kD : ClassId) (wC : Addr) (cC : Cell) (al : Addr) (mc : Int32) (h0 : Heap) (n0 : Nat) (v : Option Value) (h : Heap) (L : List Loc) : Prop := ∃ (r : Addr) (kk : ClassId), (v = some (.ref r)) ∧ (Fr n0 L) ∧ (Keep h0 h [al]) ∧ (Arv Z h r kk (.object "java/lang/Object") (10 : Int32) [.null, .null, .null, .null, .null, .null, .null, .null, .null, .null] Value.null) ∧ (h0.size ≤ r) ∧ (Exa Z h al "java/util/ArrayList") ∧ (Fld Z h al "java/util/ArrayList" "elementData" "[Ljava/lang/Object;" (.ref r)) ∧ (Fld Z h al "java/util/ArrayList" "size" "I" (.int (0 : Int32))) ∧ (Fld Z h al "java/util/AbstractList" "modCount" "I" (.int mc)) ∧ (Ovr Z kk "java/lang/Object")
set_option maxRecDepth 65536 in
set_option maxHeartbeats 40000000 in
theorem rmG0 (l : Launch) (Z : State) (a0 : Array Value) (hw : ∀ d ∈ tables_1, d.before a0 Z = true) (ws : List Jvm.Cond) (wD : Addr) (kD : ClassId) (wC : Addr) (cC : Cell) (G : Gh Z wD kD wC cC) (al : Addr) (mc : Int32) (h0 : Heap) (n0 : Nat) (O0 : Old Z n0 h0) (EX : Exa Z h0 al "java/util/ArrayList") (FS : Fld Z h0 al "java/util/ArrayList" "size" "I" (.int (0 : Int32))) (FE : Fld Z h0 al "java/util/ArrayList" "elementData" "[Ljava/lang/Object;" (.ref wD)) (FM : Fld Z h0 al "java/util/AbstractList" "modCount" "I" (.int mc)) (g_al : n0 ≤ al) :
    MetFree l (⟨"java/util/ArrayList", "grow", "()[Ljava/lang/Object;"⟩ : MethodName) (head1 (Jvm.Cond.code (⟨"java/util/ArrayList", "grow", "()[Ljava/lang/Object;"⟩ : MethodName) jdk_38_method_7_code 1 (some (.array (.object "java/lang/Object"))) :: ws) ({ frames := 2, cells := 1, slots := 10, locals := 29 } : Room)) (fun aa' UU' => aa' = #[(.ref al)] ∧ Z.Warmed39 UU'.vm ∧ UU'.heap = h0) (fun _ _ _ _ _ => True) (fun _ UU' oo' VV' => ∃ v' L', oo' = .returned v' ∧ QrmG0 Z wD kD wC cC al mc h0 n0 v' VV'.heap L' ∧ FrameEnd UU' oo' VV' L' ({ frames := 2, cells := 1, slots := 10, locals := 29 } : Room).cells ({ frames := 2, cells := 1, slots := 10, locals := 29 } : Room).slots) := by
  refine MetFree.of_bodySF (plainFor_of_name pn_12) hisR ?_
  intro p e s m args below meth c s₁ Bd hml0 hP hK
  obtain ⟨rfl, hZ, hh⟩ := hP
  have hx := Bd.exec
  have hby := Bd.bytes
  have hlk := Bd.notSynchronized
  have hml : c.maxLocals = 1 := hml0
  have hown : s.vm.findClass "java/util/ArrayList" = some m.cls := findClass_of_methodNamed Bd.named
  have hnm := (name_of_methodNamed Bd.named Bd.method).1
  have hret := Bd.returns
  have X0 : Stand p l e ({ frames := 2, cells := 1, slots := 10, locals := 29 } : Room) s m #[(.ref al)] below meth c s₁ [] 0 0 := Stand.of_body Bd
  have e0 : s₁.heap = h0 := by rw [← hh, Bd.state]; rfl
  have N0 := Fr.nil n0
  have KC0 : Keep h0 h0 [al] := Keep.refl _ _
  refine Go.body ?_
  obtain ⟨Pf, hPf⟩ : ∃ P, P = Fin' s below ({ frames := 2, cells := 1, slots := 10, locals := 29 } : Room).cells ({ frames := 2, cells := 1, slots := 10, locals := 29 } : Room).slots (QrmG0 Z wD kD wC cC al mc h0 n0) := ⟨_, rfl⟩
  rw [← hPf]
  refine Go.cast (ef_rmG0 m) ?_
  have hw2 := (hw _ (List.mem_of_getElem? (i := 2) rfl))
  have hw39 := (hw _ (List.mem_of_getElem? (i := 39) rfl))
  have hw82 := (hw _ (List.mem_of_getElem? (i := 82) rfl))
  have hw83 := (hw _ (List.mem_of_getElem? (i := 83) rfl))
  have hw84 := (hw _ (List.mem_of_getElem? (i := 84) rfl))
  have hw85 := (hw _ (List.mem_of_getElem? (i := 85) rfl))
  have hw86 := (hw _ (List.mem_of_getElem? (i := 86) rfl))
  show Go p.tables e below Pf (s₁.setTop (mkF m 0 #[.val (.ref al)] []))
  refine Go.by' (fun t k => (XS.aloadN X0.here hx rfl (hb hby d12_0) rfl rfl (XS.aloadN X0.here hx rfl (hb hby d12_1) rfl rfl k))) ?_
  show Go p.tables e below Pf (s₁.setTop (mkF m 2 #[.val (.ref al)] [(.ref al), (.ref al)]))
  obtain ⟨T33, X33, e33, st33⟩ := getF X0 hx hZ hown (host := "") (Or.inl hw39) Via.refl e0 FS (g := (mkF m 2 #[.val (.ref al)] [(.ref al), (.ref al)])) rfl rfl (hb hby d12_2)
  refine Go.by' st33 ?_
  show Go p.tables e below Pf (T33.setTop (mkF m 5 #[.val (.ref al)] [(.int (0 : Int32)), (.ref al)]))
  refine Go.by' (fun t k => (XS.iconst X33.here hx rfl (hb hby d12_5) (XS.iadd X33.here hx rfl (hb hby d12_6) rfl k))) ?_
  show Go p.tables e below Pf (T33.setTop (mkF m 7 #[.val (.ref al)] [(.int ((0 : Int32) + (1 : Int32))), (.ref al)]))
  refine Go.castF (fun z' => mkF m 7 #[.val (.ref al)] [(.int z'), (.ref al)]) (by decide : ((0 : Int32) + (1 : Int32)) = (1 : Int32)) ?_
  show Go p.tables e below Pf (T33.setTop (mkF m 7 #[.val (.ref al)] [(.int (1 : Int32)), (.ref al)]))
  obtain ⟨cq34, q34, q34'⟩ := EX.cell
  obtain ⟨_, _, ⟨T34, L34, k34, n34⟩, -, X34, ⟨Lc34, hQ34, l34, y34, z34⟩, st34⟩ := X33.privateBack hx (y := (⟨"java/util/ArrayList", "grow", "(I)[Ljava/lang/Object;"⟩ : MethodName)) hown (mvT hZ hw82) (mvT hZ hw83) (mvT hZ hw85) (Cond.privateMethod_at (mvP hZ hw84 (args := #[]))) (mvT hZ hw86) (by decide) (backOf (W := 0) (rmG1 l Z a0 hw [] wD kD wC cC G al mc h0 n0 O0 EX FS FE FM g_al) hZ hw86 hw2 (by decide) (by decide)) (g := (mkF m 7 #[.val (.ref al)] [(.int (1 : Int32)), (.ref al)])) rfl (by rw [hml]; rfl) (Steps.refl _) (a := al) (by rw [e33]; exact q34) q34' (argsL := [(.int (1 : Int32))]) (rest := []) (lenOf pd_3 rfl) rfl (by show 2 * 0 + _ ≤ _; exact Nat.le_of_eq rfl) (hb hby d12_7) (fun _ _ => ⟨rfl, e33, (by decide : 0 + 1 ≤ _), (by decide : 0 + 10 ≤ _)⟩)
  dsimp only [Pt.U, Pt.locs, Pt.cells, Pt.slots] at X34 l34 y34 z34 st34 hQ34
  subst l34 y34 z34
  obtain ⟨r_34, kk_34, rfl, N34q, K34, f34_0, f34_1, f34_2, f34_3, f34_4, f34_5, r34_0⟩ := hQ34
  have N34 := Fr.app N0 N34q
  refine Go.by' (fun t k => st34.trans k) ?_
  have g_r_34 : n0 ≤ r_34 := Nat.le_trans (own_le O0) f34_1
  have sz_r_34 : h0.size ≤ r_34 := Nat.le_trans KC0.1 f34_1
  have O34 := O0.keep K34 (allS g_al all0)
  have KC34 : Keep h0 T34.heap [al] := KC0.trans K34 (allS (Or.inl (List.mem_of_getElem? (i := 0) rfl)) all0)
  show Go p.tables e below Pf (T34.setTop (mkF m 10 #[.val (.ref al)] [(.ref r_34)]))
  rw [hPf]
  exact Go.retA' X34 hx hret hlk rfl rfl (hb hby d12_10) (by decide) (by decide) ⟨r_34, kk_34, rfl, N34, KC34, f34_0, sz_r_34, f34_2, f34_3, f34_4, f34_5, r34_0⟩
theorem d11_0 : decode jdk_38_method_24_code 0 = .ok (.iload_n 3, 1) := by decide +kernel
theorem d11_1 : decode jdk_38_method_24_code 1 = .ok (.aload_n 2, 1) := by decide +kernel
theorem d11_2 : decode jdk_38_method_24_code 2 = .ok (.arraylength, 1) := by decide +kernel
theorem d11_3 : decode jdk_38_method_24_code 3 = .ok (.if_icmp .ne 8, 3) := by decide +kernel
theorem d11_6 : decode jdk_38_method_24_code 6 = .ok (.aload_n 0, 1) := by decide +kernel
theorem d11_7 : decode jdk_38_method_24_code 7 = .ok (.invokevirtual 129, 3) := by decide +kernel
theorem pd_4 : parseMethodDescriptor "()[Ljava/lang/Object;" = some ⟨[], some (.array (.object "java/lang/Object"))⟩ := by decide +kernel
theorem d11_10 : decode jdk_38_method_24_code 10 = .ok (.astore_n 2, 1) := by decide +kernel
theorem d11_11 : decode jdk_38_method_24_code 11 = .ok (.aload_n 2, 1) := by decide +kernel
theorem d11_12 : decode jdk_38_method_24_code 12 = .ok (.iload_n 3, 1) := by decide +kernel
theorem d11_13 : decode jdk_38_method_24_code 13 = .ok (.aload_n 1, 1) := by decide +kernel
theorem d11_14 : decode jdk_38_method_24_code 14 = .ok (.aastore, 1) := by decide +kernel
theorem d11_15 : decode jdk_38_method_24_code 15 = .ok (.aload_n 0, 1) := by decide +kernel
theorem d11_16 : decode jdk_38_method_24_code 16 = .ok (.iload_n 3, 1) := by decide +kernel
theorem d11_17 : decode jdk_38_method_24_code 17 = .ok (.iconst 1, 1) := by decide +kernel
theorem d11_18 : decode jdk_38_method_24_code 18 = .ok (.iadd, 1) := by decide +kernel
theorem d11_19 : decode jdk_38_method_24_code 19 = .ok (.putfield 48, 3) := by decide +kernel
theorem d11_22 : decode jdk_38_method_24_code 22 = .ok (.return_, 1) := by decide +kernel
theorem pn_11 : plainName "java/util/ArrayList" = true := by first | (simp [plainName, overriddenIn]; done) | decide +kernel
set_option maxHeartbeats 4000000 in
theorem ef_rmA3_0 (m : MethodId) {al : Addr} {ob : Addr} {wD : Addr} : entryFrame m #[(.ref al), (.ref ob), (.ref wD), (.int (0 : Int32))] 4 = mkF m 0 #[.val (.ref al), .val (.ref ob), .val (.ref wD), .val (.int (0 : Int32))] [] := by first | (simp [entryFrame, mkF, argsToLocals, Value.category]; done) | rfl
def QrmA3_0 (Z : State) (wD : Addr) (kD : ClassId) (wC : Addr) (cC : Cell) (al : Addr) (ob : Addr) (mc : Int32) (h0 : Heap) (n0 : Nat) (v : Option Value) (h : Heap) (L : List Loc) : Prop := ∃ (r : Addr) (kk : ClassId), (v = none) ∧ (Fr n0 L) ∧ (Keep h0 h [al]) ∧ (Arv Z h r kk (.object "java/lang/Object") (10 : Int32) [(.ref ob), .null, .null, .null, .null, .null, .null, .null, .null, .null] Value.null) ∧ (h0.size ≤ r) ∧ (Exa Z h al "java/util/ArrayList") ∧ (Fld Z h al "java/util/ArrayList" "elementData" "[Ljava/lang/Object;" (.ref r)) ∧ (Fld Z h al "java/util/ArrayList" "size" "I" (.int (1 : Int32))) ∧ (Fld Z h al "java/util/AbstractList" "modCount" "I" (.int mc)) ∧ (Ovr Z kk "java/lang/Object")
set_option maxRecDepth 65536 in
set_option maxHeartbeats 40000000 in
theorem rmA3_0 (l : Launch) (Z : State) (a0 : Array Value) (hw : ∀ d ∈ tables_1, d.before a0 Z = true) (ws : List Jvm.Cond) (wD : Addr) (kD : ClassId) (wC : Addr) (cC : Cell) (G : Gh Z wD kD wC cC) (al : Addr) (ob : Addr) (mc : Int32) (h0 : Heap) (n0 : Nat) (O0 : Old Z n0 h0) (EX : Exa Z h0 al "java/util/ArrayList") (FS : Fld Z h0 al "java/util/ArrayList" "size" "I" (.int (0 : Int32))) (FE : Fld Z h0 al "java/util/ArrayList" "elementData" "[Ljava/lang/Object;" (.ref wD)) (FM : Fld Z h0 al "java/util/AbstractList" "modCount" "I" (.int mc)) (g_al : n0 ≤ al) (EO : Exa Z h0 ob "java/lang/Integer") :
    MetFree l (⟨"java/util/ArrayList", "add", "(Ljava/lang/Object;[Ljava/lang/Object;I)V"⟩ : MethodName) (head1 (Jvm.Cond.code (⟨"java/util/ArrayList", "add", "(Ljava/lang/Object;[Ljava/lang/Object;I)V"⟩ : MethodName) jdk_38_method_24_code 4 none :: ws) ({ frames := 3, cells := 1, slots := 10, locals := 41 } : Room)) (fun aa' UU' => aa' = #[(.ref al), (.ref ob), (.ref wD), (.int (0 : Int32))] ∧ Z.Warmed39 UU'.vm ∧ UU'.heap = h0) (fun _ _ _ _ _ => True) (fun _ UU' oo' VV' => ∃ v' L', oo' = .returned v' ∧ QrmA3_0 Z wD kD wC cC al ob mc h0 n0 v' VV'.heap L' ∧ FrameEnd UU' oo' VV' L' ({ frames := 3, cells := 1, slots := 10, locals := 41 } : Room).cells ({ frames := 3, cells := 1, slots := 10, locals := 41 } : Room).slots) := by
  refine MetFree.of_bodySF (plainFor_of_name pn_11) hisR ?_
  intro p e s m args below meth c s₁ Bd hml0 hP hK
  obtain ⟨rfl, hZ, hh⟩ := hP
  have hx := Bd.exec
  have hby := Bd.bytes
  have hlk := Bd.notSynchronized
  have hml : c.maxLocals = 4 := hml0
  have hown : s.vm.findClass "java/util/ArrayList" = some m.cls := findClass_of_methodNamed Bd.named
  have hnm := (name_of_methodNamed Bd.named Bd.method).1
  have hret := Bd.returns
  have X0 : Stand p l e ({ frames := 3, cells := 1, slots := 10, locals := 41 } : Room) s m #[(.ref al), (.ref ob), (.ref wD), (.int (0 : Int32))] below meth c s₁ [] 0 0 := Stand.of_body Bd
  have e0 : s₁.heap = h0 := by rw [← hh, Bd.state]; rfl
  have N0 := Fr.nil n0
  have KC0 : Keep h0 h0 [al] := Keep.refl _ _
  refine Go.body ?_
  obtain ⟨Pf, hPf⟩ : ∃ P, P = Fin' s below ({ frames := 3, cells := 1, slots := 10, locals := 41 } : Room).cells ({ frames := 3, cells := 1, slots := 10, locals := 41 } : Room).slots (QrmA3_0 Z wD kD wC cC al ob mc h0 n0) := ⟨_, rfl⟩
  rw [← hPf]
  refine Go.cast (ef_rmA3_0 m) ?_
  have hw1 := (hw _ (List.mem_of_getElem? (i := 1) rfl))
  have hw2 := (hw _ (List.mem_of_getElem? (i := 2) rfl))
  have hw22 := (hw _ (List.mem_of_getElem? (i := 22) rfl))
  have hw25 := (hw _ (List.mem_of_getElem? (i := 25) rfl))
  have hw39 := (hw _ (List.mem_of_getElem? (i := 39) rfl))
  have hw40 := (hw _ (List.mem_of_getElem? (i := 40) rfl))
  have hw77 := (hw _ (List.mem_of_getElem? (i := 77) rfl))
  have hw78 := (hw _ (List.mem_of_getElem? (i := 78) rfl))
  have hw79 := (hw _ (List.mem_of_getElem? (i := 79) rfl))
  have hw80 := (hw _ (List.mem_of_getElem? (i := 80) rfl))
  have hw81 := (hw _ (List.mem_of_getElem? (i := 81) rfl))
  have hw93 := (hw _ (List.mem_of_getElem? (i := 93) rfl))
  show Go p.tables e below Pf (s₁.setTop (mkF m 0 #[.val (.ref al), .val (.ref ob), .val (.ref wD), .val (.int (0 : Int32))] []))
  refine Go.by' (fun t k => (XS.iloadN X0.here hx rfl (hb hby d11_0) rfl (XS.aloadN X0.here hx rfl (hb hby d11_1) rfl rfl k))) ?_
  show Go p.tables e below Pf (s₁.setTop (mkF m 2 #[.val (.ref al), .val (.ref ob), .val (.ref wD), .val (.int (0 : Int32))] [(.ref wD), (.int (0 : Int32))]))
  obtain ⟨cl35, Ar35, -, S35, P35, -, -⟩ := (id (G.2.2.1.ext O0.2))
  refine Go.by' (fun t k => (X0.arraylength hx (by rw [e0]; exact Ar35.1) (State.isArrayOf_alike hZ.alike Ar35.2.1) (g := (mkF m 2 #[.val (.ref al), .val (.ref ob), .val (.ref wD), .val (.int (0 : Int32))] [(.ref wD), (.int (0 : Int32))])) rfl rfl (hb hby d11_2) t k)) ?_
  rw [len_of S35 P35]
  show Go p.tables e below Pf (s₁.setTop (mkF m 3 #[.val (.ref al), .val (.ref ob), .val (.ref wD), .val (.int (0 : Int32))] [(.int (0 : Int32)), (.int (0 : Int32))]))
  refine Go.by' (fun t k => (XS.icmpNo X0.here hx rfl (hb hby d11_3) rfl (teq (by decide)).2 (XS.aloadN X0.here hx rfl (hb hby d11_6) rfl rfl k))) ?_
  show Go p.tables e below Pf (s₁.setTop (mkF m 7 #[.val (.ref al), .val (.ref ob), .val (.ref wD), .val (.int (0 : Int32))] [(.ref al)]))
  obtain ⟨cq36, q36, q36'⟩ := EX.cell
  obtain ⟨_, _, ⟨T36, L36, k36, n36⟩, -, X36, ⟨Lc36, hQ36, l36, y36, z36⟩, st36⟩ := X0.privateBack hx (y := (⟨"java/util/ArrayList", "grow", "()[Ljava/lang/Object;"⟩ : MethodName)) hown (mvT hZ hw77) (mvT hZ hw78) (mvT hZ hw80) (Cond.privateMethod_at (mvP hZ hw79 (args := #[]))) (mvT hZ hw81) (by decide) (backOf (W := 0) (rmG0 l Z a0 hw [] wD kD wC cC G al mc h0 n0 O0 EX FS FE FM g_al) hZ hw81 hw2 (by decide) (by decide)) (g := (mkF m 7 #[.val (.ref al), .val (.ref ob), .val (.ref wD), .val (.int (0 : Int32))] [(.ref al)])) rfl (by rw [hml]; rfl) (Steps.refl _) (a := al) (by rw [e0]; exact q36) q36' (argsL := []) (rest := []) (lenOf pd_4 rfl) rfl (by show 2 * 0 + _ ≤ _; exact Nat.le_of_eq rfl) (hb hby d11_7) (fun _ _ => ⟨rfl, e0, (by decide : 0 + 1 ≤ _), (by decide : 0 + 10 ≤ _)⟩)
  dsimp only [Pt.U, Pt.locs, Pt.cells, Pt.slots] at X36 l36 y36 z36 st36 hQ36
  subst l36 y36 z36
  obtain ⟨r_36, kk_36, rfl, N36q, K36, f36_0, f36_1, f36_2, f36_3, f36_4, f36_5, r36_0⟩ := hQ36
  have N36 := Fr.app N0 N36q
  refine Go.by' (fun t k => st36.trans k) ?_
  have g_r_36 : n0 ≤ r_36 := Nat.le_trans (own_le O0) f36_1
  have sz_r_36 : h0.size ≤ r_36 := Nat.le_trans KC0.1 f36_1
  have O36 := O0.keep K36 (allS g_al all0)
  have KC36 : Keep h0 T36.heap [al] := KC0.trans K36 (allS (Or.inl (List.mem_of_getElem? (i := 0) rfl)) all0)
  show Go p.tables e below Pf (T36.setTop (mkF m 10 #[.val (.ref al), .val (.ref ob), .val (.ref wD), .val (.int (0 : Int32))] [(.ref r_36)]))
  refine Go.by' (fun t k => (XS.astoreN X36.here hx rfl (hb hby d11_10) rfl rfl (l' := #[.val (.ref al), .val (.ref ob), .val (.ref r_36), .val (.int (0 : Int32))]) rfl (XS.aloadN X36.here hx rfl (hb hby d11_11) rfl rfl (XS.iloadN X36.here hx rfl (hb hby d11_12) rfl (XS.aloadN X36.here hx rfl (hb hby d11_13) rfl rfl k))))) ?_
  show Go p.tables e below Pf (T36.setTop (mkF m 14 #[.val (.ref al), .val (.ref ob), .val (.ref r_36), .val (.int (0 : Int32))] [(.ref ob), (.int (0 : Int32)), (.ref r_36)]))
  obtain ⟨cl37, Ar37, q37, S37, P37, H37, G37⟩ := (id f36_0)
  have hin37 : ¬ ((0 : Int32) < 0 ∨ cl37.slots.size ≤ ((0 : Int32)).toNatClampNeg) := inb_of S37 ⟨by decide, by decide⟩
  obtain ⟨T38, h38, X38, e38, W38, st38⟩ := stR X36 hx hZ rfl Ar37 (j := (0 : Int32)) hin37 rfl (Sto.ofV Ar37 q37 r36_0 (Ins.of_exa (EO.keep K36) hw93)) (g := (mkF m 14 #[.val (.ref al), .val (.ref ob), .val (.ref r_36), .val (.int (0 : Int32))] [(.ref ob), (.int (0 : Int32)), (.ref r_36)])) rfl rfl (hb hby d11_14)
  refine Go.by' st38 ?_
  have V38 : Arv Z h38 r_36 kk_36 (.object "java/lang/Object") (10 : Int32) [(.ref ob), .null, .null, .null, .null, .null, .null, .null, .null, .null] Value.null := Arv.set Ar37 q37 S37 P37 H37 G37 rfl W38 0 rfl (Nat.le_of_ble_eq_true rfl)
  have N38 := Fr.snoc X38 N36 g_r_36
  have O38 := O36.wr W38 g_r_36
  have KC38 : Keep h0 h38 [al] := KC36.wr W38 (Or.inr sz_r_36)
  show Go p.tables e below Pf (T38.setTop (mkF m 15 #[.val (.ref al), .val (.ref ob), .val (.ref r_36), .val (.int (0 : Int32))] []))
  refine Go.by' (fun t k => (XS.aloadN X38.here hx rfl (hb hby d11_15) rfl rfl (XS.iloadN X38.here hx rfl (hb hby d11_16) rfl (XS.iconst X38.here hx rfl (hb hby d11_17) (XS.iadd X38.here hx rfl (hb hby d11_18) rfl k))))) ?_
  show Go p.tables e below Pf (T38.setTop (mkF m 19 #[.val (.ref al), .val (.ref ob), .val (.ref r_36), .val (.int (0 : Int32))] [(.int ((0 : Int32) + (1 : Int32))), (.ref al)]))
  refine Go.castF (fun z' => mkF m 19 #[.val (.ref al), .val (.ref ob), .val (.ref r_36), .val (.int (0 : Int32))] [(.int z'), (.ref al)]) (by decide : ((0 : Int32) + (1 : Int32)) = (1 : Int32)) ?_
  show Go p.tables e below Pf (T38.setTop (mkF m 19 #[.val (.ref al), .val (.ref ob), .val (.ref r_36), .val (.int (0 : Int32))] [(.int (1 : Int32)), (.ref al)]))
  obtain ⟨T39, h39, X39, e39, W39, st39⟩ := putF X38 hx hZ hown (host := "") (Or.inl hw39) Via.refl e38 (f36_4.other W38 (Or.inl (Nat.ne_of_lt (Nat.lt_of_lt_of_le EX.lt f36_1)))) (f36_2.wr W38) (Or.inl hw40) hw1 (ty := .int) (by decide) rfl rfl (g := (mkF m 19 #[.val (.ref al), .val (.ref ob), .val (.ref r_36), .val (.int (0 : Int32))] [(.int (1 : Int32)), (.ref al)])) rfl rfl (hb hby d11_19)
  refine Go.by' st39 ?_
  have Fw39 : Fld Z h39 al "java/util/ArrayList" "size" "I" (Value.int (1 : Int32)) := (f36_4.other W38 (Or.inl (Nat.ne_of_lt (Nat.lt_of_lt_of_le EX.lt f36_1)))).same W39
  have N39 := Fr.snoc X39 N38 g_al
  have O39 := O38.wr W39 g_al
  have KC39 : Keep h0 h39 [al] := KC38.wr W39 (Or.inl (List.mem_of_getElem? (i := 0) rfl))
  show Go p.tables e below Pf (T39.setTop (mkF m 22 #[.val (.ref al), .val (.ref ob), .val (.ref r_36), .val (.int (0 : Int32))] []))
  have c40 := ((f36_2.wr W38).wr W39)
  have c41 := ((f36_3.other W38 (Or.inl (Nat.ne_of_lt (Nat.lt_of_lt_of_le EX.lt f36_1)))).other W39 (Or.inr (slot_ne (Or.inl hw25) (Or.inl hw40) (by decide) (t := (.array (.object "java/lang/Object"))) (t' := .int) (by decide) (by decide))))
  have c42 := ((f36_5.other W38 (Or.inl (Nat.ne_of_lt (Nat.lt_of_lt_of_le EX.lt f36_1)))).other W39 (Or.inr (slot_ne (Or.inl hw22) (Or.inl hw40) (by decide) (t := .int) (t' := .int) (by decide) (by decide))))
  rw [hPf]
  exact Go.retV' X39 hx hret hlk (hb hby d11_22) (by decide) (by decide) ⟨r_36, kk_36, rfl, N39, (by rw [e39]; exact KC39), (by rw [e39]; exact (V38.other W39 (Ne.symm (Nat.ne_of_lt (Nat.lt_of_lt_of_le EX.lt f36_1))))), sz_r_36, (by rw [e39]; exact c40), (by rw [e39]; exact c41), (by rw [e39]; exact Fw39), (by rw [e39]; exact c42), r36_0⟩
theorem d10_0 : decode jdk_38_method_25_code 0 = .ok (.aload_n 0, 1) := by decide +kernel
theorem d10_1 : decode jdk_38_method_25_code 1 = .ok (.dup, 1) := by decide +kernel
theorem d10_2 : decode jdk_38_method_25_code 2 = .ok (.getfield 63, 3) := by decide +kernel
theorem d10_5 : decode jdk_38_method_25_code 5 = .ok (.iconst 1, 1) := by decide +kernel
theorem d10_6 : decode jdk_38_method_25_code 6 = .ok (.iadd, 1) := by decide +kernel
theorem d10_7 : decode jdk_38_method_25_code 7 = .ok (.putfield 63, 3) := by decide +kernel
theorem d10_10 : decode jdk_38_method_25_code 10 = .ok (.aload_n 0, 1) := by decide +kernel
theorem d10_11 : decode jdk_38_method_25_code 11 = .ok (.aload_n 1, 1) := by decide +kernel
theorem d10_12 : decode jdk_38_method_25_code 12 = .ok (.aload_n 0, 1) := by decide +kernel
theorem d10_13 : decode jdk_38_method_25_code 13 = .ok (.getfield 9, 3) := by decide +kernel
theorem d10_16 : decode jdk_38_method_25_code 16 = .ok (.aload_n 0, 1) := by decide +kernel
theorem d10_17 : decode jdk_38_method_25_code 17 = .ok (.getfield 48, 3) := by decide +kernel
theorem d10_20 : decode jdk_38_method_25_code 20 = .ok (.invokevirtual 131, 3) := by decide +kernel
theorem pd_5 : parseMethodDescriptor "(Ljava/lang/Object;[Ljava/lang/Object;I)V" = some ⟨[(.object "java/lang/Object"), (.array (.object "java/lang/Object")), .int], none⟩ := by decide +kernel
theorem d10_23 : decode jdk_38_method_25_code 23 = .ok (.iconst 1, 1) := by decide +kernel
theorem d10_24 : decode jdk_38_method_25_code 24 = .ok (.ireturn, 1) := by decide +kernel
theorem pn_10 : plainName "java/util/ArrayList" = true := by first | (simp [plainName, overriddenIn]; done) | decide +kernel
set_option maxHeartbeats 4000000 in
theorem ef_rmA1_0 (m : MethodId) {al : Addr} {ob : Addr} : entryFrame m #[(.ref al), (.ref ob)] 2 = mkF m 0 #[.val (.ref al), .val (.ref ob)] [] := by first | (simp [entryFrame, mkF, argsToLocals, Value.category]; done) | rfl
def QrmA1_0 (Z : State) (wD : Addr) (kD : ClassId) (wC : Addr) (cC : Cell) (al : Addr) (ob : Addr) (mc : Int32) (h0 : Heap) (n0 : Nat) (v : Option Value) (h : Heap) (L : List Loc) : Prop := ∃ (r : Addr) (kk : ClassId), (v = some (.int (1 : Int32))) ∧ (Fr n0 L) ∧ (Keep h0 h [al]) ∧ (Arv Z h r kk (.object "java/lang/Object") (10 : Int32) [(.ref ob), .null, .null, .null, .null, .null, .null, .null, .null, .null] Value.null) ∧ (h0.size ≤ r) ∧ (Exa Z h al "java/util/ArrayList") ∧ (Fld Z h al "java/util/ArrayList" "elementData" "[Ljava/lang/Object;" (.ref r)) ∧ (Fld Z h al "java/util/ArrayList" "size" "I" (.int (1 : Int32))) ∧ (Fld Z h al "java/util/AbstractList" "modCount" "I" (.int (mc + (1 : Int32)))) ∧ (Ovr Z kk "java/lang/Object")
set_option maxRecDepth 65536 in
set_option maxHeartbeats 40000000 in
theorem rmA1_0 (l : Launch) (Z : State) (a0 : Array Value) (hw : ∀ d ∈ tables_1, d.before a0 Z = true) (ws : List Jvm.Cond) (wD : Addr) (kD : ClassId) (wC : Addr) (cC : Cell) (G : Gh Z wD kD wC cC) (al : Addr) (ob : Addr) (mc : Int32) (h0 : Heap) (n0 : Nat) (O0 : Old Z n0 h0) (EX : Exa Z h0 al "java/util/ArrayList") (FS : Fld Z h0 al "java/util/ArrayList" "size" "I" (.int (0 : Int32))) (FE : Fld Z h0 al "java/util/ArrayList" "elementData" "[Ljava/lang/Object;" (.ref wD)) (FM : Fld Z h0 al "java/util/AbstractList" "modCount" "I" (.int mc)) (g_al : n0 ≤ al) (EO : Exa Z h0 ob "java/lang/Integer") :
    MetFree l (⟨"java/util/ArrayList", "add", "(Ljava/lang/Object;)Z"⟩ : MethodName) (head1 (Jvm.Cond.code (⟨"java/util/ArrayList", "add", "(Ljava/lang/Object;)Z"⟩ : MethodName) jdk_38_method_25_code 2 (some .boolean) :: ws) ({ frames := 4, cells := 1, slots := 10, locals := 56 } : Room)) (fun aa' UU' => aa' = #[(.ref al), (.ref ob)] ∧ Z.Warmed39 UU'.vm ∧ UU'.heap = h0) (fun _ _ _ _ _ => True) (fun _ UU' oo' VV' => ∃ v' L', oo' = .returned v' ∧ QrmA1_0 Z wD kD wC cC al ob mc h0 n0 v' VV'.heap L' ∧ FrameEnd UU' oo' VV' L' ({ frames := 4, cells := 1, slots := 10, locals := 56 } : Room).cells ({ frames := 4, cells := 1, slots := 10, locals := 56 } : Room).slots) := by
  refine MetFree.of_bodySF (plainFor_of_name pn_10) hisR ?_
  intro p e s m args below meth c s₁ Bd hml0 hP hK
  obtain ⟨rfl, hZ, hh⟩ := hP
  have hx := Bd.exec
  have hby := Bd.bytes
  have hlk := Bd.notSynchronized
  have hml : c.maxLocals = 2 := hml0
  have hown : s.vm.findClass "java/util/ArrayList" = some m.cls := findClass_of_methodNamed Bd.named
  have hnm := (name_of_methodNamed Bd.named Bd.method).1
  have hret := Bd.returns
  have X0 : Stand p l e ({ frames := 4, cells := 1, slots := 10, locals := 56 } : Room) s m #[(.ref al), (.ref ob)] below meth c s₁ [] 0 0 := Stand.of_body Bd
  have e0 : s₁.heap = h0 := by rw [← hh, Bd.state]; rfl
  have N0 := Fr.nil n0
  have KC0 : Keep h0 h0 [al] := Keep.refl _ _
  refine Go.body ?_
  obtain ⟨Pf, hPf⟩ : ∃ P, P = Fin' s below ({ frames := 4, cells := 1, slots := 10, locals := 56 } : Room).cells ({ frames := 4, cells := 1, slots := 10, locals := 56 } : Room).slots (QrmA1_0 Z wD kD wC cC al ob mc h0 n0) := ⟨_, rfl⟩
  rw [← hPf]
  refine Go.cast (ef_rmA1_0 m) ?_
  have hw1 := (hw _ (List.mem_of_getElem? (i := 1) rfl))
  have hw2 := (hw _ (List.mem_of_getElem? (i := 2) rfl))
  have hw22 := (hw _ (List.mem_of_getElem? (i := 22) rfl))
  have hw24 := (hw _ (List.mem_of_getElem? (i := 24) rfl))
  have hw25 := (hw _ (List.mem_of_getElem? (i := 25) rfl))
  have hw39 := (hw _ (List.mem_of_getElem? (i := 39) rfl))
  have hw40 := (hw _ (List.mem_of_getElem? (i := 40) rfl))
  have hw70 := (hw _ (List.mem_of_getElem? (i := 70) rfl))
  have hw71 := (hw _ (List.mem_of_getElem? (i := 71) rfl))
  have hw72 := (hw _ (List.mem_of_getElem? (i := 72) rfl))
  have hw73 := (hw _ (List.mem_of_getElem? (i := 73) rfl))
  have hw74 := (hw _ (List.mem_of_getElem? (i := 74) rfl))
  have hw75 := (hw _ (List.mem_of_getElem? (i := 75) rfl))
  have hw76 := (hw _ (List.mem_of_getElem? (i := 76) rfl))
  show Go p.tables e below Pf (s₁.setTop (mkF m 0 #[.val (.ref al), .val (.ref ob)] []))
  refine Go.by' (fun t k => (XS.aloadN X0.here hx rfl (hb hby d10_0) rfl rfl (XS.dup X0.here hx rfl (hb hby d10_1) rfl rfl k))) ?_
  show Go p.tables e below Pf (s₁.setTop (mkF m 2 #[.val (.ref al), .val (.ref ob)] [(.ref al), (.ref al)]))
  obtain ⟨T43, X43, e43, st43⟩ := getF X0 hx hZ hown (host := "") (Or.inl hw70) (Via.of hw71) e0 FM (g := (mkF m 2 #[.val (.ref al), .val (.ref ob)] [(.ref al), (.ref al)])) rfl rfl (hb hby d10_2)
  refine Go.by' st43 ?_
  show Go p.tables e below Pf (T43.setTop (mkF m 5 #[.val (.ref al), .val (.ref ob)] [(.int mc), (.ref al)]))
  refine Go.by' (fun t k => (XS.iconst X43.here hx rfl (hb hby d10_5) (XS.iadd X43.here hx rfl (hb hby d10_6) rfl k))) ?_
  show Go p.tables e below Pf (T43.setTop (mkF m 7 #[.val (.ref al), .val (.ref ob)] [(.int (mc + (1 : Int32))), (.ref al)]))
  obtain ⟨T44, h44, X44, e44, W44, st44⟩ := putF X43 hx hZ hown (host := "") (Or.inl hw70) (Via.of hw71) e43 FM EX (Or.inl hw22) hw1 (ty := .int) (by decide) rfl rfl (g := (mkF m 7 #[.val (.ref al), .val (.ref ob)] [(.int (mc + (1 : Int32))), (.ref al)])) rfl rfl (hb hby d10_7)
  refine Go.by' st44 ?_
  have Fw44 : Fld Z h44 al "java/util/AbstractList" "modCount" "I" (Value.int (mc + (1 : Int32))) := FM.same W44
  have N44 := Fr.snoc X44 N0 g_al
  have O44 := O0.wr W44 g_al
  have KC44 : Keep h0 h44 [al] := KC0.wr W44 (Or.inl (List.mem_of_getElem? (i := 0) rfl))
  show Go p.tables e below Pf (T44.setTop (mkF m 10 #[.val (.ref al), .val (.ref ob)] []))
  refine Go.by' (fun t k => (XS.aloadN X44.here hx rfl (hb hby d10_10) rfl rfl (XS.aloadN X44.here hx rfl (hb hby d10_11) rfl rfl (XS.aloadN X44.here hx rfl (hb hby d10_12) rfl rfl k)))) ?_
  show Go p.tables e below Pf (T44.setTop (mkF m 13 #[.val (.ref al), .val (.ref ob)] [(.ref al), (.ref ob), (.ref al)]))
  obtain ⟨T45, X45, e45, st45⟩ := getF X44 hx hZ hown (host := "") (Or.inl hw24) Via.refl e44 (FE.other W44 (Or.inr (slot_ne (Or.inl hw25) (Or.inl hw22) (by decide) (t := (.array (.object "java/lang/Object"))) (t' := .int) (by decide) (by decide)))) (g := (mkF m 13 #[.val (.ref al), .val (.ref ob)] [(.ref al), (.ref ob), (.ref al)])) rfl rfl (hb hby d10_13)
  refine Go.by' st45 ?_
  show Go p.tables e below Pf (T45.setTop (mkF m 16 #[.val (.ref al), .val (.ref ob)] [(.ref wD), (.ref ob), (.ref al)]))
  refine Go.by' (fun t k => (XS.aloadN X45.here hx rfl (hb hby d10_16) rfl rfl k)) ?_
  show Go p.tables e below Pf (T45.setTop (mkF m 17 #[.val (.ref al), .val (.ref ob)] [(.ref al), (.ref wD), (.ref ob), (.ref al)]))
  obtain ⟨T46, X46, e46, st46⟩ := getF X45 hx hZ hown (host := "") (Or.inl hw39) Via.refl e45 (FS.other W44 (Or.inr (slot_ne (Or.inl hw40) (Or.inl hw22) (by decide) (t := .int) (t' := .int) (by decide) (by decide)))) (g := (mkF m 17 #[.val (.ref al), .val (.ref ob)] [(.ref al), (.ref wD), (.ref ob), (.ref al)])) rfl rfl (hb hby d10_17)
  refine Go.by' st46 ?_
  show Go p.tables e below Pf (T46.setTop (mkF m 20 #[.val (.ref al), .val (.ref ob)] [(.int (0 : Int32)), (.ref wD), (.ref ob), (.ref al)]))
  obtain ⟨cq47, q47, q47'⟩ := (EX.wr W44).cell
  obtain ⟨_, _, ⟨T47, L47, k47, n47⟩, -, X47, ⟨Lc47, hQ47, l47, y47, z47⟩, st47⟩ := X46.privateBack hx (y := (⟨"java/util/ArrayList", "add", "(Ljava/lang/Object;[Ljava/lang/Object;I)V"⟩ : MethodName)) hown (mvT hZ hw72) (mvT hZ hw73) (mvT hZ hw75) (Cond.privateMethod_at (mvP hZ hw74 (args := #[]))) (mvT hZ hw76) (by decide) (backOf (W := 0) (rmA3_0 l Z a0 hw [] wD kD wC cC G al ob ((mc + (1 : Int32))) h44 n0 O44 (EX.wr W44) (FS.other W44 (Or.inr (slot_ne (Or.inl hw40) (Or.inl hw22) (by decide) (t := .int) (t' := .int) (by decide) (by decide)))) (FE.other W44 (Or.inr (slot_ne (Or.inl hw25) (Or.inl hw22) (by decide) (t := (.array (.object "java/lang/Object"))) (t' := .int) (by decide) (by decide)))) Fw44 g_al (EO.wr W44)) hZ hw76 hw2 (by decide) (by decide)) (g := (mkF m 20 #[.val (.ref al), .val (.ref ob)] [(.int (0 : Int32)), (.ref wD), (.ref ob), (.ref al)])) rfl (by rw [hml]; rfl) (Steps.refl _) (a := al) (by rw [e46]; exact q47) q47' (argsL := [(.ref ob), (.ref wD), (.int (0 : Int32))]) (rest := []) (lenOf pd_5 rfl) rfl (by show 2 * 0 + _ ≤ _; exact Nat.le_of_eq rfl) (hb hby d10_20) (fun _ _ => ⟨rfl, e46, (by decide : 0 + 1 ≤ _), (by decide : 0 + 10 ≤ _)⟩)
  dsimp only [Pt.U, Pt.locs, Pt.cells, Pt.slots] at X47 l47 y47 z47 st47 hQ47
  subst l47 y47 z47
  obtain ⟨r_47, kk_47, rfl, N47q, K47, f47_0, f47_1, f47_2, f47_3, f47_4, f47_5, r47_0⟩ := hQ47
  have N47 := Fr.app N44 N47q
  refine Go.by' (fun t k => st47.trans k) ?_
  have g_r_47 : n0 ≤ r_47 := Nat.le_trans (own_le O44) f47_1
  have sz_r_47 : h0.size ≤ r_47 := Nat.le_trans KC44.1 f47_1
  have O47 := O44.keep K47 (allS g_al all0)
  have KC47 : Keep h0 T47.heap [al] := KC44.trans K47 (allS (Or.inl (List.mem_of_getElem? (i := 0) rfl)) all0)
  show Go p.tables e below Pf (T47.setTop (mkF m 23 #[.val (.ref al), .val (.ref ob)] []))
  refine Go.by' (fun t k => (XS.iconst X47.here hx rfl (hb hby d10_23) k)) ?_
  show Go p.tables e below Pf (T47.setTop (mkF m 24 #[.val (.ref al), .val (.ref ob)] [(.int (1 : Int32))]))
  rw [hPf]
  exact Go.retI' X47 hx hret hlk (by simp) rfl (hb hby d10_24) (by decide) (by decide) ⟨r_47, kk_47, rfl, N47, KC47, f47_0, sz_r_47, f47_2, f47_3, f47_4, f47_5, r47_0⟩
set_option maxHeartbeats 4000000 in
theorem ef_rmA3_1 (m : MethodId) {al : Addr} {ob : Addr} {ar : Addr} : entryFrame m #[(.ref al), (.ref ob), (.ref ar), (.int (1 : Int32))] 4 = mkF m 0 #[.val (.ref al), .val (.ref ob), .val (.ref ar), .val (.int (1 : Int32))] [] := by first | (simp [entryFrame, mkF, argsToLocals, Value.category]; done) | rfl
def QrmA3_1 (Z : State) (wD : Addr) (kD : ClassId) (wC : Addr) (cC : Cell) (al : Addr) (ob : Addr) (ar : Addr) (mc : Int32) (kk : ClassId) (el0 : Addr) (h0 : Heap) (n0 : Nat) (v : Option Value) (h : Heap) (L : List Loc) : Prop := (v = none) ∧ (Fr n0 L) ∧ (Keep h0 h [al, ar]) ∧ (Arv Z h ar kk (.object "java/lang/Object") (10 : Int32) [(.ref el0), (.ref ob), .null, .null, .null, .null, .null, .null, .null, .null] Value.null) ∧ (Exa Z h al "java/util/ArrayList") ∧ (Fld Z h al "java/util/ArrayList" "elementData" "[Ljava/lang/Object;" (.ref ar)) ∧ (Fld Z h al "java/util/ArrayList" "size" "I" (.int (2 : Int32))) ∧ (Fld Z h al "java/util/AbstractList" "modCount" "I" (.int mc))
set_option maxRecDepth 65536 in
set_option maxHeartbeats 40000000 in
theorem rmA3_1 (l : Launch) (Z : State) (a0 : Array Value) (hw : ∀ d ∈ tables_1, d.before a0 Z = true) (ws : List Jvm.Cond) (wD : Addr) (kD : ClassId) (wC : Addr) (cC : Cell) (G : Gh Z wD kD wC cC) (al : Addr) (ob : Addr) (ar : Addr) (mc : Int32) (kk : ClassId) (el0 : Addr) (h0 : Heap) (n0 : Nat) (O0 : Old Z n0 h0) (EX : Exa Z h0 al "java/util/ArrayList") (FS : Fld Z h0 al "java/util/ArrayList" "size" "I" (.int (1 : Int32))) (FE : Fld Z h0 al "java/util/ArrayList" "elementData" "[Ljava/lang/Object;" (.ref ar)) (FM : Fld Z h0 al "java/util/AbstractList" "modCount" "I" (.int mc)) (g_al : n0 ≤ al) (g_ar : n0 ≤ ar) (VA : Arv Z h0 ar kk (.object "java/lang/Object") (10 : Int32) [(.ref el0), .null, .null, .null, .null, .null, .null, .null, .null, .null] Value.null) (EO : Exa Z h0 ob "java/lang/Integer") (hne : al ≠ ar) (OV : Ovr Z kk "java/lang/Object") :
    MetFree l (⟨"java/util/ArrayList", "add", "(Ljava/lang/Object;[Ljava/lang/Object;I)V"⟩ : MethodName) (head1 (Jvm.Cond.code (⟨"java/util/ArrayList", "add", "(Ljava/lang/Object;[Ljava/lang/Object;I)V"⟩ : MethodName) jdk_38_method_24_code 4 none :: ws) ({ frames := 0, cells := 0, slots := 0, locals := 0 } : Room)) (fun aa' UU' => aa' = #[(.ref al), (.ref ob), (.ref ar), (.int (1 : Int32))] ∧ Z.Warmed39 UU'.vm ∧ UU'.heap = h0) (fun _ _ _ _ _ => True) (fun _ UU' oo' VV' => ∃ v' L', oo' = .returned v' ∧ QrmA3_1 Z wD kD wC cC al ob ar mc kk el0 h0 n0 v' VV'.heap L' ∧ FrameEnd UU' oo' VV' L' ({ frames := 0, cells := 0, slots := 0, locals := 0 } : Room).cells ({ frames := 0, cells := 0, slots := 0, locals := 0 } : Room).slots) := by
  refine MetFree.of_bodySF (plainFor_of_name pn_11) hisR ?_
  intro p e s m args below meth c s₁ Bd hml0 hP hK
  obtain ⟨rfl, hZ, hh⟩ := hP
  have hx := Bd.exec
  have hby := Bd.bytes
  have hlk := Bd.notSynchronized
  have hml : c.maxLocals = 4 := hml0
  have hown : s.vm.findClass "java/util/ArrayList" = some m.cls := findClass_of_methodNamed Bd.named
  have hnm := (name_of_methodNamed Bd.named Bd.method).1
  have hret := Bd.returns
  have X0 : Stand p l e ({ frames := 0, cells := 0, slots := 0, locals := 0 } : Room) s m #[(.ref al), (.ref ob), (.ref ar), (.int (1 : Int32))] below meth c s₁ [] 0 0 := Stand.of_body Bd
  have e0 : s₁.heap = h0 := by rw [← hh, Bd.state]; rfl
  have N0 := Fr.nil n0
  have KC0 : Keep h0 h0 [al, ar] := Keep.refl _ _
  refine Go.body ?_
  obtain ⟨Pf, hPf⟩ : ∃ P, P = Fin' s below ({ frames := 0, cells := 0, slots := 0, locals := 0 } : Room).cells ({ frames := 0, cells := 0, slots := 0, locals := 0 } : Room).slots (QrmA3_1 Z wD kD wC cC al ob ar mc kk el0 h0 n0) := ⟨_, rfl⟩
  rw [← hPf]
  refine Go.cast (ef_rmA3_1 m) ?_
  have hw1 := (hw _ (List.mem_of_getElem? (i := 1) rfl))
  have hw22 := (hw _ (List.mem_of_getElem? (i := 22) rfl))
  have hw25 := (hw _ (List.mem_of_getElem? (i := 25) rfl))
  have hw39 := (hw _ (List.mem_of_getElem? (i := 39) rfl))
  have hw40 := (hw _ (List.mem_of_getElem? (i := 40) rfl))
  have hw93 := (hw _ (List.mem_of_getElem? (i := 93) rfl))
  show Go p.tables e below Pf (s₁.setTop (mkF m 0 #[.val (.ref al), .val (.ref ob), .val (.ref ar), .val (.int (1 : Int32))] []))
  refine Go.by' (fun t k => (XS.iloadN X0.here hx rfl (hb hby d11_0) rfl (XS.aloadN X0.here hx rfl (hb hby d11_1) rfl rfl k))) ?_
  show Go p.tables e below Pf (s₁.setTop (mkF m 2 #[.val (.ref al), .val (.ref ob), .val (.ref ar), .val (.int (1 : Int32))] [(.ref ar), (.int (1 : Int32))]))
  obtain ⟨cl48, Ar48, -, S48, P48, -, -⟩ := (id VA)
  refine Go.by' (fun t k => (X0.arraylength hx (by rw [e0]; exact Ar48.1) (State.isArrayOf_alike hZ.alike Ar48.2.1) (g := (mkF m 2 #[.val (.ref al), .val (.ref ob), .val (.ref ar), .val (.int (1 : Int32))] [(.ref ar), (.int (1 : Int32))])) rfl rfl (hb hby d11_2) t k)) ?_
  rw [len_of S48 P48]
  show Go p.tables e below Pf (s₁.setTop (mkF m 3 #[.val (.ref al), .val (.ref ob), .val (.ref ar), .val (.int (1 : Int32))] [(.int (10 : Int32)), (.int (1 : Int32))]))
  refine Go.by' (fun t k => (XS.icmpYes X0.here hx rfl (pc0 := 3) (pc' := 11) rfl (hb hby d11_3) rfl (feq (by decide)).2 (by decide) (by decide) (XS.aloadN X0.here hx rfl (hb hby d11_11) rfl rfl (XS.iloadN X0.here hx rfl (hb hby d11_12) rfl (XS.aloadN X0.here hx rfl (hb hby d11_13) rfl rfl k))))) ?_
  show Go p.tables e below Pf (s₁.setTop (mkF m 14 #[.val (.ref al), .val (.ref ob), .val (.ref ar), .val (.int (1 : Int32))] [(.ref ob), (.int (1 : Int32)), (.ref ar)]))
  obtain ⟨cl49, Ar49, q49, S49, P49, H49, G49⟩ := (id VA)
  have hin49 : ¬ ((1 : Int32) < 0 ∨ cl49.slots.size ≤ ((1 : Int32)).toNatClampNeg) := inb_of S49 ⟨by decide, by decide⟩
  obtain ⟨T50, h50, X50, e50, W50, st50⟩ := stR X0 hx hZ e0 Ar49 (j := (1 : Int32)) hin49 rfl (Sto.ofV Ar49 q49 OV (Ins.of_exa EO hw93)) (g := (mkF m 14 #[.val (.ref al), .val (.ref ob), .val (.ref ar), .val (.int (1 : Int32))] [(.ref ob), (.int (1 : Int32)), (.ref ar)])) rfl rfl (hb hby d11_14)
  refine Go.by' st50 ?_
  have V50 : Arv Z h50 ar kk (.object "java/lang/Object") (10 : Int32) [(.ref el0), (.ref ob), .null, .null, .null, .null, .null, .null, .null, .null] Value.null := Arv.set Ar49 q49 S49 P49 H49 G49 rfl W50 1 rfl (Nat.le_of_ble_eq_true rfl)
  have N50 := Fr.snoc X50 N0 g_ar
  have O50 := O0.wr W50 g_ar
  have KC50 : Keep h0 h50 [al, ar] := KC0.wr W50 (Or.inl (List.mem_of_getElem? (i := 1) rfl))
  show Go p.tables e below Pf (T50.setTop (mkF m 15 #[.val (.ref al), .val (.ref ob), .val (.ref ar), .val (.int (1 : Int32))] []))
  refine Go.by' (fun t k => (XS.aloadN X50.here hx rfl (hb hby d11_15) rfl rfl (XS.iloadN X50.here hx rfl (hb hby d11_16) rfl (XS.iconst X50.here hx rfl (hb hby d11_17) (XS.iadd X50.here hx rfl (hb hby d11_18) rfl k))))) ?_
  show Go p.tables e below Pf (T50.setTop (mkF m 19 #[.val (.ref al), .val (.ref ob), .val (.ref ar), .val (.int (1 : Int32))] [(.int ((1 : Int32) + (1 : Int32))), (.ref al)]))
  refine Go.castF (fun z' => mkF m 19 #[.val (.ref al), .val (.ref ob), .val (.ref ar), .val (.int (1 : Int32))] [(.int z'), (.ref al)]) (by decide : ((1 : Int32) + (1 : Int32)) = (2 : Int32)) ?_
  show Go p.tables e below Pf (T50.setTop (mkF m 19 #[.val (.ref al), .val (.ref ob), .val (.ref ar), .val (.int (1 : Int32))] [(.int (2 : Int32)), (.ref al)]))
  obtain ⟨T51, h51, X51, e51, W51, st51⟩ := putF X50 hx hZ hown (host := "") (Or.inl hw39) Via.refl e50 (FS.other W50 (Or.inl hne)) (EX.wr W50) (Or.inl hw40) hw1 (ty := .int) (by decide) rfl rfl (g := (mkF m 19 #[.val (.ref al), .val (.ref ob), .val (.ref ar), .val (.int (1 : Int32))] [(.int (2 : Int32)), (.ref al)])) rfl rfl (hb hby d11_19)
  refine Go.by' st51 ?_
  have Fw51 : Fld Z h51 al "java/util/ArrayList" "size" "I" (Value.int (2 : Int32)) := (FS.other W50 (Or.inl hne)).same W51
  have N51 := Fr.snoc X51 N50 g_al
  have O51 := O50.wr W51 g_al
  have KC51 : Keep h0 h51 [al, ar] := KC50.wr W51 (Or.inl (List.mem_of_getElem? (i := 0) rfl))
  show Go p.tables e below Pf (T51.setTop (mkF m 22 #[.val (.ref al), .val (.ref ob), .val (.ref ar), .val (.int (1 : Int32))] []))
  have c52 := ((EX.wr W50).wr W51)
  have c53 := ((FE.other W50 (Or.inl hne)).other W51 (Or.inr (slot_ne (Or.inl hw25) (Or.inl hw40) (by decide) (t := (.array (.object "java/lang/Object"))) (t' := .int) (by decide) (by decide))))
  have c54 := ((FM.other W50 (Or.inl hne)).other W51 (Or.inr (slot_ne (Or.inl hw22) (Or.inl hw40) (by decide) (t := .int) (t' := .int) (by decide) (by decide))))
  rw [hPf]
  exact Go.retV' X51 hx hret hlk (hb hby d11_22) (by decide) (by decide) ⟨rfl, N51, (by rw [e51]; exact KC51), (by rw [e51]; exact (V50.other W51 (Ne.symm hne))), (by rw [e51]; exact c52), (by rw [e51]; exact c53), (by rw [e51]; exact Fw51), (by rw [e51]; exact c54)⟩
set_option maxHeartbeats 4000000 in
theorem ef_rmA1_1 (m : MethodId) {al : Addr} {ob : Addr} : entryFrame m #[(.ref al), (.ref ob)] 2 = mkF m 0 #[.val (.ref al), .val (.ref ob)] [] := by first | (simp [entryFrame, mkF, argsToLocals, Value.category]; done) | rfl
def QrmA1_1 (Z : State) (wD : Addr) (kD : ClassId) (wC : Addr) (cC : Cell) (al : Addr) (ob : Addr) (mc : Int32) (ar : Addr) (kk : ClassId) (el0 : Addr) (h0 : Heap) (n0 : Nat) (v : Option Value) (h : Heap) (L : List Loc) : Prop := (v = some (.int (1 : Int32))) ∧ (Fr n0 L) ∧ (Keep h0 h [al, ar]) ∧ (Arv Z h ar kk (.object "java/lang/Object") (10 : Int32) [(.ref el0), (.ref ob), .null, .null, .null, .null, .null, .null, .null, .null] Value.null) ∧ (Exa Z h al "java/util/ArrayList") ∧ (Fld Z h al "java/util/ArrayList" "elementData" "[Ljava/lang/Object;" (.ref ar)) ∧ (Fld Z h al "java/util/ArrayList" "size" "I" (.int (2 : Int32))) ∧ (Fld Z h al "java/util/AbstractList" "modCount" "I" (.int (mc + (1 : Int32))))
set_option maxRecDepth 65536 in
set_option maxHeartbeats 40000000 in
theorem rmA1_1 (l : Launch) (Z : State) (a0 : Array Value) (hw : ∀ d ∈ tables_1, d.before a0 Z = true) (ws : List Jvm.Cond) (wD : Addr) (kD : ClassId) (wC : Addr) (cC : Cell) (G : Gh Z wD kD wC cC) (al : Addr) (ob : Addr) (mc : Int32) (ar : Addr) (kk : ClassId) (el0 : Addr) (h0 : Heap) (n0 : Nat) (O0 : Old Z n0 h0) (EX : Exa Z h0 al "java/util/ArrayList") (FS : Fld Z h0 al "java/util/ArrayList" "size" "I" (.int (1 : Int32))) (FE : Fld Z h0 al "java/util/ArrayList" "elementData" "[Ljava/lang/Object;" (.ref ar)) (FM : Fld Z h0 al "java/util/AbstractList" "modCount" "I" (.int mc)) (g_al : n0 ≤ al) (g_ar : n0 ≤ ar) (VA : Arv Z h0 ar kk (.object "java/lang/Object") (10 : Int32) [(.ref el0), .null, .null, .null, .null, .null, .null, .null, .null, .null] Value.null) (EO : Exa Z h0 ob "java/lang/Integer") (hne : al ≠ ar) (OV : Ovr Z kk "java/lang/Object") :
    MetFree l (⟨"java/util/ArrayList", "add", "(Ljava/lang/Object;)Z"⟩ : MethodName) (head1 (Jvm.Cond.code (⟨"java/util/ArrayList", "add", "(Ljava/lang/Object;)Z"⟩ : MethodName) jdk_38_method_25_code 2 (some .boolean) :: ws) ({ frames := 1, cells := 0, slots := 0, locals := 15 } : Room)) (fun aa' UU' => aa' = #[(.ref al), (.ref ob)] ∧ Z.Warmed39 UU'.vm ∧ UU'.heap = h0) (fun _ _ _ _ _ => True) (fun _ UU' oo' VV' => ∃ v' L', oo' = .returned v' ∧ QrmA1_1 Z wD kD wC cC al ob mc ar kk el0 h0 n0 v' VV'.heap L' ∧ FrameEnd UU' oo' VV' L' ({ frames := 1, cells := 0, slots := 0, locals := 15 } : Room).cells ({ frames := 1, cells := 0, slots := 0, locals := 15 } : Room).slots) := by
  refine MetFree.of_bodySF (plainFor_of_name pn_10) hisR ?_
  intro p e s m args below meth c s₁ Bd hml0 hP hK
  obtain ⟨rfl, hZ, hh⟩ := hP
  have hx := Bd.exec
  have hby := Bd.bytes
  have hlk := Bd.notSynchronized
  have hml : c.maxLocals = 2 := hml0
  have hown : s.vm.findClass "java/util/ArrayList" = some m.cls := findClass_of_methodNamed Bd.named
  have hnm := (name_of_methodNamed Bd.named Bd.method).1
  have hret := Bd.returns
  have X0 : Stand p l e ({ frames := 1, cells := 0, slots := 0, locals := 15 } : Room) s m #[(.ref al), (.ref ob)] below meth c s₁ [] 0 0 := Stand.of_body Bd
  have e0 : s₁.heap = h0 := by rw [← hh, Bd.state]; rfl
  have N0 := Fr.nil n0
  have KC0 : Keep h0 h0 [al, ar] := Keep.refl _ _
  refine Go.body ?_
  obtain ⟨Pf, hPf⟩ : ∃ P, P = Fin' s below ({ frames := 1, cells := 0, slots := 0, locals := 15 } : Room).cells ({ frames := 1, cells := 0, slots := 0, locals := 15 } : Room).slots (QrmA1_1 Z wD kD wC cC al ob mc ar kk el0 h0 n0) := ⟨_, rfl⟩
  rw [← hPf]
  refine Go.cast (ef_rmA1_1 m) ?_
  have hw1 := (hw _ (List.mem_of_getElem? (i := 1) rfl))
  have hw2 := (hw _ (List.mem_of_getElem? (i := 2) rfl))
  have hw22 := (hw _ (List.mem_of_getElem? (i := 22) rfl))
  have hw24 := (hw _ (List.mem_of_getElem? (i := 24) rfl))
  have hw25 := (hw _ (List.mem_of_getElem? (i := 25) rfl))
  have hw39 := (hw _ (List.mem_of_getElem? (i := 39) rfl))
  have hw40 := (hw _ (List.mem_of_getElem? (i := 40) rfl))
  have hw70 := (hw _ (List.mem_of_getElem? (i := 70) rfl))
  have hw71 := (hw _ (List.mem_of_getElem? (i := 71) rfl))
  have hw72 := (hw _ (List.mem_of_getElem? (i := 72) rfl))
  have hw73 := (hw _ (List.mem_of_getElem? (i := 73) rfl))
  have hw74 := (hw _ (List.mem_of_getElem? (i := 74) rfl))
  have hw75 := (hw _ (List.mem_of_getElem? (i := 75) rfl))
  have hw76 := (hw _ (List.mem_of_getElem? (i := 76) rfl))
  show Go p.tables e below Pf (s₁.setTop (mkF m 0 #[.val (.ref al), .val (.ref ob)] []))
  refine Go.by' (fun t k => (XS.aloadN X0.here hx rfl (hb hby d10_0) rfl rfl (XS.dup X0.here hx rfl (hb hby d10_1) rfl rfl k))) ?_
  show Go p.tables e below Pf (s₁.setTop (mkF m 2 #[.val (.ref al), .val (.ref ob)] [(.ref al), (.ref al)]))
  obtain ⟨T55, X55, e55, st55⟩ := getF X0 hx hZ hown (host := "") (Or.inl hw70) (Via.of hw71) e0 FM (g := (mkF m 2 #[.val (.ref al), .val (.ref ob)] [(.ref al), (.ref al)])) rfl rfl (hb hby d10_2)
  refine Go.by' st55 ?_
  show Go p.tables e below Pf (T55.setTop (mkF m 5 #[.val (.ref al), .val (.ref ob)] [(.int mc), (.ref al)]))
  refine Go.by' (fun t k => (XS.iconst X55.here hx rfl (hb hby d10_5) (XS.iadd X55.here hx rfl (hb hby d10_6) rfl k))) ?_
  show Go p.tables e below Pf (T55.setTop (mkF m 7 #[.val (.ref al), .val (.ref ob)] [(.int (mc + (1 : Int32))), (.ref al)]))
  obtain ⟨T56, h56, X56, e56, W56, st56⟩ := putF X55 hx hZ hown (host := "") (Or.inl hw70) (Via.of hw71) e55 FM EX (Or.inl hw22) hw1 (ty := .int) (by decide) rfl rfl (g := (mkF m 7 #[.val (.ref al), .val (.ref ob)] [(.int (mc + (1 : Int32))), (.ref al)])) rfl rfl (hb hby d10_7)
  refine Go.by' st56 ?_
  have Fw56 : Fld Z h56 al "java/util/AbstractList" "modCount" "I" (Value.int (mc + (1 : Int32))) := FM.same W56
  have N56 := Fr.snoc X56 N0 g_al
  have O56 := O0.wr W56 g_al
  have KC56 : Keep h0 h56 [al, ar] := KC0.wr W56 (Or.inl (List.mem_of_getElem? (i := 0) rfl))
  show Go p.tables e below Pf (T56.setTop (mkF m 10 #[.val (.ref al), .val (.ref ob)] []))
  refine Go.by' (fun t k => (XS.aloadN X56.here hx rfl (hb hby d10_10) rfl rfl (XS.aloadN X56.here hx rfl (hb hby d10_11) rfl rfl (XS.aloadN X56.here hx rfl (hb hby d10_12) rfl rfl k)))) ?_
  show Go p.tables e below Pf (T56.setTop (mkF m 13 #[.val (.ref al), .val (.ref ob)] [(.ref al), (.ref ob), (.ref al)]))
  obtain ⟨T57, X57, e57, st57⟩ := getF X56 hx hZ hown (host := "") (Or.inl hw24) Via.refl e56 (FE.other W56 (Or.inr (slot_ne (Or.inl hw25) (Or.inl hw22) (by decide) (t := (.array (.object "java/lang/Object"))) (t' := .int) (by decide) (by decide)))) (g := (mkF m 13 #[.val (.ref al), .val (.ref ob)] [(.ref al), (.ref ob), (.ref al)])) rfl rfl (hb hby d10_13)
  refine Go.by' st57 ?_
  show Go p.tables e below Pf (T57.setTop (mkF m 16 #[.val (.ref al), .val (.ref ob)] [(.ref ar), (.ref ob), (.ref al)]))
  refine Go.by' (fun t k => (XS.aloadN X57.here hx rfl (hb hby d10_16) rfl rfl k)) ?_
  show Go p.tables e below Pf (T57.setTop (mkF m 17 #[.val (.ref al), .val (.ref ob)] [(.ref al), (.ref ar), (.ref ob), (.ref al)]))
  obtain ⟨T58, X58, e58, st58⟩ := getF X57 hx hZ hown (host := "") (Or.inl hw39) Via.refl e57 (FS.other W56 (Or.inr (slot_ne (Or.inl hw40) (Or.inl hw22) (by decide) (t := .int) (t' := .int) (by decide) (by decide)))) (g := (mkF m 17 #[.val (.ref al), .val (.ref ob)] [(.ref al), (.ref ar), (.ref ob), (.ref al)])) rfl rfl (hb hby d10_17)
  refine Go.by' st58 ?_
  show Go p.tables e below Pf (T58.setTop (mkF m 20 #[.val (.ref al), .val (.ref ob)] [(.int (1 : Int32)), (.ref ar), (.ref ob), (.ref al)]))
  obtain ⟨cq59, q59, q59'⟩ := (EX.wr W56).cell
  obtain ⟨_, _, ⟨T59, L59, k59, n59⟩, -, X59, ⟨Lc59, hQ59, l59, y59, z59⟩, st59⟩ := X58.privateBack hx (y := (⟨"java/util/ArrayList", "add", "(Ljava/lang/Object;[Ljava/lang/Object;I)V"⟩ : MethodName)) hown (mvT hZ hw72) (mvT hZ hw73) (mvT hZ hw75) (Cond.privateMethod_at (mvP hZ hw74 (args := #[]))) (mvT hZ hw76) (by decide) (backOf (W := 0) (rmA3_1 l Z a0 hw [] wD kD wC cC G al ob ar ((mc + (1 : Int32))) kk el0 h56 n0 O56 (EX.wr W56) (FS.other W56 (Or.inr (slot_ne (Or.inl hw40) (Or.inl hw22) (by decide) (t := .int) (t' := .int) (by decide) (by decide)))) (FE.other W56 (Or.inr (slot_ne (Or.inl hw25) (Or.inl hw22) (by decide) (t := (.array (.object "java/lang/Object"))) (t' := .int) (by decide) (by decide)))) Fw56 g_al g_ar (VA.other W56 (Ne.symm hne)) (EO.wr W56) hne OV) hZ hw76 hw2 (by decide) (by decide)) (g := (mkF m 20 #[.val (.ref al), .val (.ref ob)] [(.int (1 : Int32)), (.ref ar), (.ref ob), (.ref al)])) rfl (by rw [hml]; rfl) (Steps.refl _) (a := al) (by rw [e58]; exact q59) q59' (argsL := [(.ref ob), (.ref ar), (.int (1 : Int32))]) (rest := []) (lenOf pd_5 rfl) rfl (by show 2 * 0 + _ ≤ _; exact Nat.le_of_eq rfl) (hb hby d10_20) (fun _ _ => ⟨rfl, e58, (by decide : 0 + 0 ≤ _), (by decide : 0 + 0 ≤ _)⟩)
  dsimp only [Pt.U, Pt.locs, Pt.cells, Pt.slots] at X59 l59 y59 z59 st59 hQ59
  subst l59 y59 z59
  obtain ⟨rfl, N59q, K59, f59_0, f59_1, f59_2, f59_3, f59_4⟩ := hQ59
  have N59 := Fr.app N56 N59q
  refine Go.by' (fun t k => st59.trans k) ?_
  have O59 := O56.keep K59 (allS g_al (allS g_ar all0))
  have KC59 : Keep h0 T59.heap [al, ar] := KC56.trans K59 (allS (Or.inl (List.mem_of_getElem? (i := 0) rfl)) (allS (Or.inl (List.mem_of_getElem? (i := 1) rfl)) all0))
  show Go p.tables e below Pf (T59.setTop (mkF m 23 #[.val (.ref al), .val (.ref ob)] []))
  refine Go.by' (fun t k => (XS.iconst X59.here hx rfl (hb hby d10_23) k)) ?_
  show Go p.tables e below Pf (T59.setTop (mkF m 24 #[.val (.ref al), .val (.ref ob)] [(.int (1 : Int32))]))
  rw [hPf]
  exact Go.retI' X59 hx hret hlk (by simp) rfl (hb hby d10_24) (by decide) (by decide) ⟨rfl, N59, KC59, f59_0, f59_1, f59_2, f59_3, f59_4⟩
set_option maxHeartbeats 4000000 in
theorem ef_rmA3_2 (m : MethodId) {al : Addr} {ob : Addr} {ar : Addr} : entryFrame m #[(.ref al), (.ref ob), (.ref ar), (.int (2 : Int32))] 4 = mkF m 0 #[.val (.ref al), .val (.ref ob), .val (.ref ar), .val (.int (2 : Int32))] [] := by first | (simp [entryFrame, mkF, argsToLocals, Value.category]; done) | rfl
def QrmA3_2 (Z : State) (wD : Addr) (kD : ClassId) (wC : Addr) (cC : Cell) (al : Addr) (ob : Addr) (ar : Addr) (mc : Int32) (kk : ClassId) (el0 : Addr) (el1 : Addr) (h0 : Heap) (n0 : Nat) (v : Option Value) (h : Heap) (L : List Loc) : Prop := (v = none) ∧ (Fr n0 L) ∧ (Keep h0 h [al, ar]) ∧ (Arv Z h ar kk (.object "java/lang/Object") (10 : Int32) [(.ref el0), (.ref el1), (.ref ob), .null, .null, .null, .null, .null, .null, .null] Value.null) ∧ (Exa Z h al "java/util/ArrayList") ∧ (Fld Z h al "java/util/ArrayList" "elementData" "[Ljava/lang/Object;" (.ref ar)) ∧ (Fld Z h al "java/util/ArrayList" "size" "I" (.int (3 : Int32))) ∧ (Fld Z h al "java/util/AbstractList" "modCount" "I" (.int mc))
set_option maxRecDepth 65536 in
set_option maxHeartbeats 40000000 in
theorem rmA3_2 (l : Launch) (Z : State) (a0 : Array Value) (hw : ∀ d ∈ tables_1, d.before a0 Z = true) (ws : List Jvm.Cond) (wD : Addr) (kD : ClassId) (wC : Addr) (cC : Cell) (G : Gh Z wD kD wC cC) (al : Addr) (ob : Addr) (ar : Addr) (mc : Int32) (kk : ClassId) (el0 : Addr) (el1 : Addr) (h0 : Heap) (n0 : Nat) (O0 : Old Z n0 h0) (EX : Exa Z h0 al "java/util/ArrayList") (FS : Fld Z h0 al "java/util/ArrayList" "size" "I" (.int (2 : Int32))) (FE : Fld Z h0 al "java/util/ArrayList" "elementData" "[Ljava/lang/Object;" (.ref ar)) (FM : Fld Z h0 al "java/util/AbstractList" "modCount" "I" (.int mc)) (g_al : n0 ≤ al) (g_ar : n0 ≤ ar) (VA : Arv Z h0 ar kk (.object "java/lang/Object") (10 : Int32) [(.ref el0), (.ref el1), .null, .null, .null, .null, .null, .null, .null, .null] Value.null) (EO : Exa Z h0 ob "java/lang/Integer") (hne : al ≠ ar) (OV : Ovr Z kk "java/lang/Object") :
    MetFree l (⟨"java/util/ArrayList", "add", "(Ljava/lang/Object;[Ljava/lang/Object;I)V"⟩ : MethodName) (head1 (Jvm.Cond.code (⟨"java/util/ArrayList", "add", "(Ljava/lang/Object;[Ljava/lang/Object;I)V"⟩ : MethodName) jdk_38_method_24_code 4 none :: ws) ({ frames := 0, cells := 0, slots := 0, locals := 0 } : Room)) (fun aa' UU' => aa' = #[(.ref al), (.ref ob), (.ref ar), (.int (2 : Int32))] ∧ Z.Warmed39 UU'.vm ∧ UU'.heap = h0) (fun _ _ _ _ _ => True) (fun _ UU' oo' VV' => ∃ v' L', oo' = .returned v' ∧ QrmA3_2 Z wD kD wC cC al ob ar mc kk el0 el1 h0 n0 v' VV'.heap L' ∧ FrameEnd UU' oo' VV' L' ({ frames := 0, cells := 0, slots := 0, locals := 0 } : Room).cells ({ frames := 0, cells := 0, slots := 0, locals := 0 } : Room).slots) := by
  refine MetFree.of_bodySF (plainFor_of_name pn_11) hisR ?_
  intro p e s m args below meth c s₁ Bd hml0 hP hK
  obtain ⟨rfl, hZ, hh⟩ := hP
  have hx := Bd.exec
  have hby := Bd.bytes
  have hlk := Bd.notSynchronized
  have hml : c.maxLocals = 4 := hml0
  have hown : s.vm.findClass "java/util/ArrayList" = some m.cls := findClass_of_methodNamed Bd.named
  have hnm := (name_of_methodNamed Bd.named Bd.method).1
  have hret := Bd.returns
  have X0 : Stand p l e ({ frames := 0, cells := 0, slots := 0, locals := 0 } : Room) s m #[(.ref al), (.ref ob), (.ref ar), (.int (2 : Int32))] below meth c s₁ [] 0 0 := Stand.of_body Bd
  have e0 : s₁.heap = h0 := by rw [← hh, Bd.state]; rfl
  have N0 := Fr.nil n0
  have KC0 : Keep h0 h0 [al, ar] := Keep.refl _ _
  refine Go.body ?_
  obtain ⟨Pf, hPf⟩ : ∃ P, P = Fin' s below ({ frames := 0, cells := 0, slots := 0, locals := 0 } : Room).cells ({ frames := 0, cells := 0, slots := 0, locals := 0 } : Room).slots (QrmA3_2 Z wD kD wC cC al ob ar mc kk el0 el1 h0 n0) := ⟨_, rfl⟩
  rw [← hPf]
  refine Go.cast (ef_rmA3_2 m) ?_
  have hw1 := (hw _ (List.mem_of_getElem? (i := 1) rfl))
  have hw22 := (hw _ (List.mem_of_getElem? (i := 22) rfl))
  have hw25 := (hw _ (List.mem_of_getElem? (i := 25) rfl))
  have hw39 := (hw _ (List.mem_of_getElem? (i := 39) rfl))
  have hw40 := (hw _ (List.mem_of_getElem? (i := 40) rfl))
  have hw93 := (hw _ (List.mem_of_getElem? (i := 93) rfl))
  show Go p.tables e below Pf (s₁.setTop (mkF m 0 #[.val (.ref al), .val (.ref ob), .val (.ref ar), .val (.int (2 : Int32))] []))
  refine Go.by' (fun t k => (XS.iloadN X0.here hx rfl (hb hby d11_0) rfl (XS.aloadN X0.here hx rfl (hb hby d11_1) rfl rfl k))) ?_
  show Go p.tables e below Pf (s₁.setTop (mkF m 2 #[.val (.ref al), .val (.ref ob), .val (.ref ar), .val (.int (2 : Int32))] [(.ref ar), (.int (2 : Int32))]))
  obtain ⟨cl60, Ar60, -, S60, P60, -, -⟩ := (id VA)
  refine Go.by' (fun t k => (X0.arraylength hx (by rw [e0]; exact Ar60.1) (State.isArrayOf_alike hZ.alike Ar60.2.1) (g := (mkF m 2 #[.val (.ref al), .val (.ref ob), .val (.ref ar), .val (.int (2 : Int32))] [(.ref ar), (.int (2 : Int32))])) rfl rfl (hb hby d11_2) t k)) ?_
  rw [len_of S60 P60]
  show Go p.tables e below Pf (s₁.setTop (mkF m 3 #[.val (.ref al), .val (.ref ob), .val (.ref ar), .val (.int (2 : Int32))] [(.int (10 : Int32)), (.int (2 : Int32))]))
  refine Go.by' (fun t k => (XS.icmpYes X0.here hx rfl (pc0 := 3) (pc' := 11) rfl (hb hby d11_3) rfl (feq (by decide)).2 (by decide) (by decide) (XS.aloadN X0.here hx rfl (hb hby d11_11) rfl rfl (XS.iloadN X0.here hx rfl (hb hby d11_12) rfl (XS.aloadN X0.here hx rfl (hb hby d11_13) rfl rfl k))))) ?_
  show Go p.tables e below Pf (s₁.setTop (mkF m 14 #[.val (.ref al), .val (.ref ob), .val (.ref ar), .val (.int (2 : Int32))] [(.ref ob), (.int (2 : Int32)), (.ref ar)]))
  obtain ⟨cl61, Ar61, q61, S61, P61, H61, G61⟩ := (id VA)
  have hin61 : ¬ ((2 : Int32) < 0 ∨ cl61.slots.size ≤ ((2 : Int32)).toNatClampNeg) := inb_of S61 ⟨by decide, by decide⟩
  obtain ⟨T62, h62, X62, e62, W62, st62⟩ := stR X0 hx hZ e0 Ar61 (j := (2 : Int32)) hin61 rfl (Sto.ofV Ar61 q61 OV (Ins.of_exa EO hw93)) (g := (mkF m 14 #[.val (.ref al), .val (.ref ob), .val (.ref ar), .val (.int (2 : Int32))] [(.ref ob), (.int (2 : Int32)), (.ref ar)])) rfl rfl (hb hby d11_14)
  refine Go.by' st62 ?_
  have V62 : Arv Z h62 ar kk (.object "java/lang/Object") (10 : Int32) [(.ref el0), (.ref el1), (.ref ob), .null, .null, .null, .null, .null, .null, .null] Value.null := Arv.set Ar61 q61 S61 P61 H61 G61 rfl W62 2 rfl (Nat.le_of_ble_eq_true rfl)
  have N62 := Fr.snoc X62 N0 g_ar
  have O62 := O0.wr W62 g_ar
  have KC62 : Keep h0 h62 [al, ar] := KC0.wr W62 (Or.inl (List.mem_of_getElem? (i := 1) rfl))
  show Go p.tables e below Pf (T62.setTop (mkF m 15 #[.val (.ref al), .val (.ref ob), .val (.ref ar), .val (.int (2 : Int32))] []))
  refine Go.by' (fun t k => (XS.aloadN X62.here hx rfl (hb hby d11_15) rfl rfl (XS.iloadN X62.here hx rfl (hb hby d11_16) rfl (XS.iconst X62.here hx rfl (hb hby d11_17) (XS.iadd X62.here hx rfl (hb hby d11_18) rfl k))))) ?_
  show Go p.tables e below Pf (T62.setTop (mkF m 19 #[.val (.ref al), .val (.ref ob), .val (.ref ar), .val (.int (2 : Int32))] [(.int ((2 : Int32) + (1 : Int32))), (.ref al)]))
  refine Go.castF (fun z' => mkF m 19 #[.val (.ref al), .val (.ref ob), .val (.ref ar), .val (.int (2 : Int32))] [(.int z'), (.ref al)]) (by decide : ((2 : Int32) + (1 : Int32)) = (3 : Int32)) ?_
  show Go p.tables e below Pf (T62.setTop (mkF m 19 #[.val (.ref al), .val (.ref ob), .val (.ref ar), .val (.int (2 : Int32))] [(.int (3 : Int32)), (.ref al)]))
  obtain ⟨T63, h63, X63, e63, W63, st63⟩ := putF X62 hx hZ hown (host := "") (Or.inl hw39) Via.refl e62 (FS.other W62 (Or.inl hne)) (EX.wr W62) (Or.inl hw40) hw1 (ty := .int) (by decide) rfl rfl (g := (mkF m 19 #[.val (.ref al), .val (.ref ob), .val (.ref ar), .val (.int (2 : Int32))] [(.int (3 : Int32)), (.ref al)])) rfl rfl (hb hby d11_19)
  refine Go.by' st63 ?_
  have Fw63 : Fld Z h63 al "java/util/ArrayList" "size" "I" (Value.int (3 : Int32)) := (FS.other W62 (Or.inl hne)).same W63
  have N63 := Fr.snoc X63 N62 g_al
  have O63 := O62.wr W63 g_al
  have KC63 : Keep h0 h63 [al, ar] := KC62.wr W63 (Or.inl (List.mem_of_getElem? (i := 0) rfl))
  show Go p.tables e below Pf (T63.setTop (mkF m 22 #[.val (.ref al), .val (.ref ob), .val (.ref ar), .val (.int (2 : Int32))] []))
  have c64 := ((EX.wr W62).wr W63)
  have c65 := ((FE.other W62 (Or.inl hne)).other W63 (Or.inr (slot_ne (Or.inl hw25) (Or.inl hw40) (by decide) (t := (.array (.object "java/lang/Object"))) (t' := .int) (by decide) (by decide))))
  have c66 := ((FM.other W62 (Or.inl hne)).other W63 (Or.inr (slot_ne (Or.inl hw22) (Or.inl hw40) (by decide) (t := .int) (t' := .int) (by decide) (by decide))))
  rw [hPf]
  exact Go.retV' X63 hx hret hlk (hb hby d11_22) (by decide) (by decide) ⟨rfl, N63, (by rw [e63]; exact KC63), (by rw [e63]; exact (V62.other W63 (Ne.symm hne))), (by rw [e63]; exact c64), (by rw [e63]; exact c65), (by rw [e63]; exact Fw63), (by rw [e63]; exact c66)⟩
set_option maxHeartbeats 4000000 in
theorem ef_rmA1_2 (m : MethodId) {al : Addr} {ob : Addr} : entryFrame m #[(.ref al), (.ref ob)] 2 = mkF m 0 #[.val (.ref al), .val (.ref ob)] [] := by first | (simp [entryFrame, mkF, argsToLocals, Value.category]; done) | rfl
def QrmA1_2 (Z : State) (wD : Addr) (kD : ClassId) (wC : Addr) (cC : Cell) (al : Addr) (ob : Addr) (mc : Int32) (ar : Addr) (kk : ClassId) (el0 : Addr) (el1 : Addr) (h0 : Heap) (n0 : Nat) (v : Option Value) (h : Heap) (L : List Loc) : Prop := (v = some (.int (1 : Int32))) ∧ (Fr n0 L) ∧ (Keep h0 h [al, ar]) ∧ (Arv Z h ar kk (.object "java/lang/Object") (10 : Int32) [(.ref el0), (.ref el1), (.ref ob), .null, .null, .null, .null, .null, .null, .null] Value.null) ∧ (Exa Z h al "java/util/ArrayList") ∧ (Fld Z h al "java/util/ArrayList" "elementData" "[Ljava/lang/Object;" (.ref ar)) ∧ (Fld Z h al "java/util/ArrayList" "size" "I" (.int (3 : Int32))) ∧ (Fld Z h al "java/util/AbstractList" "modCount" "I" (.int (mc + (1 : Int32))))
set_option maxRecDepth 65536 in
set_option maxHeartbeats 40000000 in
theorem rmA1_2 (l : Launch) (Z : State) (a0 : Array Value) (hw : ∀ d ∈ tables_1, d.before a0 Z = true) (ws : List Jvm.Cond) (wD : Addr) (kD : ClassId) (wC : Addr) (cC : Cell) (G : Gh Z wD kD wC cC) (al : Addr) (ob : Addr) (mc : Int32) (ar : Addr) (kk : ClassId) (el0 : Addr) (el1 : Addr) (h0 : Heap) (n0 : Nat) (O0 : Old Z n0 h0) (EX : Exa Z h0 al "java/util/ArrayList") (FS : Fld Z h0 al "java/util/ArrayList" "size" "I" (.int (2 : Int32))) (FE : Fld Z h0 al "java/util/ArrayList" "elementData" "[Ljava/lang/Object;" (.ref ar)) (FM : Fld Z h0 al "java/util/AbstractList" "modCount" "I" (.int mc)) (g_al : n0 ≤ al) (g_ar : n0 ≤ ar) (VA : Arv Z h0 ar kk (.object "java/lang/Object") (10 : Int32) [(.ref el0), (.ref el1), .null, .null, .null, .null, .null, .null, .null, .null] Value.null) (EO : Exa Z h0 ob "java/lang/Integer") (hne : al ≠ ar) (OV : Ovr Z kk "java/lang/Object") :
    MetFree l (⟨"java/util/ArrayList", "add", "(Ljava/lang/Object;)Z"⟩ : MethodName) (head1 (Jvm.Cond.code (⟨"java/util/ArrayList", "add", "(Ljava/lang/Object;)Z"⟩ : MethodName) jdk_38_method_25_code 2 (some .boolean) :: ws) ({ frames := 1, cells := 0, slots := 0, locals := 15 } : Room)) (fun aa' UU' => aa' = #[(.ref al), (.ref ob)] ∧ Z.Warmed39 UU'.vm ∧ UU'.heap = h0) (fun _ _ _ _ _ => True) (fun _ UU' oo' VV' => ∃ v' L', oo' = .returned v' ∧ QrmA1_2 Z wD kD wC cC al ob mc ar kk el0 el1 h0 n0 v' VV'.heap L' ∧ FrameEnd UU' oo' VV' L' ({ frames := 1, cells := 0, slots := 0, locals := 15 } : Room).cells ({ frames := 1, cells := 0, slots := 0, locals := 15 } : Room).slots) := by
  refine MetFree.of_bodySF (plainFor_of_name pn_10) hisR ?_
  intro p e s m args below meth c s₁ Bd hml0 hP hK
  obtain ⟨rfl, hZ, hh⟩ := hP
  have hx := Bd.exec
  have hby := Bd.bytes
  have hlk := Bd.notSynchronized
  have hml : c.maxLocals = 2 := hml0
  have hown : s.vm.findClass "java/util/ArrayList" = some m.cls := findClass_of_methodNamed Bd.named
  have hnm := (name_of_methodNamed Bd.named Bd.method).1
  have hret := Bd.returns
  have X0 : Stand p l e ({ frames := 1, cells := 0, slots := 0, locals := 15 } : Room) s m #[(.ref al), (.ref ob)] below meth c s₁ [] 0 0 := Stand.of_body Bd
  have e0 : s₁.heap = h0 := by rw [← hh, Bd.state]; rfl
  have N0 := Fr.nil n0
  have KC0 : Keep h0 h0 [al, ar] := Keep.refl _ _
  refine Go.body ?_
  obtain ⟨Pf, hPf⟩ : ∃ P, P = Fin' s below ({ frames := 1, cells := 0, slots := 0, locals := 15 } : Room).cells ({ frames := 1, cells := 0, slots := 0, locals := 15 } : Room).slots (QrmA1_2 Z wD kD wC cC al ob mc ar kk el0 el1 h0 n0) := ⟨_, rfl⟩
  rw [← hPf]
  refine Go.cast (ef_rmA1_2 m) ?_
  have hw1 := (hw _ (List.mem_of_getElem? (i := 1) rfl))
  have hw2 := (hw _ (List.mem_of_getElem? (i := 2) rfl))
  have hw22 := (hw _ (List.mem_of_getElem? (i := 22) rfl))
  have hw24 := (hw _ (List.mem_of_getElem? (i := 24) rfl))
  have hw25 := (hw _ (List.mem_of_getElem? (i := 25) rfl))
  have hw39 := (hw _ (List.mem_of_getElem? (i := 39) rfl))
  have hw40 := (hw _ (List.mem_of_getElem? (i := 40) rfl))
  have hw70 := (hw _ (List.mem_of_getElem? (i := 70) rfl))
  have hw71 := (hw _ (List.mem_of_getElem? (i := 71) rfl))
  have hw72 := (hw _ (List.mem_of_getElem? (i := 72) rfl))
  have hw73 := (hw _ (List.mem_of_getElem? (i := 73) rfl))
  have hw74 := (hw _ (List.mem_of_getElem? (i := 74) rfl))
  have hw75 := (hw _ (List.mem_of_getElem? (i := 75) rfl))
  have hw76 := (hw _ (List.mem_of_getElem? (i := 76) rfl))
  show Go p.tables e below Pf (s₁.setTop (mkF m 0 #[.val (.ref al), .val (.ref ob)] []))
  refine Go.by' (fun t k => (XS.aloadN X0.here hx rfl (hb hby d10_0) rfl rfl (XS.dup X0.here hx rfl (hb hby d10_1) rfl rfl k))) ?_
  show Go p.tables e below Pf (s₁.setTop (mkF m 2 #[.val (.ref al), .val (.ref ob)] [(.ref al), (.ref al)]))
  obtain ⟨T67, X67, e67, st67⟩ := getF X0 hx hZ hown (host := "") (Or.inl hw70) (Via.of hw71) e0 FM (g := (mkF m 2 #[.val (.ref al), .val (.ref ob)] [(.ref al), (.ref al)])) rfl rfl (hb hby d10_2)
  refine Go.by' st67 ?_
  show Go p.tables e below Pf (T67.setTop (mkF m 5 #[.val (.ref al), .val (.ref ob)] [(.int mc), (.ref al)]))
  refine Go.by' (fun t k => (XS.iconst X67.here hx rfl (hb hby d10_5) (XS.iadd X67.here hx rfl (hb hby d10_6) rfl k))) ?_
  show Go p.tables e below Pf (T67.setTop (mkF m 7 #[.val (.ref al), .val (.ref ob)] [(.int (mc + (1 : Int32))), (.ref al)]))
  obtain ⟨T68, h68, X68, e68, W68, st68⟩ := putF X67 hx hZ hown (host := "") (Or.inl hw70) (Via.of hw71) e67 FM EX (Or.inl hw22) hw1 (ty := .int) (by decide) rfl rfl (g := (mkF m 7 #[.val (.ref al), .val (.ref ob)] [(.int (mc + (1 : Int32))), (.ref al)])) rfl rfl (hb hby d10_7)
  refine Go.by' st68 ?_
  have Fw68 : Fld Z h68 al "java/util/AbstractList" "modCount" "I" (Value.int (mc + (1 : Int32))) := FM.same W68
  have N68 := Fr.snoc X68 N0 g_al
  have O68 := O0.wr W68 g_al
  have KC68 : Keep h0 h68 [al, ar] := KC0.wr W68 (Or.inl (List.mem_of_getElem? (i := 0) rfl))
  show Go p.tables e below Pf (T68.setTop (mkF m 10 #[.val (.ref al), .val (.ref ob)] []))
  refine Go.by' (fun t k => (XS.aloadN X68.here hx rfl (hb hby d10_10) rfl rfl (XS.aloadN X68.here hx rfl (hb hby d10_11) rfl rfl (XS.aloadN X68.here hx rfl (hb hby d10_12) rfl rfl k)))) ?_
  show Go p.tables e below Pf (T68.setTop (mkF m 13 #[.val (.ref al), .val (.ref ob)] [(.ref al), (.ref ob), (.ref al)]))
  obtain ⟨T69, X69, e69, st69⟩ := getF X68 hx hZ hown (host := "") (Or.inl hw24) Via.refl e68 (FE.other W68 (Or.inr (slot_ne (Or.inl hw25) (Or.inl hw22) (by decide) (t := (.array (.object "java/lang/Object"))) (t' := .int) (by decide) (by decide)))) (g := (mkF m 13 #[.val (.ref al), .val (.ref ob)] [(.ref al), (.ref ob), (.ref al)])) rfl rfl (hb hby d10_13)
  refine Go.by' st69 ?_
  show Go p.tables e below Pf (T69.setTop (mkF m 16 #[.val (.ref al), .val (.ref ob)] [(.ref ar), (.ref ob), (.ref al)]))
  refine Go.by' (fun t k => (XS.aloadN X69.here hx rfl (hb hby d10_16) rfl rfl k)) ?_
  show Go p.tables e below Pf (T69.setTop (mkF m 17 #[.val (.ref al), .val (.ref ob)] [(.ref al), (.ref ar), (.ref ob), (.ref al)]))
  obtain ⟨T70, X70, e70, st70⟩ := getF X69 hx hZ hown (host := "") (Or.inl hw39) Via.refl e69 (FS.other W68 (Or.inr (slot_ne (Or.inl hw40) (Or.inl hw22) (by decide) (t := .int) (t' := .int) (by decide) (by decide)))) (g := (mkF m 17 #[.val (.ref al), .val (.ref ob)] [(.ref al), (.ref ar), (.ref ob), (.ref al)])) rfl rfl (hb hby d10_17)
  refine Go.by' st70 ?_
  show Go p.tables e below Pf (T70.setTop (mkF m 20 #[.val (.ref al), .val (.ref ob)] [(.int (2 : Int32)), (.ref ar), (.ref ob), (.ref al)]))
  obtain ⟨cq71, q71, q71'⟩ := (EX.wr W68).cell
  obtain ⟨_, _, ⟨T71, L71, k71, n71⟩, -, X71, ⟨Lc71, hQ71, l71, y71, z71⟩, st71⟩ := X70.privateBack hx (y := (⟨"java/util/ArrayList", "add", "(Ljava/lang/Object;[Ljava/lang/Object;I)V"⟩ : MethodName)) hown (mvT hZ hw72) (mvT hZ hw73) (mvT hZ hw75) (Cond.privateMethod_at (mvP hZ hw74 (args := #[]))) (mvT hZ hw76) (by decide) (backOf (W := 0) (rmA3_2 l Z a0 hw [] wD kD wC cC G al ob ar ((mc + (1 : Int32))) kk el0 el1 h68 n0 O68 (EX.wr W68) (FS.other W68 (Or.inr (slot_ne (Or.inl hw40) (Or.inl hw22) (by decide) (t := .int) (t' := .int) (by decide) (by decide)))) (FE.other W68 (Or.inr (slot_ne (Or.inl hw25) (Or.inl hw22) (by decide) (t := (.array (.object "java/lang/Object"))) (t' := .int) (by decide) (by decide)))) Fw68 g_al g_ar (VA.other W68 (Ne.symm hne)) (EO.wr W68) hne OV) hZ hw76 hw2 (by decide) (by decide)) (g := (mkF m 20 #[.val (.ref al), .val (.ref ob)] [(.int (2 : Int32)), (.ref ar), (.ref ob), (.ref al)])) rfl (by rw [hml]; rfl) (Steps.refl _) (a := al) (by rw [e70]; exact q71) q71' (argsL := [(.ref ob), (.ref ar), (.int (2 : Int32))]) (rest := []) (lenOf pd_5 rfl) rfl (by show 2 * 0 + _ ≤ _; exact Nat.le_of_eq rfl) (hb hby d10_20) (fun _ _ => ⟨rfl, e70, (by decide : 0 + 0 ≤ _), (by decide : 0 + 0 ≤ _)⟩)
  dsimp only [Pt.U, Pt.locs, Pt.cells, Pt.slots] at X71 l71 y71 z71 st71 hQ71
  subst l71 y71 z71
  obtain ⟨rfl, N71q, K71, f71_0, f71_1, f71_2, f71_3, f71_4⟩ := hQ71
  have N71 := Fr.app N68 N71q
  refine Go.by' (fun t k => st71.trans k) ?_
  have O71 := O68.keep K71 (allS g_al (allS g_ar all0))
  have KC71 : Keep h0 T71.heap [al, ar] := KC68.trans K71 (allS (Or.inl (List.mem_of_getElem? (i := 0) rfl)) (allS (Or.inl (List.mem_of_getElem? (i := 1) rfl)) all0))
  show Go p.tables e below Pf (T71.setTop (mkF m 23 #[.val (.ref al), .val (.ref ob)] []))
  refine Go.by' (fun t k => (XS.iconst X71.here hx rfl (hb hby d10_23) k)) ?_
  show Go p.tables e below Pf (T71.setTop (mkF m 24 #[.val (.ref al), .val (.ref ob)] [(.int (1 : Int32))]))
  rw [hPf]
  exact Go.retI' X71 hx hret hlk (by simp) rfl (hb hby d10_24) (by decide) (by decide) ⟨rfl, N71, KC71, f71_0, f71_1, f71_2, f71_3, f71_4⟩
theorem d6_0 : decode jdk_38_method_8_code 0 = .ok (.aload_n 0, 1) := by decide +kernel
theorem d6_1 : decode jdk_38_method_8_code 1 = .ok (.getfield 48, 3) := by decide +kernel
theorem d6_4 : decode jdk_38_method_8_code 4 = .ok (.ireturn, 1) := by decide +kernel
theorem pn_6 : plainName "java/util/ArrayList" = true := by first | (simp [plainName, overriddenIn]; done) | decide +kernel
set_option maxHeartbeats 4000000 in
theorem ef_rmSize (m : MethodId) {al : Addr} : entryFrame m #[(.ref al)] 1 = mkF m 0 #[.val (.ref al)] [] := by first | (simp [entryFrame, mkF, argsToLocals, Value.category]; done) | rfl
def QrmSize (Z : State) (wD : Addr) (kD : ClassId) (wC : Addr) (cC : Cell) (al : Addr) (sz : Int32) (h0 : Heap) (n0 : Nat) (v : Option Value) (h : Heap) (L : List Loc) : Prop := (v = some (.int sz)) ∧ (L = []) ∧ (h = h0)
set_option maxRecDepth 65536 in
set_option maxHeartbeats 40000000 in
theorem rmSize (l : Launch) (Z : State) (a0 : Array Value) (hw : ∀ d ∈ tables_1, d.before a0 Z = true) (ws : List Jvm.Cond) (wD : Addr) (kD : ClassId) (wC : Addr) (cC : Cell) (G : Gh Z wD kD wC cC) (al : Addr) (sz : Int32) (h0 : Heap) (n0 : Nat) (O0 : Old Z n0 h0) (FS : Fld Z h0 al "java/util/ArrayList" "size" "I" (.int sz)) :
    MetFree l (⟨"java/util/ArrayList", "size", "()I"⟩ : MethodName) (head1 (Jvm.Cond.code (⟨"java/util/ArrayList", "size", "()I"⟩ : MethodName) jdk_38_method_8_code 1 (some .int) :: ws) ({ frames := 0, cells := 0, slots := 0, locals := 0 } : Room)) (fun aa' UU' => aa' = #[(.ref al)] ∧ Z.Warmed39 UU'.vm ∧ UU'.heap = h0) (fun _ _ _ _ _ => True) (fun _ UU' oo' VV' => ∃ v' L', oo' = .returned v' ∧ QrmSize Z wD kD wC cC al sz h0 n0 v' VV'.heap L' ∧ FrameEnd UU' oo' VV' L' ({ frames := 0, cells := 0, slots := 0, locals := 0 } : Room).cells ({ frames := 0, cells := 0, slots := 0, locals := 0 } : Room).slots) := by
  refine MetFree.of_bodySF (plainFor_of_name pn_6) hisR ?_
  intro p e s m args below meth c s₁ Bd hml0 hP hK
  obtain ⟨rfl, hZ, hh⟩ := hP
  have hx := Bd.exec
  have hby := Bd.bytes
  have hlk := Bd.notSynchronized
  have hml : c.maxLocals = 1 := hml0
  have hown : s.vm.findClass "java/util/ArrayList" = some m.cls := findClass_of_methodNamed Bd.named
  have hnm := (name_of_methodNamed Bd.named Bd.method).1
  have hret := Bd.returns
  have X0 : Stand p l e ({ frames := 0, cells := 0, slots := 0, locals := 0 } : Room) s m #[(.ref al)] below meth c s₁ [] 0 0 := Stand.of_body Bd
  have e0 : s₁.heap = h0 := by rw [← hh, Bd.state]; rfl
  have N0 := Fr.nil n0
  refine Go.body ?_
  obtain ⟨Pf, hPf⟩ : ∃ P, P = Fin' s below ({ frames := 0, cells := 0, slots := 0, locals := 0 } : Room).cells ({ frames := 0, cells := 0, slots := 0, locals := 0 } : Room).slots (QrmSize Z wD kD wC cC al sz h0 n0) := ⟨_, rfl⟩
  rw [← hPf]
  refine Go.cast (ef_rmSize m) ?_
  have hw39 := (hw _ (List.mem_of_getElem? (i := 39) rfl))
  show Go p.tables e below Pf (s₁.setTop (mkF m 0 #[.val (.ref al)] []))
  refine Go.by' (fun t k => (XS.aloadN X0.here hx rfl (hb hby d6_0) rfl rfl k)) ?_
  show Go p.tables e below Pf (s₁.setTop (mkF m 1 #[.val (.ref al)] [(.ref al)]))
  obtain ⟨T72, X72, e72, st72⟩ := getF X0 hx hZ hown (host := "") (Or.inl hw39) Via.refl e0 FS (g := (mkF m 1 #[.val (.ref al)] [(.ref al)])) rfl rfl (hb hby d6_1)
  refine Go.by' st72 ?_
  show Go p.tables e below Pf (T72.setTop (mkF m 4 #[.val (.ref al)] [(.int sz)]))
  rw [hPf]
  exact Go.retI' X72 hx hret hlk (by simp) rfl (hb hby d6_4) (by decide) (by decide) ⟨rfl, rfl, e72⟩
theorem d17_0 : decode jdk_41_method_11_code 0 = .ok (.iload_n 0, 1) := by decide +kernel
theorem d17_1 : decode jdk_41_method_11_code 1 = .ok (.ifCond .lt 8, 3) := by decide +kernel
theorem d17_4 : decode jdk_41_method_11_code 4 = .ok (.iload_n 0, 1) := by decide +kernel
theorem d17_5 : decode jdk_41_method_11_code 5 = .ok (.iload_n 1, 1) := by decide +kernel
theorem d17_6 : decode jdk_41_method_11_code 6 = .ok (.if_icmp .lt 10, 3) := by decide +kernel
theorem d17_16 : decode jdk_41_method_11_code 16 = .ok (.iload_n 0, 1) := by decide +kernel
theorem d17_17 : decode jdk_41_method_11_code 17 = .ok (.ireturn, 1) := by decide +kernel
theorem pn_17 : plainName "jdk/internal/util/Preconditions" = true := by first | (simp [plainName, overriddenIn]; done) | decide +kernel
set_option maxHeartbeats 4000000 in
theorem ef_rmPC (m : MethodId) {ia : Int32} {ib : Int32} : entryFrame m #[(.int ia), (.int ib), .null] 3 = mkF m 0 #[.val (.int ia), .val (.int ib), .val .null] [] := by first | (simp [entryFrame, mkF, argsToLocals, Value.category]; done) | rfl
def QrmPC (Z : State) (wD : Addr) (kD : ClassId) (wC : Addr) (cC : Cell) (ia : Int32) (ib : Int32) (h0 : Heap) (n0 : Nat) (v : Option Value) (h : Heap) (L : List Loc) : Prop := (v = some (.int ia)) ∧ (L = []) ∧ (h = h0)
set_option maxRecDepth 65536 in
set_option maxHeartbeats 40000000 in
theorem rmPC (l : Launch) (Z : State) (a0 : Array Value) (hw : ∀ d ∈ tables_1, d.before a0 Z = true) (ws : List Jvm.Cond) (wD : Addr) (kD : ClassId) (wC : Addr) (cC : Cell) (G : Gh Z wD kD wC cC) (ia : Int32) (ib : Int32) (h0 : Heap) (n0 : Nat) (O0 : Old Z n0 h0) (hc0 : ¬ (ia < (0 : Int32))) (hc1 : ia < ib) :
    MetFree l (⟨"jdk/internal/util/Preconditions", "checkIndex", "(IILjava/util/function/BiFunction;)I"⟩ : MethodName) (head1 (Jvm.Cond.code (⟨"jdk/internal/util/Preconditions", "checkIndex", "(IILjava/util/function/BiFunction;)I"⟩ : MethodName) jdk_41_method_11_code 3 (some .int) :: ws) ({ frames := 0, cells := 0, slots := 0, locals := 0 } : Room)) (fun aa' UU' => aa' = #[(.int ia), (.int ib), .null] ∧ Z.Warmed39 UU'.vm ∧ UU'.heap = h0) (fun _ _ _ _ _ => True) (fun _ UU' oo' VV' => ∃ v' L', oo' = .returned v' ∧ QrmPC Z wD kD wC cC ia ib h0 n0 v' VV'.heap L' ∧ FrameEnd UU' oo' VV' L' ({ frames := 0, cells := 0, slots := 0, locals := 0 } : Room).cells ({ frames := 0, cells := 0, slots := 0, locals := 0 } : Room).slots) := by
  refine MetFree.of_bodySF (plainFor_of_name pn_17) hisR ?_
  intro p e s m args below meth c s₁ Bd hml0 hP hK
  obtain ⟨rfl, hZ, hh⟩ := hP
  have hx := Bd.exec
  have hby := Bd.bytes
  have hlk := Bd.notSynchronized
  have hml : c.maxLocals = 3 := hml0
  have hown : s.vm.findClass "jdk/internal/util/Preconditions" = some m.cls := findClass_of_methodNamed Bd.named
  have hnm := (name_of_methodNamed Bd.named Bd.method).1
  have hret := Bd.returns
  have X0 : Stand p l e ({ frames := 0, cells := 0, slots := 0, locals := 0 } : Room) s m #[(.int ia), (.int ib), .null] below meth c s₁ [] 0 0 := Stand.of_body Bd
  have e0 : s₁.heap = h0 := by rw [← hh, Bd.state]; rfl
  have N0 := Fr.nil n0
  refine Go.body ?_
  obtain ⟨Pf, hPf⟩ : ∃ P, P = Fin' s below ({ frames := 0, cells := 0, slots := 0, locals := 0 } : Room).cells ({ frames := 0, cells := 0, slots := 0, locals := 0 } : Room).slots (QrmPC Z wD kD wC cC ia ib h0 n0) := ⟨_, rfl⟩
  rw [← hPf]
  refine Go.cast (ef_rmPC m) ?_
  show Go p.tables e below Pf (s₁.setTop (mkF m 0 #[.val (.int ia), .val (.int ib), .val .null] []))
  refine Go.by' (fun t k => (XS.iloadN X0.here hx rfl (hb hby d17_0) rfl (XS.ifNo X0.here hx rfl (hb hby d17_1) rfl ((if0 _ _).trans (flt hc0).1) (XS.iloadN X0.here hx rfl (hb hby d17_4) rfl (XS.iloadN X0.here hx rfl (hb hby d17_5) rfl (XS.icmpYes X0.here hx rfl (pc0 := 6) (pc' := 16) rfl (hb hby d17_6) rfl (tlt hc1).1 (by decide) (by decide) (XS.iloadN X0.here hx rfl (hb hby d17_16) rfl k))))))) ?_
  show Go p.tables e below Pf (s₁.setTop (mkF m 17 #[.val (.int ia), .val (.int ib), .val .null] [(.int ia)]))
  rw [hPf]
  exact Go.retI' X0 hx hret hlk (by simp) rfl (hb hby d17_17) (by decide) (by decide) ⟨rfl, rfl, e0⟩
theorem d16_0 : decode jdk_31_method_17_code 0 = .ok (.iload_n 0, 1) := by decide +kernel
theorem d16_1 : decode jdk_31_method_17_code 1 = .ok (.iload_n 1, 1) := by decide +kernel
theorem d16_2 : decode jdk_31_method_17_code 2 = .ok (.aconst_null, 1) := by decide +kernel
theorem d16_3 : decode jdk_31_method_17_code 3 = .ok (.invokestatic 105, 3) := by decide +kernel
theorem pd_6 : parseMethodDescriptor "(IILjava/util/function/BiFunction;)I" = some ⟨[.int, .int, (.object "java/util/function/BiFunction")], some .int⟩ := by decide +kernel
theorem d16_6 : decode jdk_31_method_17_code 6 = .ok (.ireturn, 1) := by decide +kernel
theorem pn_16 : plainName "java/util/Objects" = true := by first | (simp [plainName, overriddenIn]; done) | decide +kernel
set_option maxHeartbeats 4000000 in
theorem ef_rmOC (m : MethodId) {ia : Int32} {ib : Int32} : entryFrame m #[(.int ia), (.int ib)] 2 = mkF m 0 #[.val (.int ia), .val (.int ib)] [] := by first | (simp [entryFrame, mkF, argsToLocals, Value.category]; done) | rfl
def QrmOC (Z : State) (wD : Addr) (kD : ClassId) (wC : Addr) (cC : Cell) (ia : Int32) (ib : Int32) (h0 : Heap) (n0 : Nat) (v : Option Value) (h : Heap) (L : List Loc) : Prop := (v = some (.int ia)) ∧ (L = []) ∧ (h = h0)
set_option maxRecDepth 65536 in
set_option maxHeartbeats 40000000 in
theorem rmOC (l : Launch) (Z : State) (a0 : Array Value) (hw : ∀ d ∈ tables_1, d.before a0 Z = true) (ws : List Jvm.Cond) (wD : Addr) (kD : ClassId) (wC : Addr) (cC : Cell) (G : Gh Z wD kD wC cC) (ia : Int32) (ib : Int32) (h0 : Heap) (n0 : Nat) (O0 : Old Z n0 h0) (hc0 : ¬ (ia < (0 : Int32))) (hc1 : ia < ib) :
    MetFree l (⟨"java/util/Objects", "checkIndex", "(II)I"⟩ : MethodName) (head1 (Jvm.Cond.code (⟨"java/util/Objects", "checkIndex", "(II)I"⟩ : MethodName) jdk_31_method_17_code 2 (some .int) :: ws) ({ frames := 1, cells := 0, slots := 0, locals := 14 } : Room)) (fun aa' UU' => aa' = #[(.int ia), (.int ib)] ∧ Z.Warmed39 UU'.vm ∧ UU'.heap = h0) (fun _ _ _ _ _ => True) (fun _ UU' oo' VV' => ∃ v' L', oo' = .returned v' ∧ QrmOC Z wD kD wC cC ia ib h0 n0 v' VV'.heap L' ∧ FrameEnd UU' oo' VV' L' ({ frames := 1, cells := 0, slots := 0, locals := 14 } : Room).cells ({ frames := 1, cells := 0, slots := 0, locals := 14 } : Room).slots) := by
  refine MetFree.of_bodySF (plainFor_of_name pn_16) hisR ?_
  intro p e s m args below meth c s₁ Bd hml0 hP hK
  obtain ⟨rfl, hZ, hh⟩ := hP
  have hx := Bd.exec
  have hby := Bd.bytes
  have hlk := Bd.notSynchronized
  have hml : c.maxLocals = 2 := hml0
  have hown : s.vm.findClass "java/util/Objects" = some m.cls := findClass_of_methodNamed Bd.named
  have hnm := (name_of_methodNamed Bd.named Bd.method).1
  have hret := Bd.returns
  have X0 : Stand p l e ({ frames := 1, cells := 0, slots := 0, locals := 14 } : Room) s m #[(.int ia), (.int ib)] below meth c s₁ [] 0 0 := Stand.of_body Bd
  have e0 : s₁.heap = h0 := by rw [← hh, Bd.state]; rfl
  have N0 := Fr.nil n0
  refine Go.body ?_
  obtain ⟨Pf, hPf⟩ : ∃ P, P = Fin' s below ({ frames := 1, cells := 0, slots := 0, locals := 14 } : Room).cells ({ frames := 1, cells := 0, slots := 0, locals := 14 } : Room).slots (QrmOC Z wD kD wC cC ia ib h0 n0) := ⟨_, rfl⟩
  rw [← hPf]
  refine Go.cast (ef_rmOC m) ?_
  have hw103 := (hw _ (List.mem_of_getElem? (i := 103) rfl))
  have hw104 := (hw _ (List.mem_of_getElem? (i := 104) rfl))
  have hw105 := (hw _ (List.mem_of_getElem? (i := 105) rfl))
  have hw106 := (hw _ (List.mem_of_getElem? (i := 106) rfl))
  show Go p.tables e below Pf (s₁.setTop (mkF m 0 #[.val (.int ia), .val (.int ib)] []))
  refine Go.by' (fun t k => (XS.iloadN X0.here hx rfl (hb hby d16_0) rfl (XS.iloadN X0.here hx rfl (hb hby d16_1) rfl (XS.aconstNull X0.here hx rfl (hb hby d16_2) k)))) ?_
  show Go p.tables e below Pf (s₁.setTop (mkF m 3 #[.val (.int ia), .val (.int ib)] [.null, (.int ib), (.int ia)]))
  obtain ⟨_, _, ⟨T73, L73, k73, n73⟩, -, X73, ⟨Lc73, hQ73, l73, y73, z73⟩, st73⟩ := Jvm.LawKit.callS X0 hx (y := (⟨"jdk/internal/util/Preconditions", "checkIndex", "(IILjava/util/function/BiFunction;)I"⟩ : MethodName)) hown (mvT hZ hw103) (mvT hZ hw104) (mvT hZ hw105) (mvT hZ hw106) (by decide) (backOf (W := 0) (rmPC l Z a0 hw [] wD kD wC cC G ia ib h0 n0 O0 hc0 hc1) hZ hw106 hw105 (by decide) (by decide)) (g := (mkF m 3 #[.val (.int ia), .val (.int ib)] [.null, (.int ib), (.int ia)])) rfl (by rw [hml]; rfl) (argsL := [(.int ia), (.int ib), .null]) (rest := []) (lenOf pd_6 rfl) rfl (by show 2 * 0 + _ ≤ _; exact Nat.le_of_eq rfl) (hb hby d16_3) (fun _ _ => ⟨rfl, e0, (by decide : 0 + 0 ≤ _), (by decide : 0 + 0 ≤ _)⟩)
  dsimp only [Pt.U, Pt.locs, Pt.cells, Pt.slots] at X73 l73 y73 z73 st73 hQ73
  subst l73 y73 z73
  obtain ⟨rfl, rfl, e73⟩ := hQ73
  try rw [List.append_nil] at X73
  refine Go.by' st73 ?_
  show Go p.tables e below Pf (T73.setTop (mkF m 6 #[.val (.int ia), .val (.int ib)] [(.int ia)]))
  rw [hPf]
  exact Go.retI' X73 hx hret hlk (by simp) rfl (hb hby d16_6) (by decide) (by decide) ⟨rfl, rfl, e73⟩
theorem d18_0 : decode jdk_38_method_18_code 0 = .ok (.aload_n 0, 1) := by decide +kernel
theorem d18_1 : decode jdk_38_method_18_code 1 = .ok (.getfield 9, 3) := by decide +kernel
theorem d18_4 : decode jdk_38_method_18_code 4 = .ok (.iload_n 1, 1) := by decide +kernel
theorem d18_5 : decode jdk_38_method_18_code 5 = .ok (.aaload, 1) := by decide +kernel
theorem d18_6 : decode jdk_38_method_18_code 6 = .ok (.areturn, 1) := by decide +kernel
theorem pn_18 : plainName "java/util/ArrayList" = true := by first | (simp [plainName, overriddenIn]; done) | decide +kernel
set_option maxHeartbeats 4000000 in
theorem ef_rmED0 (m : MethodId) {al : Addr} : entryFrame m #[(.ref al), (.int (0 : Int32))] 2 = mkF m 0 #[.val (.ref al), .val (.int (0 : Int32))] [] := by first | (simp [entryFrame, mkF, argsToLocals, Value.category]; done) | rfl
def QrmED0 (Z : State) (wD : Addr) (kD : ClassId) (wC : Addr) (cC : Cell) (al : Addr) (ar : Addr) (kk : ClassId) (v1 : Value) (v2 : Value) (v3 : Value) (v4 : Value) (v5 : Value) (v6 : Value) (v7 : Value) (v8 : Value) (v9 : Value) (el0 : Addr) (h0 : Heap) (n0 : Nat) (v : Option Value) (h : Heap) (L : List Loc) : Prop := (v = some (.ref el0)) ∧ (L = []) ∧ (h = h0)
set_option maxRecDepth 65536 in
set_option maxHeartbeats 40000000 in
theorem rmED0 (l : Launch) (Z : State) (a0 : Array Value) (hw : ∀ d ∈ tables_1, d.before a0 Z = true) (ws : List Jvm.Cond) (wD : Addr) (kD : ClassId) (wC : Addr) (cC : Cell) (G : Gh Z wD kD wC cC) (al : Addr) (ar : Addr) (kk : ClassId) (v1 : Value) (v2 : Value) (v3 : Value) (v4 : Value) (v5 : Value) (v6 : Value) (v7 : Value) (v8 : Value) (v9 : Value) (el0 : Addr) (h0 : Heap) (n0 : Nat) (O0 : Old Z n0 h0) (FE : Fld Z h0 al "java/util/ArrayList" "elementData" "[Ljava/lang/Object;" (.ref ar)) (VA : Arv Z h0 ar kk (.object "java/lang/Object") (10 : Int32) [(.ref el0), v1, v2, v3, v4, v5, v6, v7, v8, v9] Value.null) :
    MetFree l (⟨"java/util/ArrayList", "elementData", "(I)Ljava/lang/Object;"⟩ : MethodName) (head1 (Jvm.Cond.code (⟨"java/util/ArrayList", "elementData", "(I)Ljava/lang/Object;"⟩ : MethodName) jdk_38_method_18_code 2 (some (.object "java/lang/Object")) :: ws) ({ frames := 0, cells := 0, slots := 0, locals := 0 } : Room)) (fun aa' UU' => aa' = #[(.ref al), (.int (0 : Int32))] ∧ Z.Warmed39 UU'.vm ∧ UU'.heap = h0) (fun _ _ _ _ _ => True) (fun _ UU' oo' VV' => ∃ v' L', oo' = .returned v' ∧ QrmED0 Z wD kD wC cC al ar kk v1 v2 v3 v4 v5 v6 v7 v8 v9 el0 h0 n0 v' VV'.heap L' ∧ FrameEnd UU' oo' VV' L' ({ frames := 0, cells := 0, slots := 0, locals := 0 } : Room).cells ({ frames := 0, cells := 0, slots := 0, locals := 0 } : Room).slots) := by
  refine MetFree.of_bodySF (plainFor_of_name pn_18) hisR ?_
  intro p e s m args below meth c s₁ Bd hml0 hP hK
  obtain ⟨rfl, hZ, hh⟩ := hP
  have hx := Bd.exec
  have hby := Bd.bytes
  have hlk := Bd.notSynchronized
  have hml : c.maxLocals = 2 := hml0
  have hown : s.vm.findClass "java/util/ArrayList" = some m.cls := findClass_of_methodNamed Bd.named
  have hnm := (name_of_methodNamed Bd.named Bd.method).1
  have hret := Bd.returns
  have X0 : Stand p l e ({ frames := 0, cells := 0, slots := 0, locals := 0 } : Room) s m #[(.ref al), (.int (0 : Int32))] below meth c s₁ [] 0 0 := Stand.of_body Bd
  have e0 : s₁.heap = h0 := by rw [← hh, Bd.state]; rfl
  have N0 := Fr.nil n0
  refine Go.body ?_
  obtain ⟨Pf, hPf⟩ : ∃ P, P = Fin' s below ({ frames := 0, cells := 0, slots := 0, locals := 0 } : Room).cells ({ frames := 0, cells := 0, slots := 0, locals := 0 } : Room).slots (QrmED0 Z wD kD wC cC al ar kk v1 v2 v3 v4 v5 v6 v7 v8 v9 el0 h0 n0) := ⟨_, rfl⟩
  rw [← hPf]
  refine Go.cast (ef_rmED0 m) ?_
  have hw24 := (hw _ (List.mem_of_getElem? (i := 24) rfl))
  show Go p.tables e below Pf (s₁.setTop (mkF m 0 #[.val (.ref al), .val (.int (0 : Int32))] []))
  refine Go.by' (fun t k => (XS.aloadN X0.here hx rfl (hb hby d18_0) rfl rfl k)) ?_
  show Go p.tables e below Pf (s₁.setTop (mkF m 1 #[.val (.ref al), .val (.int (0 : Int32))] [(.ref al)]))
  obtain ⟨T74, X74, e74, st74⟩ := getF X0 hx hZ hown (host := "") (Or.inl hw24) Via.refl e0 FE (g := (mkF m 1 #[.val (.ref al), .val (.int (0 : Int32))] [(.ref al)])) rfl rfl (hb hby d18_1)
  refine Go.by' st74 ?_
  show Go p.tables e below Pf (T74.setTop (mkF m 4 #[.val (.ref al), .val (.int (0 : Int32))] [(.ref ar)]))
  refine Go.by' (fun t k => (XS.iloadN X74.here hx rfl (hb hby d18_4) rfl k)) ?_
  show Go p.tables e below Pf (T74.setTop (mkF m 5 #[.val (.ref al), .val (.int (0 : Int32))] [(.int (0 : Int32)), (.ref ar)]))
  obtain ⟨cl75, Ar75, q75, S75, P75, H75, G75⟩ := (id VA)
  have hin75 : ¬ ((0 : Int32) < 0 ∨ cl75.slots.size ≤ ((0 : Int32)).toNatClampNeg) := inb_of S75 ⟨by decide, by decide⟩
  refine Go.by' (fun t k => (X74.aaload hx (j := (0 : Int32)) (v := (.ref el0)) (by rw [e74]; exact Ar75.1) (State.isArrayOf_alike hZ.alike Ar75.2.1) rfl Ar75.2.2 hin75 (H75.at hin75 rfl) (g := (mkF m 5 #[.val (.ref al), .val (.int (0 : Int32))] [(.int (0 : Int32)), (.ref ar)])) rfl rfl (hb hby d18_5) t k)) ?_
  show Go p.tables e below Pf (T74.setTop (mkF m 6 #[.val (.ref al), .val (.int (0 : Int32))] [(.ref el0)]))
  rw [hPf]
  exact Go.retA' X74 hx hret hlk rfl rfl (hb hby d18_6) (by decide) (by decide) ⟨rfl, rfl, e74⟩
theorem d15_0 : decode jdk_38_method_20_code 0 = .ok (.iload_n 1, 1) := by decide +kernel
theorem d15_1 : decode jdk_38_method_20_code 1 = .ok (.aload_n 0, 1) := by decide +kernel
theorem d15_2 : decode jdk_38_method_20_code 2 = .ok (.getfield 48, 3) := by decide +kernel
theorem d15_5 : decode jdk_38_method_20_code 5 = .ok (.invokestatic 118, 3) := by decide +kernel
theorem d15_8 : decode jdk_38_method_20_code 8 = .ok (.pop, 1) := by decide +kernel
theorem d15_9 : decode jdk_38_method_20_code 9 = .ok (.aload_n 0, 1) := by decide +kernel
theorem d15_10 : decode jdk_38_method_20_code 10 = .ok (.iload_n 1, 1) := by decide +kernel
theorem d15_11 : decode jdk_38_method_20_code 11 = .ok (.invokevirtual 123, 3) := by decide +kernel
theorem pd_7 : parseMethodDescriptor "(I)Ljava/lang/Object;" = some ⟨[.int], some (.object "java/lang/Object")⟩ := by decide +kernel
theorem d15_14 : decode jdk_38_method_20_code 14 = .ok (.areturn, 1) := by decide +kernel
theorem pn_15 : plainName "java/util/ArrayList" = true := by first | (simp [plainName, overriddenIn]; done) | decide +kernel
set_option maxHeartbeats 4000000 in
theorem ef_rmGet0 (m : MethodId) {al : Addr} : entryFrame m #[(.ref al), (.int (0 : Int32))] 2 = mkF m 0 #[.val (.ref al), .val (.int (0 : Int32))] [] := by first | (simp [entryFrame, mkF, argsToLocals, Value.category]; done) | rfl
def QrmGet0 (Z : State) (wD : Addr) (kD : ClassId) (wC : Addr) (cC : Cell) (al : Addr) (sz : Int32) (ar : Addr) (kk : ClassId) (v1 : Value) (v2 : Value) (v3 : Value) (v4 : Value) (v5 : Value) (v6 : Value) (v7 : Value) (v8 : Value) (v9 : Value) (el0 : Addr) (h0 : Heap) (n0 : Nat) (v : Option Value) (h : Heap) (L : List Loc) : Prop := (v = some (.ref el0)) ∧ (L = []) ∧ (h = h0)
set_option maxRecDepth 65536 in
set_option maxHeartbeats 40000000 in
theorem rmGet0 (l : Launch) (Z : State) (a0 : Array Value) (hw : ∀ d ∈ tables_1, d.before a0 Z = true) (ws : List Jvm.Cond) (wD : Addr) (kD : ClassId) (wC : Addr) (cC : Cell) (G : Gh Z wD kD wC cC) (al : Addr) (sz : Int32) (ar : Addr) (kk : ClassId) (v1 : Value) (v2 : Value) (v3 : Value) (v4 : Value) (v5 : Value) (v6 : Value) (v7 : Value) (v8 : Value) (v9 : Value) (el0 : Addr) (h0 : Heap) (n0 : Nat) (O0 : Old Z n0 h0) (FS : Fld Z h0 al "java/util/ArrayList" "size" "I" (.int sz)) (hsz : (0 : Int32) < sz) (EX : Exa Z h0 al "java/util/ArrayList") (FE : Fld Z h0 al "java/util/ArrayList" "elementData" "[Ljava/lang/Object;" (.ref ar)) (VA : Arv Z h0 ar kk (.object "java/lang/Object") (10 : Int32) [(.ref el0), v1, v2, v3, v4, v5, v6, v7, v8, v9] Value.null) :
    MetFree l (⟨"java/util/ArrayList", "get", "(I)Ljava/lang/Object;"⟩ : MethodName) (head1 (Jvm.Cond.code (⟨"java/util/ArrayList", "get", "(I)Ljava/lang/Object;"⟩ : MethodName) jdk_38_method_20_code 2 (some (.object "java/lang/Object")) :: ws) ({ frames := 2, cells := 0, slots := 0, locals := 27 } : Room)) (fun aa' UU' => aa' = #[(.ref al), (.int (0 : Int32))] ∧ Z.Warmed39 UU'.vm ∧ UU'.heap = h0) (fun _ _ _ _ _ => True) (fun _ UU' oo' VV' => ∃ v' L', oo' = .returned v' ∧ QrmGet0 Z wD kD wC cC al sz ar kk v1 v2 v3 v4 v5 v6 v7 v8 v9 el0 h0 n0 v' VV'.heap L' ∧ FrameEnd UU' oo' VV' L' ({ frames := 2, cells := 0, slots := 0, locals := 27 } : Room).cells ({ frames := 2, cells := 0, slots := 0, locals := 27 } : Room).slots) := by
  refine MetFree.of_bodySF (plainFor_of_name pn_15) hisR ?_
  intro p e s m args below meth c s₁ Bd hml0 hP hK
  obtain ⟨rfl, hZ, hh⟩ := hP
  have hx := Bd.exec
  have hby := Bd.bytes
  have hlk := Bd.notSynchronized
  have hml : c.maxLocals = 2 := hml0
  have hown : s.vm.findClass "java/util/ArrayList" = some m.cls := findClass_of_methodNamed Bd.named
  have hnm := (name_of_methodNamed Bd.named Bd.method).1
  have hret := Bd.returns
  have X0 : Stand p l e ({ frames := 2, cells := 0, slots := 0, locals := 27 } : Room) s m #[(.ref al), (.int (0 : Int32))] below meth c s₁ [] 0 0 := Stand.of_body Bd
  have e0 : s₁.heap = h0 := by rw [← hh, Bd.state]; rfl
  have N0 := Fr.nil n0
  refine Go.body ?_
  obtain ⟨Pf, hPf⟩ : ∃ P, P = Fin' s below ({ frames := 2, cells := 0, slots := 0, locals := 27 } : Room).cells ({ frames := 2, cells := 0, slots := 0, locals := 27 } : Room).slots (QrmGet0 Z wD kD wC cC al sz ar kk v1 v2 v3 v4 v5 v6 v7 v8 v9 el0 h0 n0) := ⟨_, rfl⟩
  rw [← hPf]
  refine Go.cast (ef_rmGet0 m) ?_
  have hw2 := (hw _ (List.mem_of_getElem? (i := 2) rfl))
  have hw39 := (hw _ (List.mem_of_getElem? (i := 39) rfl))
  have hw99 := (hw _ (List.mem_of_getElem? (i := 99) rfl))
  have hw100 := (hw _ (List.mem_of_getElem? (i := 100) rfl))
  have hw101 := (hw _ (List.mem_of_getElem? (i := 101) rfl))
  have hw102 := (hw _ (List.mem_of_getElem? (i := 102) rfl))
  have hw107 := (hw _ (List.mem_of_getElem? (i := 107) rfl))
  have hw108 := (hw _ (List.mem_of_getElem? (i := 108) rfl))
  have hw109 := (hw _ (List.mem_of_getElem? (i := 109) rfl))
  have hw110 := (hw _ (List.mem_of_getElem? (i := 110) rfl))
  have hw111 := (hw _ (List.mem_of_getElem? (i := 111) rfl))
  show Go p.tables e below Pf (s₁.setTop (mkF m 0 #[.val (.ref al), .val (.int (0 : Int32))] []))
  refine Go.by' (fun t k => (XS.iloadN X0.here hx rfl (hb hby d15_0) rfl (XS.aloadN X0.here hx rfl (hb hby d15_1) rfl rfl k))) ?_
  show Go p.tables e below Pf (s₁.setTop (mkF m 2 #[.val (.ref al), .val (.int (0 : Int32))] [(.ref al), (.int (0 : Int32))]))
  obtain ⟨T76, X76, e76, st76⟩ := getF X0 hx hZ hown (host := "") (Or.inl hw39) Via.refl e0 FS (g := (mkF m 2 #[.val (.ref al), .val (.int (0 : Int32))] [(.ref al), (.int (0 : Int32))])) rfl rfl (hb hby d15_2)
  refine Go.by' st76 ?_
  show Go p.tables e below Pf (T76.setTop (mkF m 5 #[.val (.ref al), .val (.int (0 : Int32))] [(.int sz), (.int (0 : Int32))]))
  obtain ⟨_, _, ⟨T77, L77, k77, n77⟩, -, X77, ⟨Lc77, hQ77, l77, y77, z77⟩, st77⟩ := Jvm.LawKit.callS X76 hx (y := (⟨"java/util/Objects", "checkIndex", "(II)I"⟩ : MethodName)) hown (mvT hZ hw99) (mvT hZ hw100) (mvT hZ hw101) (mvT hZ hw102) (by decide) (backOf (W := 0) (rmOC l Z a0 hw [] wD kD wC cC G ((0 : Int32)) sz h0 n0 O0 (by decide) hsz) hZ hw102 hw101 (by decide) (by decide)) (g := (mkF m 5 #[.val (.ref al), .val (.int (0 : Int32))] [(.int sz), (.int (0 : Int32))])) rfl (by rw [hml]; rfl) (argsL := [(.int (0 : Int32)), (.int sz)]) (rest := []) (lenOf pd_2 rfl) rfl (by show 2 * 0 + _ ≤ _; exact Nat.le_of_eq rfl) (hb hby d15_5) (fun _ _ => ⟨rfl, e76, (by decide : 0 + 0 ≤ _), (by decide : 0 + 0 ≤ _)⟩)
  dsimp only [Pt.U, Pt.locs, Pt.cells, Pt.slots] at X77 l77 y77 z77 st77 hQ77
  subst l77 y77 z77
  obtain ⟨rfl, rfl, e77⟩ := hQ77
  try rw [List.append_nil] at X77
  refine Go.by' st77 ?_
  show Go p.tables e below Pf (T77.setTop (mkF m 8 #[.val (.ref al), .val (.int (0 : Int32))] [(.int (0 : Int32))]))
  refine Go.by' (fun t k => (XS.pop X77.here hx rfl (hb hby d15_8) rfl rfl (XS.aloadN X77.here hx rfl (hb hby d15_9) rfl rfl (XS.iloadN X77.here hx rfl (hb hby d15_10) rfl k)))) ?_
  show Go p.tables e below Pf (T77.setTop (mkF m 11 #[.val (.ref al), .val (.int (0 : Int32))] [(.int (0 : Int32)), (.ref al)]))
  obtain ⟨cq78, kq78, q78a, q78b, q78c⟩ := isOf hZ e77 EX
  obtain ⟨_, _, ⟨T78, L78, k78, n78⟩, -, X78, ⟨Lc78, hQ78, l78, y78, z78⟩, st78⟩ := X77.virtualBack hx (y := (⟨"java/util/ArrayList", "elementData", "(I)Ljava/lang/Object;"⟩ : MethodName)) (z := (⟨"java/util/ArrayList", "elementData", "(I)Ljava/lang/Object;"⟩ : MethodName)) hown (mvT hZ hw107) (mvT hZ hw108) (notFace_of_selects (args := #[]) (mvT hZ hw110)) (mvT hZ hw110) (mvT hZ hw109) (by decide) (backOf (W := 0) (rmED0 l Z a0 hw [] wD kD wC cC G al ar kk v1 v2 v3 v4 v5 v6 v7 v8 v9 el0 h0 n0 O0 FE VA) hZ hw111 hw2 (by decide) (by decide)) q78a q78c (g := (mkF m 11 #[.val (.ref al), .val (.int (0 : Int32))] [(.int (0 : Int32)), (.ref al)])) rfl (by rw [hml]; rfl) (Steps.refl _) (argsL := [(.int (0 : Int32))]) (rest := []) (lenOf pd_7 rfl) rfl (by show 2 * 0 + _ ≤ _; exact Nat.le_of_eq rfl) (hb hby d15_11) (fun _ _ => ⟨rfl, e77, (by decide : 0 + 0 ≤ _), (by decide : 0 + 0 ≤ _)⟩)
  dsimp only [Pt.U, Pt.locs, Pt.cells, Pt.slots] at X78 l78 y78 z78 st78 hQ78
  subst l78 y78 z78
  obtain ⟨rfl, rfl, e78⟩ := hQ78
  try rw [List.append_nil] at X78
  refine Go.by' (fun t k => st78.trans k) ?_
  show Go p.tables e below Pf (T78.setTop (mkF m 14 #[.val (.ref al), .val (.int (0 : Int32))] [(.ref el0)]))
  rw [hPf]
  exact Go.retA' X78 hx hret hlk rfl rfl (hb hby d15_14) (by decide) (by decide) ⟨rfl, rfl, e78⟩
theorem d5_0 : decode prog_21_method_6_code 0 = .ok (.iconst (-1), 1) := by decide +kernel
theorem d5_1 : decode prog_21_method_6_code 1 = .ok (.istore_n 1, 1) := by decide +kernel
theorem d5_2 : decode prog_21_method_6_code 2 = .ok (.aload_n 0, 1) := by decide +kernel
theorem d5_3 : decode prog_21_method_6_code 3 = .ok (.invokeinterface 26 1, 5) := by decide +kernel
theorem pd_8 : parseMethodDescriptor "()I" = some ⟨[], some .int⟩ := by decide +kernel
theorem d5_8 : decode prog_21_method_6_code 8 = .ok (.iconst 1, 1) := by decide +kernel
theorem d5_9 : decode prog_21_method_6_code 9 = .ok (.if_icmp .ne 17, 3) := by decide +kernel
theorem d5_12 : decode prog_21_method_6_code 12 = .ok (.aload_n 0, 1) := by decide +kernel
theorem d5_13 : decode prog_21_method_6_code 13 = .ok (.iconst 0, 1) := by decide +kernel
theorem d5_14 : decode prog_21_method_6_code 14 = .ok (.invokeinterface 30 2, 5) := by decide +kernel
theorem d5_19 : decode prog_21_method_6_code 19 = .ok (.checkcast 73, 3) := by decide +kernel
theorem d5_22 : decode prog_21_method_6_code 22 = .ok (.invokevirtual 105, 3) := by decide +kernel
theorem d5_25 : decode prog_21_method_6_code 25 = .ok (.istore_n 1, 1) := by decide +kernel
theorem d5_26 : decode prog_21_method_6_code 26 = .ok (.iload_n 1, 1) := by decide +kernel
theorem d5_27 : decode prog_21_method_6_code 27 = .ok (.ireturn, 1) := by decide +kernel
theorem pn_5 : plainName "com/example/usher/usher/TypeIndex" = true := by first | (simp [plainName, overriddenIn]; done) | decide +kernel
set_option maxHeartbeats 4000000 in
theorem ef_rmOn1 (m : MethodId) {al : Addr} : entryFrame m #[(.ref al)] 2 = mkF m 0 #[.val (.ref al), .unset] [] := by first | (simp [entryFrame, mkF, argsToLocals, Value.category]; done) | rfl
def QrmOn1 (Z : State) (wD : Addr) (kD : ClassId) (wC : Addr) (cC : Cell) (al : Addr) (ar : Addr) (kk : ClassId) (v1 : Value) (v2 : Value) (v3 : Value) (v4 : Value) (v5 : Value) (v6 : Value) (v7 : Value) (v8 : Value) (v9 : Value) (el0 : Addr) (iv : Int32) (h0 : Heap) (n0 : Nat) (v : Option Value) (h : Heap) (L : List Loc) : Prop := (v = some (.int iv)) ∧ (L = []) ∧ (h = h0)
set_option maxRecDepth 65536 in
set_option maxHeartbeats 40000000 in
theorem rmOn1 (l : Launch) (Z : State) (a0 : Array Value) (hw : ∀ d ∈ tables_1, d.before a0 Z = true) (ws : List Jvm.Cond) (wD : Addr) (kD : ClassId) (wC : Addr) (cC : Cell) (G : Gh Z wD kD wC cC) (al : Addr) (ar : Addr) (kk : ClassId) (v1 : Value) (v2 : Value) (v3 : Value) (v4 : Value) (v5 : Value) (v6 : Value) (v7 : Value) (v8 : Value) (v9 : Value) (el0 : Addr) (iv : Int32) (h0 : Heap) (n0 : Nat) (O0 : Old Z n0 h0) (EX : Exa Z h0 al "java/util/ArrayList") (FS : Fld Z h0 al "java/util/ArrayList" "size" "I" (.int (1 : Int32))) (FE : Fld Z h0 al "java/util/ArrayList" "elementData" "[Ljava/lang/Object;" (.ref ar)) (VA : Arv Z h0 ar kk (.object "java/lang/Object") (10 : Int32) [(.ref el0), v1, v2, v3, v4, v5, v6, v7, v8, v9] Value.null) (XE : Exa Z h0 el0 "java/lang/Integer") (FV : Fld Z h0 el0 "java/lang/Integer" "value" "I" (.int iv)) :
    MetFree l (⟨"com/example/usher/usher/TypeIndex", "only", "(Ljava/util/List;)I"⟩ : MethodName) (head1 (Jvm.Cond.code (⟨"com/example/usher/usher/TypeIndex", "only", "(Ljava/util/List;)I"⟩ : MethodName) prog_21_method_6_code 2 (some .int) :: ws) ({ frames := 3, cells := 0, slots := 0, locals := 40 } : Room)) (fun aa' UU' => aa' = #[(.ref al)] ∧ Z.Warmed39 UU'.vm ∧ UU'.heap = h0) (fun _ _ _ _ _ => True) (fun _ UU' oo' VV' => ∃ v' L', oo' = .returned v' ∧ QrmOn1 Z wD kD wC cC al ar kk v1 v2 v3 v4 v5 v6 v7 v8 v9 el0 iv h0 n0 v' VV'.heap L' ∧ FrameEnd UU' oo' VV' L' ({ frames := 3, cells := 0, slots := 0, locals := 40 } : Room).cells ({ frames := 3, cells := 0, slots := 0, locals := 40 } : Room).slots) := by
  refine MetFree.of_bodySF (plainFor_of_name pn_5) hisR ?_
  intro p e s m args below meth c s₁ Bd hml0 hP hK
  obtain ⟨rfl, hZ, hh⟩ := hP
  have hx := Bd.exec
  have hby := Bd.bytes
  have hlk := Bd.notSynchronized
  have hml : c.maxLocals = 2 := hml0
  have hown : s.vm.findClass "com/example/usher/usher/TypeIndex" = some m.cls := findClass_of_methodNamed Bd.named
  have hnm := (name_of_methodNamed Bd.named Bd.method).1
  have hret := Bd.returns
  have X0 : Stand p l e ({ frames := 3, cells := 0, slots := 0, locals := 40 } : Room) s m #[(.ref al)] below meth c s₁ [] 0 0 := Stand.of_body Bd
  have e0 : s₁.heap = h0 := by rw [← hh, Bd.state]; rfl
  have N0 := Fr.nil n0
  refine Go.body ?_
  obtain ⟨Pf, hPf⟩ : ∃ P, P = Fin' s below ({ frames := 3, cells := 0, slots := 0, locals := 40 } : Room).cells ({ frames := 3, cells := 0, slots := 0, locals := 40 } : Room).slots (QrmOn1 Z wD kD wC cC al ar kk v1 v2 v3 v4 v5 v6 v7 v8 v9 el0 iv h0 n0) := ⟨_, rfl⟩
  rw [← hPf]
  refine Go.cast (ef_rmOn1 m) ?_
  have hw2 := (hw _ (List.mem_of_getElem? (i := 2) rfl))
  have hw30 := (hw _ (List.mem_of_getElem? (i := 30) rfl))
  have hw31 := (hw _ (List.mem_of_getElem? (i := 31) rfl))
  have hw32 := (hw _ (List.mem_of_getElem? (i := 32) rfl))
  have hw33 := (hw _ (List.mem_of_getElem? (i := 33) rfl))
  have hw34 := (hw _ (List.mem_of_getElem? (i := 34) rfl))
  have hw35 := (hw _ (List.mem_of_getElem? (i := 35) rfl))
  have hw36 := (hw _ (List.mem_of_getElem? (i := 36) rfl))
  have hw37 := (hw _ (List.mem_of_getElem? (i := 37) rfl))
  have hw38 := (hw _ (List.mem_of_getElem? (i := 38) rfl))
  have hw46 := (hw _ (List.mem_of_getElem? (i := 46) rfl))
  have hw96 := (hw _ (List.mem_of_getElem? (i := 96) rfl))
  have hw98 := (hw _ (List.mem_of_getElem? (i := 98) rfl))
  have hw114 := (hw _ (List.mem_of_getElem? (i := 114) rfl))
  have hw115 := (hw _ (List.mem_of_getElem? (i := 115) rfl))
  have hw116 := (hw _ (List.mem_of_getElem? (i := 116) rfl))
  have hw117 := (hw _ (List.mem_of_getElem? (i := 117) rfl))
  have hw119 := (hw _ (List.mem_of_getElem? (i := 119) rfl))
  have hw120 := (hw _ (List.mem_of_getElem? (i := 120) rfl))
  have hw121 := (hw _ (List.mem_of_getElem? (i := 121) rfl))
  have hw122 := (hw _ (List.mem_of_getElem? (i := 122) rfl))
  have hw123 := (hw _ (List.mem_of_getElem? (i := 123) rfl))
  have hw124 := (hw _ (List.mem_of_getElem? (i := 124) rfl))
  have hw125 := (hw _ (List.mem_of_getElem? (i := 125) rfl))
  have hw126 := (hw _ (List.mem_of_getElem? (i := 126) rfl))
  show Go p.tables e below Pf (s₁.setTop (mkF m 0 #[.val (.ref al), .unset] []))
  refine Go.by' (fun t k => (XS.iconst X0.here hx rfl (hb hby d5_0) (XS.istoreN X0.here hx rfl (hb hby d5_1) rfl (l' := #[.val (.ref al), .val (.int (-1 : Int32))]) rfl (XS.aloadN X0.here hx rfl (hb hby d5_2) rfl rfl k)))) ?_
  show Go p.tables e below Pf (s₁.setTop (mkF m 3 #[.val (.ref al), .val (.int (-1 : Int32))] [(.ref al)]))
  obtain ⟨cq79, kq79, q79a, q79b, q79c⟩ := isOf hZ e0 EX
  obtain ⟨_, _, ⟨T79, L79, k79, n79⟩, -, X79, ⟨Lc79, hQ79, l79, y79, z79⟩, st79⟩ := X0.interfaceBack hx (xi := (⟨"java/util/List", "size", "()I"⟩ : MethodName)) (y := (⟨"java/util/ArrayList", "size", "()I"⟩ : MethodName)) hown (mvT hZ hw30) (mvT hZ hw31) (mvT hZ hw32) (mvT hZ hw33) (mvT hZ hw34) (mvT hZ hw35) (mvT hZ hw36) (mvT hZ hw37) (by decide) (backOf (W := 0) (rmSize l Z a0 hw [] wD kD wC cC G al ((1 : Int32)) h0 n0 O0 FS) hZ hw38 hw2 (by decide) (by decide)) q79a q79b q79c (g := (mkF m 3 #[.val (.ref al), .val (.int (-1 : Int32))] [(.ref al)])) rfl (by rw [hml]; rfl) (Steps.refl _) (argsL := []) (rest := []) (lenOf pd_8 rfl) rfl (by show 2 * 0 + _ ≤ _; exact Nat.le_of_eq rfl) (hb hby d5_3) (fun _ _ => ⟨rfl, e0, (by decide : 0 + 0 ≤ _), (by decide : 0 + 0 ≤ _)⟩)
  dsimp only [Pt.U, Pt.locs, Pt.cells, Pt.slots] at X79 l79 y79 z79 st79 hQ79
  subst l79 y79 z79
  obtain ⟨rfl, rfl, e79⟩ := hQ79
  try rw [List.append_nil] at X79
  refine Go.by' (fun t k => st79.trans k) ?_
  show Go p.tables e below Pf (T79.setTop (mkF m 8 #[.val (.ref al), .val (.int (-1 : Int32))] [(.int (1 : Int32))]))
  refine Go.by' (fun t k => (XS.iconst X79.here hx rfl (hb hby d5_8) (XS.icmpNo X79.here hx rfl (hb hby d5_9) rfl (teq (by decide)).2 (XS.aloadN X79.here hx rfl (hb hby d5_12) rfl rfl (XS.iconst X79.here hx rfl (hb hby d5_13) k))))) ?_
  show Go p.tables e below Pf (T79.setTop (mkF m 14 #[.val (.ref al), .val (.int (-1 : Int32))] [(.int (0 : Int32)), (.ref al)]))
  obtain ⟨cq80, kq80, q80a, q80b, q80c⟩ := isOf hZ e79 EX
  obtain ⟨_, _, ⟨T80, L80, k80, n80⟩, -, X80, ⟨Lc80, hQ80, l80, y80, z80⟩, st80⟩ := X79.interfaceBack hx (xi := (⟨"java/util/List", "get", "(I)Ljava/lang/Object;"⟩ : MethodName)) (y := (⟨"java/util/ArrayList", "get", "(I)Ljava/lang/Object;"⟩ : MethodName)) hown (mvT hZ hw119) (mvT hZ hw120) (mvT hZ hw121) (mvT hZ hw122) (mvT hZ hw96) (mvT hZ hw123) (mvT hZ hw124) (mvT hZ hw37) (by decide) (backOf (W := 0) (rmGet0 l Z a0 hw [] wD kD wC cC G al ((1 : Int32)) ar kk v1 v2 v3 v4 v5 v6 v7 v8 v9 el0 h0 n0 O0 FS (by decide) EX FE VA) hZ hw98 hw2 (by decide) (by decide)) q80a q80b q80c (g := (mkF m 14 #[.val (.ref al), .val (.int (-1 : Int32))] [(.int (0 : Int32)), (.ref al)])) rfl (by rw [hml]; rfl) (Steps.refl _) (argsL := [(.int (0 : Int32))]) (rest := []) (lenOf pd_7 rfl) rfl (by show 2 * 0 + _ ≤ _; exact Nat.le_of_eq rfl) (hb hby d5_14) (fun _ _ => ⟨rfl, e79, (by decide : 0 + 0 ≤ _), (by decide : 0 + 0 ≤ _)⟩)
  dsimp only [Pt.U, Pt.locs, Pt.cells, Pt.slots] at X80 l80 y80 z80 st80 hQ80
  subst l80 y80 z80
  obtain ⟨rfl, rfl, e80⟩ := hQ80
  try rw [List.append_nil] at X80
  refine Go.by' (fun t k => st80.trans k) ?_
  show Go p.tables e below Pf (T80.setTop (mkF m 19 #[.val (.ref al), .val (.int (-1 : Int32))] [(.ref el0)]))
  obtain ⟨T81, X81, e81, st81⟩ := castY X80 hx hZ hown hw125 e80 (Ins.self XE) (g := (mkF m 19 #[.val (.ref al), .val (.int (-1 : Int32))] [(.ref el0)])) rfl rfl (hb hby d5_19)
  refine Go.by' st81 ?_
  show Go p.tables e below Pf (T81.setTop (mkF m 22 #[.val (.ref al), .val (.int (-1 : Int32))] [(.ref el0)]))
  obtain ⟨cq82, kq82, q82a, q82b, q82c⟩ := isOf hZ e81 XE
  obtain ⟨_, _, ⟨T82, L82, k82, n82⟩, -, X82, ⟨Lc82, hQ82, l82, y82, z82⟩, st82⟩ := X81.virtualBack hx (y := (⟨"java/lang/Integer", "intValue", "()I"⟩ : MethodName)) (z := (⟨"java/lang/Integer", "intValue", "()I"⟩ : MethodName)) hown (mvT hZ hw126) (mvT hZ hw114) (notFace_of_selects (args := #[]) (mvT hZ hw116)) (mvT hZ hw116) (mvT hZ hw115) (by decide) (backOf (W := 0) (rmIV l Z a0 hw [] wD kD wC cC G el0 iv h0 n0 O0 FV) hZ hw117 hw46 (by decide) (by decide)) q82a q82c (g := (mkF m 22 #[.val (.ref al), .val (.int (-1 : Int32))] [(.ref el0)])) rfl (by rw [hml]; rfl) (Steps.refl _) (argsL := []) (rest := []) (lenOf pd_8 rfl) rfl (by show 2 * 0 + _ ≤ _; exact Nat.le_of_eq rfl) (hb hby d5_22) (fun _ _ => ⟨rfl, e81, (by decide : 0 + 0 ≤ _), (by decide : 0 + 0 ≤ _)⟩)
  dsimp only [Pt.U, Pt.locs, Pt.cells, Pt.slots] at X82 l82 y82 z82 st82 hQ82
  subst l82 y82 z82
  obtain ⟨rfl, rfl, e82⟩ := hQ82
  try rw [List.append_nil] at X82
  refine Go.by' (fun t k => st82.trans k) ?_
  show Go p.tables e below Pf (T82.setTop (mkF m 25 #[.val (.ref al), .val (.int (-1 : Int32))] [(.int iv)]))
  refine Go.by' (fun t k => (XS.istoreN X82.here hx rfl (hb hby d5_25) rfl (l' := #[.val (.ref al), .val (.int iv)]) rfl (XS.iloadN X82.here hx rfl (hb hby d5_26) rfl k))) ?_
  show Go p.tables e below Pf (T82.setTop (mkF m 27 #[.val (.ref al), .val (.int iv)] [(.int iv)]))
  rw [hPf]
  exact Go.retI' X82 hx hret hlk (by simp) rfl (hb hby d5_27) (by decide) (by decide) ⟨rfl, rfl, e82⟩
set_option maxHeartbeats 4000000 in
theorem ef_rmOnx (m : MethodId) {al : Addr} : entryFrame m #[(.ref al)] 2 = mkF m 0 #[.val (.ref al), .unset] [] := by first | (simp [entryFrame, mkF, argsToLocals, Value.category]; done) | rfl
def QrmOnx (Z : State) (wD : Addr) (kD : ClassId) (wC : Addr) (cC : Cell) (al : Addr) (sz : Int32) (h0 : Heap) (n0 : Nat) (v : Option Value) (h : Heap) (L : List Loc) : Prop := (v = some (.int (-1 : Int32))) ∧ (L = []) ∧ (h = h0)
set_option maxRecDepth 65536 in
set_option maxHeartbeats 40000000 in
theorem rmOnx (l : Launch) (Z : State) (a0 : Array Value) (hw : ∀ d ∈ tables_1, d.before a0 Z = true) (ws : List Jvm.Cond) (wD : Addr) (kD : ClassId) (wC : Addr) (cC : Cell) (G : Gh Z wD kD wC cC) (al : Addr) (sz : Int32) (h0 : Heap) (n0 : Nat) (O0 : Old Z n0 h0) (EX : Exa Z h0 al "java/util/ArrayList") (FS : Fld Z h0 al "java/util/ArrayList" "size" "I" (.int sz)) (hs1 : ¬ (sz = (1 : Int32))) :
    MetFree l (⟨"com/example/usher/usher/TypeIndex", "only", "(Ljava/util/List;)I"⟩ : MethodName) (head1 (Jvm.Cond.code (⟨"com/example/usher/usher/TypeIndex", "only", "(Ljava/util/List;)I"⟩ : MethodName) prog_21_method_6_code 2 (some .int) :: ws) ({ frames := 1, cells := 0, slots := 0, locals := 12 } : Room)) (fun aa' UU' => aa' = #[(.ref al)] ∧ Z.Warmed39 UU'.vm ∧ UU'.heap = h0) (fun _ _ _ _ _ => True) (fun _ UU' oo' VV' => ∃ v' L', oo' = .returned v' ∧ QrmOnx Z wD kD wC cC al sz h0 n0 v' VV'.heap L' ∧ FrameEnd UU' oo' VV' L' ({ frames := 1, cells := 0, slots := 0, locals := 12 } : Room).cells ({ frames := 1, cells := 0, slots := 0, locals := 12 } : Room).slots) := by
  refine MetFree.of_bodySF (plainFor_of_name pn_5) hisR ?_
  intro p e s m args below meth c s₁ Bd hml0 hP hK
  obtain ⟨rfl, hZ, hh⟩ := hP
  have hx := Bd.exec
  have hby := Bd.bytes
  have hlk := Bd.notSynchronized
  have hml : c.maxLocals = 2 := hml0
  have hown : s.vm.findClass "com/example/usher/usher/TypeIndex" = some m.cls := findClass_of_methodNamed Bd.named
  have hnm := (name_of_methodNamed Bd.named Bd.method).1
  have hret := Bd.returns
  have X0 : Stand p l e ({ frames := 1, cells := 0, slots := 0, locals := 12 } : Room) s m #[(.ref al)] below meth c s₁ [] 0 0 := Stand.of_body Bd
  have e0 : s₁.heap = h0 := by rw [← hh, Bd.state]; rfl
  have N0 := Fr.nil n0
  refine Go.body ?_
  obtain ⟨Pf, hPf⟩ : ∃ P, P = Fin' s below ({ frames := 1, cells := 0, slots := 0, locals := 12 } : Room).cells ({ frames := 1, cells := 0, slots := 0, locals := 12 } : Room).slots (QrmOnx Z wD kD wC cC al sz h0 n0) := ⟨_, rfl⟩
  rw [← hPf]
  refine Go.cast (ef_rmOnx m) ?_
  have hw2 := (hw _ (List.mem_of_getElem? (i := 2) rfl))
  have hw30 := (hw _ (List.mem_of_getElem? (i := 30) rfl))
  have hw31 := (hw _ (List.mem_of_getElem? (i := 31) rfl))
  have hw32 := (hw _ (List.mem_of_getElem? (i := 32) rfl))
  have hw33 := (hw _ (List.mem_of_getElem? (i := 33) rfl))
  have hw34 := (hw _ (List.mem_of_getElem? (i := 34) rfl))
  have hw35 := (hw _ (List.mem_of_getElem? (i := 35) rfl))
  have hw36 := (hw _ (List.mem_of_getElem? (i := 36) rfl))
  have hw37 := (hw _ (List.mem_of_getElem? (i := 37) rfl))
  have hw38 := (hw _ (List.mem_of_getElem? (i := 38) rfl))
  show Go p.tables e below Pf (s₁.setTop (mkF m 0 #[.val (.ref al), .unset] []))
  refine Go.by' (fun t k => (XS.iconst X0.here hx rfl (hb hby d5_0) (XS.istoreN X0.here hx rfl (hb hby d5_1) rfl (l' := #[.val (.ref al), .val (.int (-1 : Int32))]) rfl (XS.aloadN X0.here hx rfl (hb hby d5_2) rfl rfl k)))) ?_
  show Go p.tables e below Pf (s₁.setTop (mkF m 3 #[.val (.ref al), .val (.int (-1 : Int32))] [(.ref al)]))
  obtain ⟨cq83, kq83, q83a, q83b, q83c⟩ := isOf hZ e0 EX
  obtain ⟨_, _, ⟨T83, L83, k83, n83⟩, -, X83, ⟨Lc83, hQ83, l83, y83, z83⟩, st83⟩ := X0.interfaceBack hx (xi := (⟨"java/util/List", "size", "()I"⟩ : MethodName)) (y := (⟨"java/util/ArrayList", "size", "()I"⟩ : MethodName)) hown (mvT hZ hw30) (mvT hZ hw31) (mvT hZ hw32) (mvT hZ hw33) (mvT hZ hw34) (mvT hZ hw35) (mvT hZ hw36) (mvT hZ hw37) (by decide) (backOf (W := 0) (rmSize l Z a0 hw [] wD kD wC cC G al sz h0 n0 O0 FS) hZ hw38 hw2 (by decide) (by decide)) q83a q83b q83c (g := (mkF m 3 #[.val (.ref al), .val (.int (-1 : Int32))] [(.ref al)])) rfl (by rw [hml]; rfl) (Steps.refl _) (argsL := []) (rest := []) (lenOf pd_8 rfl) rfl (by show 2 * 0 + _ ≤ _; exact Nat.le_of_eq rfl) (hb hby d5_3) (fun _ _ => ⟨rfl, e0, (by decide : 0 + 0 ≤ _), (by decide : 0 + 0 ≤ _)⟩)
  dsimp only [Pt.U, Pt.locs, Pt.cells, Pt.slots] at X83 l83 y83 z83 st83 hQ83
  subst l83 y83 z83
  obtain ⟨rfl, rfl, e83⟩ := hQ83
  try rw [List.append_nil] at X83
  refine Go.by' (fun t k => st83.trans k) ?_
  show Go p.tables e below Pf (T83.setTop (mkF m 8 #[.val (.ref al), .val (.int (-1 : Int32))] [(.int sz)]))
  refine Go.by' (fun t k => (XS.iconst X83.here hx rfl (hb hby d5_8) (XS.icmpYes X83.here hx rfl (pc0 := 9) (pc' := 26) rfl (hb hby d5_9) rfl (feq hs1).2 (by decide) (by decide) (XS.iloadN X83.here hx rfl (hb hby d5_26) rfl k)))) ?_
  show Go p.tables e below Pf (T83.setTop (mkF m 27 #[.val (.ref al), .val (.int (-1 : Int32))] [(.int (-1 : Int32))]))
  rw [hPf]
  exact Go.retI' X83 hx hret hlk (by simp) rfl (hb hby d5_27) (by decide) (by decide) ⟨rfl, rfl, e83⟩
theorem own_k (x : Int32) : (x &&& (3 : Int32)) = (0 : Int32) ∨ (x &&& (3 : Int32)) = (1 : Int32) ∨ (x &&& (3 : Int32)) = (2 : Int32) ∨ (x &&& (3 : Int32)) = (3 : Int32) := by
  have h := c_mask x 3 2 (by decide) (by decide)
  have l0 : (0 : Int32).toInt = 0 := rfl
  have l1 : (1 : Int32).toInt = 1 := rfl
  have l2 : (2 : Int32).toInt = 2 := rfl
  have l3 : (3 : Int32).toInt = 3 := rfl
  simp only [← Int32.toInt_inj]
  omega
theorem pd_9 : parseMethodDescriptor "(Ljava/util/List;)I" = some ⟨[(.object "java/util/List")], some .int⟩ := by decide +kernel
theorem pd_10 : parseMethodDescriptor "(I)Ljava/lang/Integer;" = some ⟨[.int], some (.object "java/lang/Integer")⟩ := by decide +kernel
theorem pd_11 : parseMethodDescriptor "(Ljava/lang/Object;)Z" = some ⟨[(.object "java/lang/Object")], some .boolean⟩ := by decide +kernel
theorem pn_0 : plainName "com/example/usher/usher/TypeIndexOnlyPinLaw" = true := by first | (simp [plainName, overriddenIn]; done) | decide +kernel
set_option maxHeartbeats 4000000 in
theorem ef_rm0 (m : MethodId) {iN : Int32} {iA : Int32} {iB : Int32} {iC : Int32} : entryFrame m #[(.int iN), (.int iA), (.int iB), (.int iC)] maxLocals = mkF m 0 #[.val (.int iN), .val (.int iA), .val (.int iB), .val (.int iC), .unset, .unset, .unset, .unset, .unset] [] := by first | (simp [entryFrame, mkF, argsToLocals, Value.category, maxLocals]; done) | rfl
def Qrm0 (Z : State) (wD : Addr) (kD : ClassId) (wC : Addr) (cC : Cell) (iN : Int32) (iA : Int32) (iB : Int32) (iC : Int32) (h0 : Heap) (n0 : Nat) (v : Option Value) (h : Heap) (L : List Loc) : Prop := (v = some (.int (1 : Int32))) ∧ (Fr n0 L) ∧ (Keep h0 h [])
set_option maxRecDepth 65536 in
set_option maxHeartbeats 40000000 in
theorem rm0 (l : Launch) (Z : State) (a0 : Array Value) (hw : ∀ d ∈ tables_1, d.before a0 Z = true) (ws : List Jvm.Cond) (wD : Addr) (kD : ClassId) (wC : Addr) (cC : Cell) (G : Gh Z wD kD wC cC) (iN : Int32) (iA : Int32) (iB : Int32) (iC : Int32) (h0 : Heap) (n0 : Nat) (O0 : Old Z n0 h0) :
    MetFree l x (head1 (Jvm.Cond.code x code maxLocals ret :: ws) room_1) (fun aa' UU' => aa' = #[(.int iN), (.int iA), (.int iB), (.int iC)] ∧ Z.Warmed39 UU'.vm ∧ UU'.heap = h0) (fun _ _ _ _ _ => True) (fun _ UU' oo' VV' => ∃ v' L', oo' = .returned v' ∧ Qrm0 Z wD kD wC cC iN iA iB iC h0 n0 v' VV'.heap L' ∧ FrameEnd UU' oo' VV' L' 5 16) := by
  refine MetFree.of_bodySF (plainFor_of_name pn_0) hisR ?_
  intro p e s m args below meth c s₁ Bd hml0 hP hK
  obtain ⟨rfl, hZ, hh⟩ := hP
  have hx := Bd.exec
  have hby := Bd.bytes
  have hlk := Bd.notSynchronized
  have hml : c.maxLocals = 9 := hml0
  have hown : s.vm.findClass "com/example/usher/usher/TypeIndexOnlyPinLaw" = some m.cls := findClass_of_methodNamed Bd.named
  have hnm := (name_of_methodNamed Bd.named Bd.method).1
  have hret := Bd.returns
  have X0 : Stand p l e room_1 s m #[(.int iN), (.int iA), (.int iB), (.int iC)] below meth c s₁ [] 0 0 := Stand.of_body Bd
  have e0 : s₁.heap = h0 := by rw [← hh, Bd.state]; rfl
  have N0 := Fr.nil n0
  have KC0 : Keep h0 h0 [] := Keep.refl _ _
  refine Go.body ?_
  obtain ⟨Pf, hPf⟩ : ∃ P, P = Fin' s below 5 16 (Qrm0 Z wD kD wC cC iN iA iB iC h0 n0) := ⟨_, rfl⟩
  rw [← hPf]
  refine Go.cast (ef_rm0 m) ?_
  have hw0 := (hw _ (List.mem_of_getElem? (i := 0) rfl))
  have hw1 := (hw _ (List.mem_of_getElem? (i := 1) rfl))
  have hw2 := (hw _ (List.mem_of_getElem? (i := 2) rfl))
  have hw3 := (hw _ (List.mem_of_getElem? (i := 3) rfl))
  have hw4 := (hw _ (List.mem_of_getElem? (i := 4) rfl))
  have hw5 := (hw _ (List.mem_of_getElem? (i := 5) rfl))
  have hw22 := (hw _ (List.mem_of_getElem? (i := 22) rfl))
  have hw25 := (hw _ (List.mem_of_getElem? (i := 25) rfl))
  have hw26 := (hw _ (List.mem_of_getElem? (i := 26) rfl))
  have hw27 := (hw _ (List.mem_of_getElem? (i := 27) rfl))
  have hw28 := (hw _ (List.mem_of_getElem? (i := 28) rfl))
  have hw29 := (hw _ (List.mem_of_getElem? (i := 29) rfl))
  have hw34 := (hw _ (List.mem_of_getElem? (i := 34) rfl))
  have hw38 := (hw _ (List.mem_of_getElem? (i := 38) rfl))
  have hw40 := (hw _ (List.mem_of_getElem? (i := 40) rfl))
  have hw41 := (hw _ (List.mem_of_getElem? (i := 41) rfl))
  have hw42 := (hw _ (List.mem_of_getElem? (i := 42) rfl))
  have hw43 := (hw _ (List.mem_of_getElem? (i := 43) rfl))
  have hw44 := (hw _ (List.mem_of_getElem? (i := 44) rfl))
  have hw45 := (hw _ (List.mem_of_getElem? (i := 45) rfl))
  have hw46 := (hw _ (List.mem_of_getElem? (i := 46) rfl))
  have hw47 := (hw _ (List.mem_of_getElem? (i := 47) rfl))
  have hw65 := (hw _ (List.mem_of_getElem? (i := 65) rfl))
  have hw66 := (hw _ (List.mem_of_getElem? (i := 66) rfl))
  have hw67 := (hw _ (List.mem_of_getElem? (i := 67) rfl))
  have hw68 := (hw _ (List.mem_of_getElem? (i := 68) rfl))
  have hw69 := (hw _ (List.mem_of_getElem? (i := 69) rfl))
  have hw94 := (hw _ (List.mem_of_getElem? (i := 94) rfl))
  have hw95 := (hw _ (List.mem_of_getElem? (i := 95) rfl))
  have hw96 := (hw _ (List.mem_of_getElem? (i := 96) rfl))
  have hw97 := (hw _ (List.mem_of_getElem? (i := 97) rfl))
  have hw98 := (hw _ (List.mem_of_getElem? (i := 98) rfl))
  have hw112 := (hw _ (List.mem_of_getElem? (i := 112) rfl))
  have hw113 := (hw _ (List.mem_of_getElem? (i := 113) rfl))
  have hw114 := (hw _ (List.mem_of_getElem? (i := 114) rfl))
  have hw115 := (hw _ (List.mem_of_getElem? (i := 115) rfl))
  have hw116 := (hw _ (List.mem_of_getElem? (i := 116) rfl))
  have hw117 := (hw _ (List.mem_of_getElem? (i := 117) rfl))
  show Go p.tables e below Pf (s₁.setTop (mkF m 0 #[.val (.int iN), .val (.int iA), .val (.int iB), .val (.int iC), .unset, .unset, .unset, .unset, .unset] []))
  refine Go.by' (fun t k => (XS.iloadN X0.here hx rfl (hb hby at_0) rfl (XS.iconst X0.here hx rfl (hb hby at_1) (XS.iand X0.here hx rfl (hb hby at_2) rfl (XS.istore X0.here hx rfl (hb hby at_3) rfl (l' := #[.val (.int iN), .val (.int iA), .val (.int iB), .val (.int iC), .val (.int (iN &&& (3 : Int32))), .unset, .unset, .unset, .unset]) rfl k))))) ?_
  show Go p.tables e below Pf (s₁.setTop (mkF m 5 #[.val (.int iN), .val (.int iA), .val (.int iB), .val (.int iC), .val (.int (iN &&& (3 : Int32))), .unset, .unset, .unset, .unset] []))
  rcases own_k iN with hk | hk | hk | hk
  · refine Go.castF (fun z' => mkF m 5 #[.val (.int iN), .val (.int iA), .val (.int iB), .val (.int iC), .val (.int z'), .unset, .unset, .unset, .unset] []) (hk : (iN &&& (3 : Int32)) = (0 : Int32)) ?_
    show Go p.tables e below Pf (s₁.setTop (mkF m 5 #[.val (.int iN), .val (.int iA), .val (.int iB), .val (.int iC), .val (.int (0 : Int32)), .unset, .unset, .unset, .unset] []))
    obtain ⟨T84, h84, X84, e84, E84, A84, D84, -, st84⟩ := newO X0 hx hZ hown hw0 hw1 hw2 e0 (g := (mkF m 5 #[.val (.int iN), .val (.int iA), .val (.int iB), .val (.int iC), .val (.int (0 : Int32)), .unset, .unset, .unset, .unset] [])) rfl (hb hby at_5) (by decide) (by decide)
    obtain ⟨b84, g84⟩ : ∃ z, z = h0.size := ⟨_, rfl⟩
    rw [← g84] at A84 D84 st84
    refine Go.by' st84 ?_
    have g_b84 : n0 ≤ b84 := Nat.le_trans (own_le O0) (Nat.le_of_eq g84.symm)
    have sz_b84 : h0.size ≤ b84 := Nat.le_trans KC0.1 (Nat.le_of_eq g84.symm)
    have O84 := O0.ext E84
    have KC84 : Keep h0 h84 [] := KC0.ext E84
    have Fn84_22 : Fld Z h84 b84 "java/util/AbstractList" "modCount" "I" (Value.int (0 : Int32)) := D84 (Or.inl hw22) (ty := .int) (by decide)
    have Fn84_25 : Fld Z h84 b84 "java/util/ArrayList" "elementData" "[Ljava/lang/Object;" Value.null := D84 (Or.inl hw25) (ty := (.array (.object "java/lang/Object"))) (by decide)
    have Fn84_40 : Fld Z h84 b84 "java/util/ArrayList" "size" "I" (Value.int (0 : Int32)) := D84 (Or.inl hw40) (ty := .int) (by decide)
    show Go p.tables e below Pf (T84.setTop (mkF m 8 #[.val (.int iN), .val (.int iA), .val (.int iB), .val (.int iC), .val (.int (0 : Int32)), .unset, .unset, .unset, .unset] [(.ref b84)]))
    refine Go.by' (fun t k => (XS.dup X84.here hx rfl (hb hby at_8) rfl rfl k)) ?_
    show Go p.tables e below Pf (T84.setTop (mkF m 9 #[.val (.int iN), .val (.int iA), .val (.int iB), .val (.int iC), .val (.int (0 : Int32)), .unset, .unset, .unset, .unset] [(.ref b84), (.ref b84)]))
    obtain ⟨_, _, ⟨T85, L85, k85, n85⟩, -, X85, ⟨Lc85, hQ85, l85, y85, z85⟩, st85⟩ := X84.specialBack hx (y := (⟨"java/util/ArrayList", "<init>", "()V"⟩ : MethodName)) rfl hown (mvT hZ hw3) (mvT hZ hw4) (mvT hZ hw5) (by decide) (backOf (W := 1) (rmAL l Z a0 hw [] wD kD wC cC G b84 h84 n0 O84 A84 Fn84_22 Fn84_25 Fn84_40 g_b84) hZ hw5 hw2 (by decide) (by decide)) (g := (mkF m 9 #[.val (.int iN), .val (.int iA), .val (.int iB), .val (.int iC), .val (.int (0 : Int32)), .unset, .unset, .unset, .unset] [(.ref b84), (.ref b84)])) rfl (by rw [hml]; rfl) (Steps.refl _) (a := b84) (argsL := []) (rest := [(.ref b84)]) (lenOf pd_0 rfl) rfl (by show 2 * 0 + _ ≤ _; exact Nat.le_of_eq rfl) (hb hby at_9) (fun _ _ => ⟨rfl, e84, (by decide : 1 + 0 ≤ _), (by decide : 3 + 0 ≤ _)⟩)
    dsimp only [Pt.U, Pt.locs, Pt.cells, Pt.slots] at X85 l85 y85 z85 st85 hQ85
    subst l85 y85 z85
    obtain ⟨rfl, N85q, K85, f85_0, f85_1, f85_2, f85_3⟩ := hQ85
    have N85 := Fr.app N0 N85q
    refine Go.by' (fun t k => st85.trans k) ?_
    have O85 := O84.keep K85 (allS g_b84 all0)
    have KC85 : Keep h0 T85.heap [] := KC84.trans K85 (allS (Or.inr sz_b84) all0)
    show Go p.tables e below Pf (T85.setTop (mkF m 12 #[.val (.int iN), .val (.int iA), .val (.int iB), .val (.int iC), .val (.int (0 : Int32)), .unset, .unset, .unset, .unset] [(.ref b84)]))
    refine Go.by' (fun t k => (XS.astore X85.here hx rfl (hb hby at_12) rfl rfl (l' := #[.val (.int iN), .val (.int iA), .val (.int iB), .val (.int iC), .val (.int (0 : Int32)), .val (.ref b84), .unset, .unset, .unset]) rfl (XS.iload X85.here hx rfl (hb hby at_14) rfl (XS.iconst X85.here hx rfl (hb hby at_16) (XS.icmpYes X85.here hx rfl (pc0 := 17) (pc' := 30) rfl (hb hby at_17) rfl (tlt (by decide)).1 (by decide) (by decide) (XS.iload X85.here hx rfl (hb hby at_30) rfl (XS.iconst X85.here hx rfl (hb hby at_32) k))))))) ?_
    show Go p.tables e below Pf (T85.setTop (mkF m 33 #[.val (.int iN), .val (.int iA), .val (.int iB), .val (.int iC), .val (.int (0 : Int32)), .val (.ref b84), .unset, .unset, .unset] [(.int (2 : Int32)), (.int (0 : Int32))]))
    refine Go.by' (fun t k => (XS.icmpYes X85.here hx rfl (pc0 := 33) (pc' := 46) rfl (hb hby at_33) rfl (tlt (by decide)).1 (by decide) (by decide) (XS.iload X85.here hx rfl (hb hby at_46) rfl (XS.iconst X85.here hx rfl (hb hby at_48) (XS.icmpYes X85.here hx rfl (pc0 := 49) (pc' := 62) rfl (hb hby at_49) rfl (tlt (by decide)).1 (by decide) (by decide) (XS.aload X85.here hx rfl (hb hby at_62) rfl rfl k)))))) ?_
    show Go p.tables e below Pf (T85.setTop (mkF m 64 #[.val (.int iN), .val (.int iA), .val (.int iB), .val (.int iC), .val (.int (0 : Int32)), .val (.ref b84), .unset, .unset, .unset] [(.ref b84)]))
    obtain ⟨_, _, ⟨T86, L86, k86, n86⟩, -, X86, ⟨Lc86, hQ86, l86, y86, z86⟩, st86⟩ := Jvm.LawKit.callS X85 hx (y := (⟨"com/example/usher/usher/TypeIndex", "only", "(Ljava/util/List;)I"⟩ : MethodName)) hown (mvT hZ hw26) (mvT hZ hw27) (mvT hZ hw28) (mvT hZ hw29) (by decide) (backOf (W := 0) (rmOnx l Z a0 hw [] wD kD wC cC G b84 ((0 : Int32)) T85.heap n0 O85 f85_0 f85_3 (by decide)) hZ hw29 hw28 (by decide) (by decide)) (g := (mkF m 64 #[.val (.int iN), .val (.int iA), .val (.int iB), .val (.int iC), .val (.int (0 : Int32)), .val (.ref b84), .unset, .unset, .unset] [(.ref b84)])) rfl (by rw [hml]; rfl) (argsL := [(.ref b84)]) (rest := []) (lenOf pd_9 rfl) rfl (by show 2 * 0 + _ ≤ _; exact Nat.le_of_eq rfl) (hb hby at_64) (fun _ _ => ⟨rfl, rfl, (by decide : 1 + 0 ≤ _), (by decide : 3 + 0 ≤ _)⟩)
    dsimp only [Pt.U, Pt.locs, Pt.cells, Pt.slots] at X86 l86 y86 z86 st86 hQ86
    subst l86 y86 z86
    obtain ⟨rfl, rfl, e86⟩ := hQ86
    try rw [List.append_nil] at X86
    refine Go.by' st86 ?_
    show Go p.tables e below Pf (T86.setTop (mkF m 67 #[.val (.int iN), .val (.int iA), .val (.int iB), .val (.int iC), .val (.int (0 : Int32)), .val (.ref b84), .unset, .unset, .unset] [(.int (-1 : Int32))]))
    refine Go.by' (fun t k => (XS.istore X86.here hx rfl (hb hby at_67) rfl (l' := #[.val (.int iN), .val (.int iA), .val (.int iB), .val (.int iC), .val (.int (0 : Int32)), .val (.ref b84), .val (.int (-1 : Int32)), .unset, .unset]) rfl (XS.iload X86.here hx rfl (hb hby at_69) rfl (XS.iconst X86.here hx rfl (hb hby at_71) (XS.icmpYes X86.here hx rfl (pc0 := 72) (pc' := 81) rfl (hb hby at_72) rfl (feq (by decide)).2 (by decide) (by decide) (XS.iconst X86.here hx rfl (hb hby at_81) (XS.istore X86.here hx rfl (hb hby at_82) rfl (l' := #[.val (.int iN), .val (.int iA), .val (.int iB), .val (.int iC), .val (.int (0 : Int32)), .val (.ref b84), .val (.int (-1 : Int32)), .val (.int (-1 : Int32)), .unset]) rfl k))))))) ?_
    show Go p.tables e below Pf (T86.setTop (mkF m 84 #[.val (.int iN), .val (.int iA), .val (.int iB), .val (.int iC), .val (.int (0 : Int32)), .val (.ref b84), .val (.int (-1 : Int32)), .val (.int (-1 : Int32)), .unset] []))
    refine Go.by' (fun t k => (XS.aload X86.here hx rfl (hb hby at_84) rfl rfl k)) ?_
    show Go p.tables e below Pf (T86.setTop (mkF m 86 #[.val (.int iN), .val (.int iA), .val (.int iB), .val (.int iC), .val (.int (0 : Int32)), .val (.ref b84), .val (.int (-1 : Int32)), .val (.int (-1 : Int32)), .unset] [(.ref b84)]))
    obtain ⟨cq87, kq87, q87a, q87b, q87c⟩ := isOf hZ e86 f85_0
    obtain ⟨_, _, ⟨T87, L87, k87, n87⟩, -, X87, ⟨Lc87, hQ87, l87, y87, z87⟩, st87⟩ := X86.virtualBack hx (y := (⟨"java/util/ArrayList", "size", "()I"⟩ : MethodName)) (z := (⟨"java/util/ArrayList", "size", "()I"⟩ : MethodName)) hown (mvT hZ hw41) (mvT hZ hw42) (notFace_of_selects (args := #[]) (mvT hZ hw43)) (mvT hZ hw43) (mvT hZ hw34) (by decide) (backOf (W := 0) (rmSize l Z a0 hw [] wD kD wC cC G b84 ((0 : Int32)) T85.heap n0 O85 f85_3) hZ hw38 hw2 (by decide) (by decide)) q87a q87c (g := (mkF m 86 #[.val (.int iN), .val (.int iA), .val (.int iB), .val (.int iC), .val (.int (0 : Int32)), .val (.ref b84), .val (.int (-1 : Int32)), .val (.int (-1 : Int32)), .unset] [(.ref b84)])) rfl (by rw [hml]; rfl) (Steps.refl _) (argsL := []) (rest := []) (lenOf pd_8 rfl) rfl (by show 2 * 0 + _ ≤ _; exact Nat.le_of_eq rfl) (hb hby at_86) (fun _ _ => ⟨rfl, e86, (by decide : 1 + 0 ≤ _), (by decide : 3 + 0 ≤ _)⟩)
    dsimp only [Pt.U, Pt.locs, Pt.cells, Pt.slots] at X87 l87 y87 z87 st87 hQ87
    subst l87 y87 z87
    obtain ⟨rfl, rfl, e87⟩ := hQ87
    try rw [List.append_nil] at X87
    refine Go.by' (fun t k => st87.trans k) ?_
    show Go p.tables e below Pf (T87.setTop (mkF m 89 #[.val (.int iN), .val (.int iA), .val (.int iB), .val (.int iC), .val (.int (0 : Int32)), .val (.ref b84), .val (.int (-1 : Int32)), .val (.int (-1 : Int32)), .unset] [(.int (0 : Int32))]))
    refine Go.by' (fun t k => (XS.iload X87.here hx rfl (hb hby at_89) rfl (XS.icmpNo X87.here hx rfl (hb hby at_91) rfl (teq (by decide)).2 (XS.iload X87.here hx rfl (hb hby at_94) rfl (XS.iconst X87.here hx rfl (hb hby at_96) (XS.icmpYes X87.here hx rfl (pc0 := 97) (pc' := 116) rfl (hb hby at_97) rfl (tlt (by decide)).1 (by decide) (by decide) (XS.iconst X87.here hx rfl (hb hby at_116) k))))))) ?_
    show Go p.tables e below Pf (T87.setTop (mkF m 117 #[.val (.int iN), .val (.int iA), .val (.int iB), .val (.int iC), .val (.int (0 : Int32)), .val (.ref b84), .val (.int (-1 : Int32)), .val (.int (-1 : Int32)), .unset] [(.int (1 : Int32))]))
    refine Go.by' (fun t k => (XS.goto X87.here hx rfl (pc0 := 117) (pc' := 121) rfl (hb hby at_117) (by decide) (by decide) (XS.istore X87.here hx rfl (hb hby at_121) rfl (l' := #[.val (.int iN), .val (.int iA), .val (.int iB), .val (.int iC), .val (.int (0 : Int32)), .val (.ref b84), .val (.int (-1 : Int32)), .val (.int (-1 : Int32)), .val (.int (1 : Int32))]) rfl (XS.iload X87.here hx rfl (hb hby at_123) rfl (XS.iload X87.here hx rfl (hb hby at_125) rfl (XS.icmpNo X87.here hx rfl (hb hby at_127) rfl (teq (by decide)).2 (XS.iload X87.here hx rfl (hb hby at_130) rfl k))))))) ?_
    show Go p.tables e below Pf (T87.setTop (mkF m 132 #[.val (.int iN), .val (.int iA), .val (.int iB), .val (.int iC), .val (.int (0 : Int32)), .val (.ref b84), .val (.int (-1 : Int32)), .val (.int (-1 : Int32)), .val (.int (1 : Int32))] [(.int (1 : Int32))]))
    refine Go.by' (fun t k => (XS.ifNo X87.here hx rfl (hb hby at_132) rfl ((if0 _ _).trans (feq (by decide)).1) (XS.iconst X87.here hx rfl (hb hby at_135) (XS.goto X87.here hx rfl (pc0 := 136) (pc' := 140) rfl (hb hby at_136) (by decide) (by decide) k)))) ?_
    show Go p.tables e below Pf (T87.setTop (mkF m 140 #[.val (.int iN), .val (.int iA), .val (.int iB), .val (.int iC), .val (.int (0 : Int32)), .val (.ref b84), .val (.int (-1 : Int32)), .val (.int (-1 : Int32)), .val (.int (1 : Int32))] [(.int (1 : Int32))]))
    rw [hPf]
    exact Go.retI' X87 hx hret hlk (by simp) rfl (hb hby at_140) (by decide) (by decide) ⟨rfl, N85, (by rw [e87]; exact KC85)⟩
  · refine Go.castF (fun z' => mkF m 5 #[.val (.int iN), .val (.int iA), .val (.int iB), .val (.int iC), .val (.int z'), .unset, .unset, .unset, .unset] []) (hk : (iN &&& (3 : Int32)) = (1 : Int32)) ?_
    show Go p.tables e below Pf (s₁.setTop (mkF m 5 #[.val (.int iN), .val (.int iA), .val (.int iB), .val (.int iC), .val (.int (1 : Int32)), .unset, .unset, .unset, .unset] []))
    obtain ⟨T88, h88, X88, e88, E88, A88, D88, -, st88⟩ := newO X0 hx hZ hown hw0 hw1 hw2 e0 (g := (mkF m 5 #[.val (.int iN), .val (.int iA), .val (.int iB), .val (.int iC), .val (.int (1 : Int32)), .unset, .unset, .unset, .unset] [])) rfl (hb hby at_5) (by decide) (by decide)
    obtain ⟨b88, g88⟩ : ∃ z, z = h0.size := ⟨_, rfl⟩
    rw [← g88] at A88 D88 st88
    refine Go.by' st88 ?_
    have g_b88 : n0 ≤ b88 := Nat.le_trans (own_le O0) (Nat.le_of_eq g88.symm)
    have sz_b88 : h0.size ≤ b88 := Nat.le_trans KC0.1 (Nat.le_of_eq g88.symm)
    have O88 := O0.ext E88
    have KC88 : Keep h0 h88 [] := KC0.ext E88
    have Fn88_22 : Fld Z h88 b88 "java/util/AbstractList" "modCount" "I" (Value.int (0 : Int32)) := D88 (Or.inl hw22) (ty := .int) (by decide)
    have Fn88_25 : Fld Z h88 b88 "java/util/ArrayList" "elementData" "[Ljava/lang/Object;" Value.null := D88 (Or.inl hw25) (ty := (.array (.object "java/lang/Object"))) (by decide)
    have Fn88_40 : Fld Z h88 b88 "java/util/ArrayList" "size" "I" (Value.int (0 : Int32)) := D88 (Or.inl hw40) (ty := .int) (by decide)
    show Go p.tables e below Pf (T88.setTop (mkF m 8 #[.val (.int iN), .val (.int iA), .val (.int iB), .val (.int iC), .val (.int (1 : Int32)), .unset, .unset, .unset, .unset] [(.ref b88)]))
    refine Go.by' (fun t k => (XS.dup X88.here hx rfl (hb hby at_8) rfl rfl k)) ?_
    show Go p.tables e below Pf (T88.setTop (mkF m 9 #[.val (.int iN), .val (.int iA), .val (.int iB), .val (.int iC), .val (.int (1 : Int32)), .unset, .unset, .unset, .unset] [(.ref b88), (.ref b88)]))
    obtain ⟨_, _, ⟨T89, L89, k89, n89⟩, -, X89, ⟨Lc89, hQ89, l89, y89, z89⟩, st89⟩ := X88.specialBack hx (y := (⟨"java/util/ArrayList", "<init>", "()V"⟩ : MethodName)) rfl hown (mvT hZ hw3) (mvT hZ hw4) (mvT hZ hw5) (by decide) (backOf (W := 1) (rmAL l Z a0 hw [] wD kD wC cC G b88 h88 n0 O88 A88 Fn88_22 Fn88_25 Fn88_40 g_b88) hZ hw5 hw2 (by decide) (by decide)) (g := (mkF m 9 #[.val (.int iN), .val (.int iA), .val (.int iB), .val (.int iC), .val (.int (1 : Int32)), .unset, .unset, .unset, .unset] [(.ref b88), (.ref b88)])) rfl (by rw [hml]; rfl) (Steps.refl _) (a := b88) (argsL := []) (rest := [(.ref b88)]) (lenOf pd_0 rfl) rfl (by show 2 * 0 + _ ≤ _; exact Nat.le_of_eq rfl) (hb hby at_9) (fun _ _ => ⟨rfl, e88, (by decide : 1 + 0 ≤ _), (by decide : 3 + 0 ≤ _)⟩)
    dsimp only [Pt.U, Pt.locs, Pt.cells, Pt.slots] at X89 l89 y89 z89 st89 hQ89
    subst l89 y89 z89
    obtain ⟨rfl, N89q, K89, f89_0, f89_1, f89_2, f89_3⟩ := hQ89
    have N89 := Fr.app N0 N89q
    refine Go.by' (fun t k => st89.trans k) ?_
    have O89 := O88.keep K89 (allS g_b88 all0)
    have KC89 : Keep h0 T89.heap [] := KC88.trans K89 (allS (Or.inr sz_b88) all0)
    show Go p.tables e below Pf (T89.setTop (mkF m 12 #[.val (.int iN), .val (.int iA), .val (.int iB), .val (.int iC), .val (.int (1 : Int32)), .unset, .unset, .unset, .unset] [(.ref b88)]))
    refine Go.by' (fun t k => (XS.astore X89.here hx rfl (hb hby at_12) rfl rfl (l' := #[.val (.int iN), .val (.int iA), .val (.int iB), .val (.int iC), .val (.int (1 : Int32)), .val (.ref b88), .unset, .unset, .unset]) rfl (XS.iload X89.here hx rfl (hb hby at_14) rfl (XS.iconst X89.here hx rfl (hb hby at_16) (XS.icmpNo X89.here hx rfl (hb hby at_17) rfl (flt (by decide)).1 (XS.aload X89.here hx rfl (hb hby at_20) rfl rfl (XS.iloadN X89.here hx rfl (hb hby at_22) rfl k))))))) ?_
    show Go p.tables e below Pf (T89.setTop (mkF m 23 #[.val (.int iN), .val (.int iA), .val (.int iB), .val (.int iC), .val (.int (1 : Int32)), .val (.ref b88), .unset, .unset, .unset] [(.int iA), (.ref b88)]))
    obtain ⟨_, _, ⟨T90, L90, k90, n90⟩, -, X90, ⟨Lc90, hQ90, l90, y90, z90⟩, st90⟩ := Jvm.LawKit.callS X89 hx (y := (⟨"java/lang/Integer", "valueOf", "(I)Ljava/lang/Integer;"⟩ : MethodName)) hown (mvT hZ hw44) (mvT hZ hw45) (mvT hZ hw46) (mvT hZ hw47) (by decide) (backOf (W := 1) (rmVO l Z a0 hw [] wD kD wC cC G iA T89.heap n0 O89 ) hZ hw47 hw46 (by decide) (by decide)) (g := (mkF m 23 #[.val (.int iN), .val (.int iA), .val (.int iB), .val (.int iC), .val (.int (1 : Int32)), .val (.ref b88), .unset, .unset, .unset] [(.int iA), (.ref b88)])) rfl (by rw [hml]; rfl) (argsL := [(.int iA)]) (rest := [(.ref b88)]) (lenOf pd_10 rfl) rfl (by show 2 * 0 + _ ≤ _; exact Nat.le_of_eq rfl) (hb hby at_23) (fun _ _ => ⟨rfl, rfl, (by decide : 1 + 1 ≤ _), (by decide : 3 + 1 ≤ _)⟩)
    dsimp only [Pt.U, Pt.locs, Pt.cells, Pt.slots] at X90 l90 y90 z90 st90 hQ90
    subst l90 y90 z90
    obtain ⟨r_90, rfl, N90q, K90, f90_0, f90_1⟩ := hQ90
    have N90 := Fr.app N89 N90q
    refine Go.by' st90 ?_
    have O90 := O89.keep K90 all0
    have KC90 : Keep h0 T90.heap [] := KC89.trans K90 all0
    show Go p.tables e below Pf (T90.setTop (mkF m 26 #[.val (.int iN), .val (.int iA), .val (.int iB), .val (.int iC), .val (.int (1 : Int32)), .val (.ref b88), .unset, .unset, .unset] [(.ref r_90), (.ref b88)]))
    obtain ⟨cq91, kq91, q91a, q91b, q91c⟩ := isOf hZ rfl (f89_0.keep K90)
    obtain ⟨_, _, ⟨T91, L91, k91, n91⟩, -, X91, ⟨Lc91, hQ91, l91, y91, z91⟩, st91⟩ := X90.virtualBack hx (y := (⟨"java/util/ArrayList", "add", "(Ljava/lang/Object;)Z"⟩ : MethodName)) (z := (⟨"java/util/ArrayList", "add", "(Ljava/lang/Object;)Z"⟩ : MethodName)) hown (mvT hZ hw65) (mvT hZ hw66) (notFace_of_selects (args := #[]) (mvT hZ hw68)) (mvT hZ hw68) (mvT hZ hw67) (by decide) (backOf (W := 0) (rmA1_0 l Z a0 hw [] wD kD wC cC G b88 r_90 ((0 : Int32)) T90.heap n0 O90 (f89_0.keep K90) (f89_3.keep K90 nin0) (f89_2.keep K90 nin0) (f89_1.keep K90 nin0) g_b88 f90_0) hZ hw69 hw2 (by decide) (by decide)) q91a q91c (g := (mkF m 26 #[.val (.int iN), .val (.int iA), .val (.int iB), .val (.int iC), .val (.int (1 : Int32)), .val (.ref b88), .unset, .unset, .unset] [(.ref r_90), (.ref b88)])) rfl (by rw [hml]; rfl) (Steps.refl _) (argsL := [(.ref r_90)]) (rest := []) (lenOf pd_11 rfl) rfl (by show 2 * 0 + _ ≤ _; exact Nat.le_of_eq rfl) (hb hby at_26) (fun _ _ => ⟨rfl, rfl, (by decide : 2 + 1 ≤ _), (by decide : 4 + 10 ≤ _)⟩)
    dsimp only [Pt.U, Pt.locs, Pt.cells, Pt.slots] at X91 l91 y91 z91 st91 hQ91
    subst l91 y91 z91
    obtain ⟨r_91, kk_91, rfl, N91q, K91, f91_0, f91_1, f91_2, f91_3, f91_4, f91_5, r91_0⟩ := hQ91
    have N91 := Fr.app N90 N91q
    refine Go.by' (fun t k => st91.trans k) ?_
    have g_r_91 : n0 ≤ r_91 := Nat.le_trans (own_le O90) f91_1
    have sz_r_91 : h0.size ≤ r_91 := Nat.le_trans KC90.1 f91_1
    have O91 := O90.keep K91 (allS g_b88 all0)
    have KC91 : Keep h0 T91.heap [] := KC90.trans K91 (allS (Or.inr sz_b88) all0)
    show Go p.tables e below Pf (T91.setTop (mkF m 29 #[.val (.int iN), .val (.int iA), .val (.int iB), .val (.int iC), .val (.int (1 : Int32)), .val (.ref b88), .unset, .unset, .unset] [(.int (1 : Int32))]))
    refine Go.by' (fun t k => (XS.pop X91.here hx rfl (hb hby at_29) rfl rfl (XS.iload X91.here hx rfl (hb hby at_30) rfl (XS.iconst X91.here hx rfl (hb hby at_32) (XS.icmpYes X91.here hx rfl (pc0 := 33) (pc' := 46) rfl (hb hby at_33) rfl (tlt (by decide)).1 (by decide) (by decide) (XS.iload X91.here hx rfl (hb hby at_46) rfl (XS.iconst X91.here hx rfl (hb hby at_48) k))))))) ?_
    show Go p.tables e below Pf (T91.setTop (mkF m 49 #[.val (.int iN), .val (.int iA), .val (.int iB), .val (.int iC), .val (.int (1 : Int32)), .val (.ref b88), .unset, .unset, .unset] [(.int (3 : Int32)), (.int (1 : Int32))]))
    refine Go.by' (fun t k => (XS.icmpYes X91.here hx rfl (pc0 := 49) (pc' := 62) rfl (hb hby at_49) rfl (tlt (by decide)).1 (by decide) (by decide) (XS.aload X91.here hx rfl (hb hby at_62) rfl rfl k))) ?_
    show Go p.tables e below Pf (T91.setTop (mkF m 64 #[.val (.int iN), .val (.int iA), .val (.int iB), .val (.int iC), .val (.int (1 : Int32)), .val (.ref b88), .unset, .unset, .unset] [(.ref b88)]))
    obtain ⟨_, _, ⟨T92, L92, k92, n92⟩, -, X92, ⟨Lc92, hQ92, l92, y92, z92⟩, st92⟩ := Jvm.LawKit.callS X91 hx (y := (⟨"com/example/usher/usher/TypeIndex", "only", "(Ljava/util/List;)I"⟩ : MethodName)) hown (mvT hZ hw26) (mvT hZ hw27) (mvT hZ hw28) (mvT hZ hw29) (by decide) (backOf (W := 0) (rmOn1 l Z a0 hw [] wD kD wC cC G b88 r_91 kk_91 (Value.null) (Value.null) (Value.null) (Value.null) (Value.null) (Value.null) (Value.null) (Value.null) (Value.null) r_90 iA T91.heap n0 O91 f91_2 f91_4 f91_3 f91_0 (f90_0.keep K91) (f90_1.keep K91 (ninS (ne_exa (f90_0.keep K91) f91_2 (by decide)) nin0))) hZ hw29 hw28 (by decide) (by decide)) (g := (mkF m 64 #[.val (.int iN), .val (.int iA), .val (.int iB), .val (.int iC), .val (.int (1 : Int32)), .val (.ref b88), .unset, .unset, .unset] [(.ref b88)])) rfl (by rw [hml]; rfl) (argsL := [(.ref b88)]) (rest := []) (lenOf pd_9 rfl) rfl (by show 2 * 0 + _ ≤ _; exact Nat.le_of_eq rfl) (hb hby at_64) (fun _ _ => ⟨rfl, rfl, (by decide : 3 + 0 ≤ _), (by decide : 14 + 0 ≤ _)⟩)
    dsimp only [Pt.U, Pt.locs, Pt.cells, Pt.slots] at X92 l92 y92 z92 st92 hQ92
    subst l92 y92 z92
    obtain ⟨rfl, rfl, e92⟩ := hQ92
    try rw [List.append_nil] at X92
    refine Go.by' st92 ?_
    show Go p.tables e below Pf (T92.setTop (mkF m 67 #[.val (.int iN), .val (.int iA), .val (.int iB), .val (.int iC), .val (.int (1 : Int32)), .val (.ref b88), .unset, .unset, .unset] [(.int iA)]))
    refine Go.by' (fun t k => (XS.istore X92.here hx rfl (hb hby at_67) rfl (l' := #[.val (.int iN), .val (.int iA), .val (.int iB), .val (.int iC), .val (.int (1 : Int32)), .val (.ref b88), .val (.int iA), .unset, .unset]) rfl (XS.iload X92.here hx rfl (hb hby at_69) rfl (XS.iconst X92.here hx rfl (hb hby at_71) (XS.icmpNo X92.here hx rfl (hb hby at_72) rfl (teq (by decide)).2 (XS.iloadN X92.here hx rfl (hb hby at_75) rfl (XS.istore X92.here hx rfl (hb hby at_76) rfl (l' := #[.val (.int iN), .val (.int iA), .val (.int iB), .val (.int iC), .val (.int (1 : Int32)), .val (.ref b88), .val (.int iA), .val (.int iA), .unset]) rfl k))))))) ?_
    show Go p.tables e below Pf (T92.setTop (mkF m 78 #[.val (.int iN), .val (.int iA), .val (.int iB), .val (.int iC), .val (.int (1 : Int32)), .val (.ref b88), .val (.int iA), .val (.int iA), .unset] []))
    refine Go.by' (fun t k => (XS.goto X92.here hx rfl (pc0 := 78) (pc' := 84) rfl (hb hby at_78) (by decide) (by decide) (XS.aload X92.here hx rfl (hb hby at_84) rfl rfl k))) ?_
    show Go p.tables e below Pf (T92.setTop (mkF m 86 #[.val (.int iN), .val (.int iA), .val (.int iB), .val (.int iC), .val (.int (1 : Int32)), .val (.ref b88), .val (.int iA), .val (.int iA), .unset] [(.ref b88)]))
    obtain ⟨cq93, kq93, q93a, q93b, q93c⟩ := isOf hZ e92 f91_2
    obtain ⟨_, _, ⟨T93, L93, k93, n93⟩, -, X93, ⟨Lc93, hQ93, l93, y93, z93⟩, st93⟩ := X92.virtualBack hx (y := (⟨"java/util/ArrayList", "size", "()I"⟩ : MethodName)) (z := (⟨"java/util/ArrayList", "size", "()I"⟩ : MethodName)) hown (mvT hZ hw41) (mvT hZ hw42) (notFace_of_selects (args := #[]) (mvT hZ hw43)) (mvT hZ hw43) (mvT hZ hw34) (by decide) (backOf (W := 0) (rmSize l Z a0 hw [] wD kD wC cC G b88 ((1 : Int32)) T91.heap n0 O91 f91_4) hZ hw38 hw2 (by decide) (by decide)) q93a q93c (g := (mkF m 86 #[.val (.int iN), .val (.int iA), .val (.int iB), .val (.int iC), .val (.int (1 : Int32)), .val (.ref b88), .val (.int iA), .val (.int iA), .unset] [(.ref b88)])) rfl (by rw [hml]; rfl) (Steps.refl _) (argsL := []) (rest := []) (lenOf pd_8 rfl) rfl (by show 2 * 0 + _ ≤ _; exact Nat.le_of_eq rfl) (hb hby at_86) (fun _ _ => ⟨rfl, e92, (by decide : 3 + 0 ≤ _), (by decide : 14 + 0 ≤ _)⟩)
    dsimp only [Pt.U, Pt.locs, Pt.cells, Pt.slots] at X93 l93 y93 z93 st93 hQ93
    subst l93 y93 z93
    obtain ⟨rfl, rfl, e93⟩ := hQ93
    try rw [List.append_nil] at X93
    refine Go.by' (fun t k => st93.trans k) ?_
    show Go p.tables e below Pf (T93.setTop (mkF m 89 #[.val (.int iN), .val (.int iA), .val (.int iB), .val (.int iC), .val (.int (1 : Int32)), .val (.ref b88), .val (.int iA), .val (.int iA), .unset] [(.int (1 : Int32))]))
    refine Go.by' (fun t k => (XS.iload X93.here hx rfl (hb hby at_89) rfl (XS.icmpNo X93.here hx rfl (hb hby at_91) rfl (teq (by decide)).2 (XS.iload X93.here hx rfl (hb hby at_94) rfl (XS.iconst X93.here hx rfl (hb hby at_96) (XS.icmpNo X93.here hx rfl (hb hby at_97) rfl (flt (by decide)).1 (XS.aload X93.here hx rfl (hb hby at_100) rfl rfl k))))))) ?_
    show Go p.tables e below Pf (T93.setTop (mkF m 102 #[.val (.int iN), .val (.int iA), .val (.int iB), .val (.int iC), .val (.int (1 : Int32)), .val (.ref b88), .val (.int iA), .val (.int iA), .unset] [(.ref b88)]))
    refine Go.by' (fun t k => (XS.iconst X93.here hx rfl (hb hby at_102) k)) ?_
    show Go p.tables e below Pf (T93.setTop (mkF m 103 #[.val (.int iN), .val (.int iA), .val (.int iB), .val (.int iC), .val (.int (1 : Int32)), .val (.ref b88), .val (.int iA), .val (.int iA), .unset] [(.int (0 : Int32)), (.ref b88)]))
    obtain ⟨cq94, kq94, q94a, q94b, q94c⟩ := isOf hZ e93 f91_2
    obtain ⟨_, _, ⟨T94, L94, k94, n94⟩, -, X94, ⟨Lc94, hQ94, l94, y94, z94⟩, st94⟩ := X93.virtualBack hx (y := (⟨"java/util/ArrayList", "get", "(I)Ljava/lang/Object;"⟩ : MethodName)) (z := (⟨"java/util/ArrayList", "get", "(I)Ljava/lang/Object;"⟩ : MethodName)) hown (mvT hZ hw94) (mvT hZ hw95) (notFace_of_selects (args := #[]) (mvT hZ hw97)) (mvT hZ hw97) (mvT hZ hw96) (by decide) (backOf (W := 0) (rmGet0 l Z a0 hw [] wD kD wC cC G b88 ((1 : Int32)) r_91 kk_91 (Value.null) (Value.null) (Value.null) (Value.null) (Value.null) (Value.null) (Value.null) (Value.null) (Value.null) r_90 T91.heap n0 O91 f91_4 (by decide) f91_2 f91_3 f91_0) hZ hw98 hw2 (by decide) (by decide)) q94a q94c (g := (mkF m 103 #[.val (.int iN), .val (.int iA), .val (.int iB), .val (.int iC), .val (.int (1 : Int32)), .val (.ref b88), .val (.int iA), .val (.int iA), .unset] [(.int (0 : Int32)), (.ref b88)])) rfl (by rw [hml]; rfl) (Steps.refl _) (argsL := [(.int (0 : Int32))]) (rest := []) (lenOf pd_7 rfl) rfl (by show 2 * 0 + _ ≤ _; exact Nat.le_of_eq rfl) (hb hby at_103) (fun _ _ => ⟨rfl, e93, (by decide : 3 + 0 ≤ _), (by decide : 14 + 0 ≤ _)⟩)
    dsimp only [Pt.U, Pt.locs, Pt.cells, Pt.slots] at X94 l94 y94 z94 st94 hQ94
    subst l94 y94 z94
    obtain ⟨rfl, rfl, e94⟩ := hQ94
    try rw [List.append_nil] at X94
    refine Go.by' (fun t k => st94.trans k) ?_
    show Go p.tables e below Pf (T94.setTop (mkF m 106 #[.val (.int iN), .val (.int iA), .val (.int iB), .val (.int iC), .val (.int (1 : Int32)), .val (.ref b88), .val (.int iA), .val (.int iA), .unset] [(.ref r_90)]))
    obtain ⟨T95, X95, e95, st95⟩ := castY X94 hx hZ hown hw112 e94 (Ins.self (f90_0.keep K91)) (g := (mkF m 106 #[.val (.int iN), .val (.int iA), .val (.int iB), .val (.int iC), .val (.int (1 : Int32)), .val (.ref b88), .val (.int iA), .val (.int iA), .unset] [(.ref r_90)])) rfl rfl (hb hby at_106)
    refine Go.by' st95 ?_
    show Go p.tables e below Pf (T95.setTop (mkF m 109 #[.val (.int iN), .val (.int iA), .val (.int iB), .val (.int iC), .val (.int (1 : Int32)), .val (.ref b88), .val (.int iA), .val (.int iA), .unset] [(.ref r_90)]))
    obtain ⟨cq96, kq96, q96a, q96b, q96c⟩ := isOf hZ e95 (f90_0.keep K91)
    obtain ⟨_, _, ⟨T96, L96, k96, n96⟩, -, X96, ⟨Lc96, hQ96, l96, y96, z96⟩, st96⟩ := X95.virtualBack hx (y := (⟨"java/lang/Integer", "intValue", "()I"⟩ : MethodName)) (z := (⟨"java/lang/Integer", "intValue", "()I"⟩ : MethodName)) hown (mvT hZ hw113) (mvT hZ hw114) (notFace_of_selects (args := #[]) (mvT hZ hw116)) (mvT hZ hw116) (mvT hZ hw115) (by decide) (backOf (W := 0) (rmIV l Z a0 hw [] wD kD wC cC G r_90 iA T91.heap n0 O91 (f90_1.keep K91 (ninS (ne_exa (f90_0.keep K91) f91_2 (by decide)) nin0))) hZ hw117 hw46 (by decide) (by decide)) q96a q96c (g := (mkF m 109 #[.val (.int iN), .val (.int iA), .val (.int iB), .val (.int iC), .val (.int (1 : Int32)), .val (.ref b88), .val (.int iA), .val (.int iA), .unset] [(.ref r_90)])) rfl (by rw [hml]; rfl) (Steps.refl _) (argsL := []) (rest := []) (lenOf pd_8 rfl) rfl (by show 2 * 0 + _ ≤ _; exact Nat.le_of_eq rfl) (hb hby at_109) (fun _ _ => ⟨rfl, e95, (by decide : 3 + 0 ≤ _), (by decide : 14 + 0 ≤ _)⟩)
    dsimp only [Pt.U, Pt.locs, Pt.cells, Pt.slots] at X96 l96 y96 z96 st96 hQ96
    subst l96 y96 z96
    obtain ⟨rfl, rfl, e96⟩ := hQ96
    try rw [List.append_nil] at X96
    refine Go.by' (fun t k => st96.trans k) ?_
    show Go p.tables e below Pf (T96.setTop (mkF m 112 #[.val (.int iN), .val (.int iA), .val (.int iB), .val (.int iC), .val (.int (1 : Int32)), .val (.ref b88), .val (.int iA), .val (.int iA), .unset] [(.int iA)]))
    refine Go.by' (fun t k => (XS.iloadN X96.here hx rfl (hb hby at_112) rfl (XS.icmpNo X96.here hx rfl (hb hby at_113) rfl (teq rfl).2 (XS.iconst X96.here hx rfl (hb hby at_116) (XS.goto X96.here hx rfl (pc0 := 117) (pc' := 121) rfl (hb hby at_117) (by decide) (by decide) (XS.istore X96.here hx rfl (hb hby at_121) rfl (l' := #[.val (.int iN), .val (.int iA), .val (.int iB), .val (.int iC), .val (.int (1 : Int32)), .val (.ref b88), .val (.int iA), .val (.int iA), .val (.int (1 : Int32))]) rfl (XS.iload X96.here hx rfl (hb hby at_123) rfl k))))))) ?_
    show Go p.tables e below Pf (T96.setTop (mkF m 125 #[.val (.int iN), .val (.int iA), .val (.int iB), .val (.int iC), .val (.int (1 : Int32)), .val (.ref b88), .val (.int iA), .val (.int iA), .val (.int (1 : Int32))] [(.int iA)]))
    refine Go.by' (fun t k => (XS.iload X96.here hx rfl (hb hby at_125) rfl (XS.icmpNo X96.here hx rfl (hb hby at_127) rfl (teq rfl).2 (XS.iload X96.here hx rfl (hb hby at_130) rfl (XS.ifNo X96.here hx rfl (hb hby at_132) rfl ((if0 _ _).trans (feq (by decide)).1) (XS.iconst X96.here hx rfl (hb hby at_135) (XS.goto X96.here hx rfl (pc0 := 136) (pc' := 140) rfl (hb hby at_136) (by decide) (by decide) k))))))) ?_
    show Go p.tables e below Pf (T96.setTop (mkF m 140 #[.val (.int iN), .val (.int iA), .val (.int iB), .val (.int iC), .val (.int (1 : Int32)), .val (.ref b88), .val (.int iA), .val (.int iA), .val (.int (1 : Int32))] [(.int (1 : Int32))]))
    rw [hPf]
    exact Go.retI' X96 hx hret hlk (by simp) rfl (hb hby at_140) (by decide) (by decide) ⟨rfl, N91, (by rw [e96]; exact KC91)⟩
  · refine Go.castF (fun z' => mkF m 5 #[.val (.int iN), .val (.int iA), .val (.int iB), .val (.int iC), .val (.int z'), .unset, .unset, .unset, .unset] []) (hk : (iN &&& (3 : Int32)) = (2 : Int32)) ?_
    show Go p.tables e below Pf (s₁.setTop (mkF m 5 #[.val (.int iN), .val (.int iA), .val (.int iB), .val (.int iC), .val (.int (2 : Int32)), .unset, .unset, .unset, .unset] []))
    obtain ⟨T97, h97, X97, e97, E97, A97, D97, -, st97⟩ := newO X0 hx hZ hown hw0 hw1 hw2 e0 (g := (mkF m 5 #[.val (.int iN), .val (.int iA), .val (.int iB), .val (.int iC), .val (.int (2 : Int32)), .unset, .unset, .unset, .unset] [])) rfl (hb hby at_5) (by decide) (by decide)
    obtain ⟨b97, g97⟩ : ∃ z, z = h0.size := ⟨_, rfl⟩
    rw [← g97] at A97 D97 st97
    refine Go.by' st97 ?_
    have g_b97 : n0 ≤ b97 := Nat.le_trans (own_le O0) (Nat.le_of_eq g97.symm)
    have sz_b97 : h0.size ≤ b97 := Nat.le_trans KC0.1 (Nat.le_of_eq g97.symm)
    have O97 := O0.ext E97
    have KC97 : Keep h0 h97 [] := KC0.ext E97
    have Fn97_22 : Fld Z h97 b97 "java/util/AbstractList" "modCount" "I" (Value.int (0 : Int32)) := D97 (Or.inl hw22) (ty := .int) (by decide)
    have Fn97_25 : Fld Z h97 b97 "java/util/ArrayList" "elementData" "[Ljava/lang/Object;" Value.null := D97 (Or.inl hw25) (ty := (.array (.object "java/lang/Object"))) (by decide)
    have Fn97_40 : Fld Z h97 b97 "java/util/ArrayList" "size" "I" (Value.int (0 : Int32)) := D97 (Or.inl hw40) (ty := .int) (by decide)
    show Go p.tables e below Pf (T97.setTop (mkF m 8 #[.val (.int iN), .val (.int iA), .val (.int iB), .val (.int iC), .val (.int (2 : Int32)), .unset, .unset, .unset, .unset] [(.ref b97)]))
    refine Go.by' (fun t k => (XS.dup X97.here hx rfl (hb hby at_8) rfl rfl k)) ?_
    show Go p.tables e below Pf (T97.setTop (mkF m 9 #[.val (.int iN), .val (.int iA), .val (.int iB), .val (.int iC), .val (.int (2 : Int32)), .unset, .unset, .unset, .unset] [(.ref b97), (.ref b97)]))
    obtain ⟨_, _, ⟨T98, L98, k98, n98⟩, -, X98, ⟨Lc98, hQ98, l98, y98, z98⟩, st98⟩ := X97.specialBack hx (y := (⟨"java/util/ArrayList", "<init>", "()V"⟩ : MethodName)) rfl hown (mvT hZ hw3) (mvT hZ hw4) (mvT hZ hw5) (by decide) (backOf (W := 1) (rmAL l Z a0 hw [] wD kD wC cC G b97 h97 n0 O97 A97 Fn97_22 Fn97_25 Fn97_40 g_b97) hZ hw5 hw2 (by decide) (by decide)) (g := (mkF m 9 #[.val (.int iN), .val (.int iA), .val (.int iB), .val (.int iC), .val (.int (2 : Int32)), .unset, .unset, .unset, .unset] [(.ref b97), (.ref b97)])) rfl (by rw [hml]; rfl) (Steps.refl _) (a := b97) (argsL := []) (rest := [(.ref b97)]) (lenOf pd_0 rfl) rfl (by show 2 * 0 + _ ≤ _; exact Nat.le_of_eq rfl) (hb hby at_9) (fun _ _ => ⟨rfl, e97, (by decide : 1 + 0 ≤ _), (by decide : 3 + 0 ≤ _)⟩)
    dsimp only [Pt.U, Pt.locs, Pt.cells, Pt.slots] at X98 l98 y98 z98 st98 hQ98
    subst l98 y98 z98
    obtain ⟨rfl, N98q, K98, f98_0, f98_1, f98_2, f98_3⟩ := hQ98
    have N98 := Fr.app N0 N98q
    refine Go.by' (fun t k => st98.trans k) ?_
    have O98 := O97.keep K98 (allS g_b97 all0)
    have KC98 : Keep h0 T98.heap [] := KC97.trans K98 (allS (Or.inr sz_b97) all0)
    show Go p.tables e below Pf (T98.setTop (mkF m 12 #[.val (.int iN), .val (.int iA), .val (.int iB), .val (.int iC), .val (.int (2 : Int32)), .unset, .unset, .unset, .unset] [(.ref b97)]))
    refine Go.by' (fun t k => (XS.astore X98.here hx rfl (hb hby at_12) rfl rfl (l' := #[.val (.int iN), .val (.int iA), .val (.int iB), .val (.int iC), .val (.int (2 : Int32)), .val (.ref b97), .unset, .unset, .unset]) rfl (XS.iload X98.here hx rfl (hb hby at_14) rfl (XS.iconst X98.here hx rfl (hb hby at_16) (XS.icmpNo X98.here hx rfl (hb hby at_17) rfl (flt (by decide)).1 (XS.aload X98.here hx rfl (hb hby at_20) rfl rfl (XS.iloadN X98.here hx rfl (hb hby at_22) rfl k))))))) ?_
    show Go p.tables e below Pf (T98.setTop (mkF m 23 #[.val (.int iN), .val (.int iA), .val (.int iB), .val (.int iC), .val (.int (2 : Int32)), .val (.ref b97), .unset, .unset, .unset] [(.int iA), (.ref b97)]))
    obtain ⟨_, _, ⟨T99, L99, k99, n99⟩, -, X99, ⟨Lc99, hQ99, l99, y99, z99⟩, st99⟩ := Jvm.LawKit.callS X98 hx (y := (⟨"java/lang/Integer", "valueOf", "(I)Ljava/lang/Integer;"⟩ : MethodName)) hown (mvT hZ hw44) (mvT hZ hw45) (mvT hZ hw46) (mvT hZ hw47) (by decide) (backOf (W := 1) (rmVO l Z a0 hw [] wD kD wC cC G iA T98.heap n0 O98 ) hZ hw47 hw46 (by decide) (by decide)) (g := (mkF m 23 #[.val (.int iN), .val (.int iA), .val (.int iB), .val (.int iC), .val (.int (2 : Int32)), .val (.ref b97), .unset, .unset, .unset] [(.int iA), (.ref b97)])) rfl (by rw [hml]; rfl) (argsL := [(.int iA)]) (rest := [(.ref b97)]) (lenOf pd_10 rfl) rfl (by show 2 * 0 + _ ≤ _; exact Nat.le_of_eq rfl) (hb hby at_23) (fun _ _ => ⟨rfl, rfl, (by decide : 1 + 1 ≤ _), (by decide : 3 + 1 ≤ _)⟩)
    dsimp only [Pt.U, Pt.locs, Pt.cells, Pt.slots] at X99 l99 y99 z99 st99 hQ99
    subst l99 y99 z99
    obtain ⟨r_99, rfl, N99q, K99, f99_0, f99_1⟩ := hQ99
    have N99 := Fr.app N98 N99q
    refine Go.by' st99 ?_
    have O99 := O98.keep K99 all0
    have KC99 : Keep h0 T99.heap [] := KC98.trans K99 all0
    show Go p.tables e below Pf (T99.setTop (mkF m 26 #[.val (.int iN), .val (.int iA), .val (.int iB), .val (.int iC), .val (.int (2 : Int32)), .val (.ref b97), .unset, .unset, .unset] [(.ref r_99), (.ref b97)]))
    obtain ⟨cq100, kq100, q100a, q100b, q100c⟩ := isOf hZ rfl (f98_0.keep K99)
    obtain ⟨_, _, ⟨T100, L100, k100, n100⟩, -, X100, ⟨Lc100, hQ100, l100, y100, z100⟩, st100⟩ := X99.virtualBack hx (y := (⟨"java/util/ArrayList", "add", "(Ljava/lang/Object;)Z"⟩ : MethodName)) (z := (⟨"java/util/ArrayList", "add", "(Ljava/lang/Object;)Z"⟩ : MethodName)) hown (mvT hZ hw65) (mvT hZ hw66) (notFace_of_selects (args := #[]) (mvT hZ hw68)) (mvT hZ hw68) (mvT hZ hw67) (by decide) (backOf (W := 0) (rmA1_0 l Z a0 hw [] wD kD wC cC G b97 r_99 ((0 : Int32)) T99.heap n0 O99 (f98_0.keep K99) (f98_3.keep K99 nin0) (f98_2.keep K99 nin0) (f98_1.keep K99 nin0) g_b97 f99_0) hZ hw69 hw2 (by decide) (by decide)) q100a q100c (g := (mkF m 26 #[.val (.int iN), .val (.int iA), .val (.int iB), .val (.int iC), .val (.int (2 : Int32)), .val (.ref b97), .unset, .unset, .unset] [(.ref r_99), (.ref b97)])) rfl (by rw [hml]; rfl) (Steps.refl _) (argsL := [(.ref r_99)]) (rest := []) (lenOf pd_11 rfl) rfl (by show 2 * 0 + _ ≤ _; exact Nat.le_of_eq rfl) (hb hby at_26) (fun _ _ => ⟨rfl, rfl, (by decide : 2 + 1 ≤ _), (by decide : 4 + 10 ≤ _)⟩)
    dsimp only [Pt.U, Pt.locs, Pt.cells, Pt.slots] at X100 l100 y100 z100 st100 hQ100
    subst l100 y100 z100
    obtain ⟨r_100, kk_100, rfl, N100q, K100, f100_0, f100_1, f100_2, f100_3, f100_4, f100_5, r100_0⟩ := hQ100
    have N100 := Fr.app N99 N100q
    refine Go.by' (fun t k => st100.trans k) ?_
    have g_r_100 : n0 ≤ r_100 := Nat.le_trans (own_le O99) f100_1
    have sz_r_100 : h0.size ≤ r_100 := Nat.le_trans KC99.1 f100_1
    have O100 := O99.keep K100 (allS g_b97 all0)
    have KC100 : Keep h0 T100.heap [] := KC99.trans K100 (allS (Or.inr sz_b97) all0)
    show Go p.tables e below Pf (T100.setTop (mkF m 29 #[.val (.int iN), .val (.int iA), .val (.int iB), .val (.int iC), .val (.int (2 : Int32)), .val (.ref b97), .unset, .unset, .unset] [(.int (1 : Int32))]))
    refine Go.by' (fun t k => (XS.pop X100.here hx rfl (hb hby at_29) rfl rfl (XS.iload X100.here hx rfl (hb hby at_30) rfl (XS.iconst X100.here hx rfl (hb hby at_32) (XS.icmpNo X100.here hx rfl (hb hby at_33) rfl (flt (by decide)).1 (XS.aload X100.here hx rfl (hb hby at_36) rfl rfl (XS.iloadN X100.here hx rfl (hb hby at_38) rfl k))))))) ?_
    show Go p.tables e below Pf (T100.setTop (mkF m 39 #[.val (.int iN), .val (.int iA), .val (.int iB), .val (.int iC), .val (.int (2 : Int32)), .val (.ref b97), .unset, .unset, .unset] [(.int iB), (.ref b97)]))
    obtain ⟨_, _, ⟨T101, L101, k101, n101⟩, -, X101, ⟨Lc101, hQ101, l101, y101, z101⟩, st101⟩ := Jvm.LawKit.callS X100 hx (y := (⟨"java/lang/Integer", "valueOf", "(I)Ljava/lang/Integer;"⟩ : MethodName)) hown (mvT hZ hw44) (mvT hZ hw45) (mvT hZ hw46) (mvT hZ hw47) (by decide) (backOf (W := 1) (rmVO l Z a0 hw [] wD kD wC cC G iB T100.heap n0 O100 ) hZ hw47 hw46 (by decide) (by decide)) (g := (mkF m 39 #[.val (.int iN), .val (.int iA), .val (.int iB), .val (.int iC), .val (.int (2 : Int32)), .val (.ref b97), .unset, .unset, .unset] [(.int iB), (.ref b97)])) rfl (by rw [hml]; rfl) (argsL := [(.int iB)]) (rest := [(.ref b97)]) (lenOf pd_10 rfl) rfl (by show 2 * 0 + _ ≤ _; exact Nat.le_of_eq rfl) (hb hby at_39) (fun _ _ => ⟨rfl, rfl, (by decide : 3 + 1 ≤ _), (by decide : 14 + 1 ≤ _)⟩)
    dsimp only [Pt.U, Pt.locs, Pt.cells, Pt.slots] at X101 l101 y101 z101 st101 hQ101
    subst l101 y101 z101
    obtain ⟨r_101, rfl, N101q, K101, f101_0, f101_1⟩ := hQ101
    have N101 := Fr.app N100 N101q
    refine Go.by' st101 ?_
    have O101 := O100.keep K101 all0
    have KC101 : Keep h0 T101.heap [] := KC100.trans K101 all0
    show Go p.tables e below Pf (T101.setTop (mkF m 42 #[.val (.int iN), .val (.int iA), .val (.int iB), .val (.int iC), .val (.int (2 : Int32)), .val (.ref b97), .unset, .unset, .unset] [(.ref r_101), (.ref b97)]))
    obtain ⟨cq102, kq102, q102a, q102b, q102c⟩ := isOf hZ rfl (f100_2.keep K101)
    obtain ⟨_, _, ⟨T102, L102, k102, n102⟩, -, X102, ⟨Lc102, hQ102, l102, y102, z102⟩, st102⟩ := X101.virtualBack hx (y := (⟨"java/util/ArrayList", "add", "(Ljava/lang/Object;)Z"⟩ : MethodName)) (z := (⟨"java/util/ArrayList", "add", "(Ljava/lang/Object;)Z"⟩ : MethodName)) hown (mvT hZ hw65) (mvT hZ hw66) (notFace_of_selects (args := #[]) (mvT hZ hw68)) (mvT hZ hw68) (mvT hZ hw67) (by decide) (backOf (W := 0) (rmA1_1 l Z a0 hw [] wD kD wC cC G b97 r_101 (((0 : Int32) + (1 : Int32))) r_100 kk_100 r_99 T101.heap n0 O101 (f100_2.keep K101) (f100_4.keep K101 nin0) (f100_3.keep K101 nin0) (f100_5.keep K101 nin0) g_b97 g_r_100 (f100_0.keep K101 nin0) f101_0 (Nat.ne_of_lt (Nat.lt_of_lt_of_le (Nat.lt_of_lt_of_le A97.lt (Nat.le_trans K98.1 K99.1)) f100_1)) r100_0) hZ hw69 hw2 (by decide) (by decide)) q102a q102c (g := (mkF m 42 #[.val (.int iN), .val (.int iA), .val (.int iB), .val (.int iC), .val (.int (2 : Int32)), .val (.ref b97), .unset, .unset, .unset] [(.ref r_101), (.ref b97)])) rfl (by rw [hml]; rfl) (Steps.refl _) (argsL := [(.ref r_101)]) (rest := []) (lenOf pd_11 rfl) rfl (by show 2 * 0 + _ ≤ _; exact Nat.le_of_eq rfl) (hb hby at_42) (fun _ _ => ⟨rfl, rfl, (by decide : 4 + 0 ≤ _), (by decide : 15 + 0 ≤ _)⟩)
    dsimp only [Pt.U, Pt.locs, Pt.cells, Pt.slots] at X102 l102 y102 z102 st102 hQ102
    subst l102 y102 z102
    obtain ⟨rfl, N102q, K102, f102_0, f102_1, f102_2, f102_3, f102_4⟩ := hQ102
    have N102 := Fr.app N101 N102q
    refine Go.by' (fun t k => st102.trans k) ?_
    have O102 := O101.keep K102 (allS g_b97 (allS g_r_100 all0))
    have KC102 : Keep h0 T102.heap [] := KC101.trans K102 (allS (Or.inr sz_b97) (allS (Or.inr sz_r_100) all0))
    show Go p.tables e below Pf (T102.setTop (mkF m 45 #[.val (.int iN), .val (.int iA), .val (.int iB), .val (.int iC), .val (.int (2 : Int32)), .val (.ref b97), .unset, .unset, .unset] [(.int (1 : Int32))]))
    refine Go.by' (fun t k => (XS.pop X102.here hx rfl (hb hby at_45) rfl rfl (XS.iload X102.here hx rfl (hb hby at_46) rfl (XS.iconst X102.here hx rfl (hb hby at_48) (XS.icmpYes X102.here hx rfl (pc0 := 49) (pc' := 62) rfl (hb hby at_49) rfl (tlt (by decide)).1 (by decide) (by decide) (XS.aload X102.here hx rfl (hb hby at_62) rfl rfl k)))))) ?_
    show Go p.tables e below Pf (T102.setTop (mkF m 64 #[.val (.int iN), .val (.int iA), .val (.int iB), .val (.int iC), .val (.int (2 : Int32)), .val (.ref b97), .unset, .unset, .unset] [(.ref b97)]))
    obtain ⟨_, _, ⟨T103, L103, k103, n103⟩, -, X103, ⟨Lc103, hQ103, l103, y103, z103⟩, st103⟩ := Jvm.LawKit.callS X102 hx (y := (⟨"com/example/usher/usher/TypeIndex", "only", "(Ljava/util/List;)I"⟩ : MethodName)) hown (mvT hZ hw26) (mvT hZ hw27) (mvT hZ hw28) (mvT hZ hw29) (by decide) (backOf (W := 0) (rmOnx l Z a0 hw [] wD kD wC cC G b97 ((2 : Int32)) T102.heap n0 O102 f102_1 f102_3 (by decide)) hZ hw29 hw28 (by decide) (by decide)) (g := (mkF m 64 #[.val (.int iN), .val (.int iA), .val (.int iB), .val (.int iC), .val (.int (2 : Int32)), .val (.ref b97), .unset, .unset, .unset] [(.ref b97)])) rfl (by rw [hml]; rfl) (argsL := [(.ref b97)]) (rest := []) (lenOf pd_9 rfl) rfl (by show 2 * 0 + _ ≤ _; exact Nat.le_of_eq rfl) (hb hby at_64) (fun _ _ => ⟨rfl, rfl, (by decide : 4 + 0 ≤ _), (by decide : 15 + 0 ≤ _)⟩)
    dsimp only [Pt.U, Pt.locs, Pt.cells, Pt.slots] at X103 l103 y103 z103 st103 hQ103
    subst l103 y103 z103
    obtain ⟨rfl, rfl, e103⟩ := hQ103
    try rw [List.append_nil] at X103
    refine Go.by' st103 ?_
    show Go p.tables e below Pf (T103.setTop (mkF m 67 #[.val (.int iN), .val (.int iA), .val (.int iB), .val (.int iC), .val (.int (2 : Int32)), .val (.ref b97), .unset, .unset, .unset] [(.int (-1 : Int32))]))
    refine Go.by' (fun t k => (XS.istore X103.here hx rfl (hb hby at_67) rfl (l' := #[.val (.int iN), .val (.int iA), .val (.int iB), .val (.int iC), .val (.int (2 : Int32)), .val (.ref b97), .val (.int (-1 : Int32)), .unset, .unset]) rfl (XS.iload X103.here hx rfl (hb hby at_69) rfl (XS.iconst X103.here hx rfl (hb hby at_71) (XS.icmpYes X103.here hx rfl (pc0 := 72) (pc' := 81) rfl (hb hby at_72) rfl (feq (by decide)).2 (by decide) (by decide) (XS.iconst X103.here hx rfl (hb hby at_81) (XS.istore X103.here hx rfl (hb hby at_82) rfl (l' := #[.val (.int iN), .val (.int iA), .val (.int iB), .val (.int iC), .val (.int (2 : Int32)), .val (.ref b97), .val (.int (-1 : Int32)), .val (.int (-1 : Int32)), .unset]) rfl k))))))) ?_
    show Go p.tables e below Pf (T103.setTop (mkF m 84 #[.val (.int iN), .val (.int iA), .val (.int iB), .val (.int iC), .val (.int (2 : Int32)), .val (.ref b97), .val (.int (-1 : Int32)), .val (.int (-1 : Int32)), .unset] []))
    refine Go.by' (fun t k => (XS.aload X103.here hx rfl (hb hby at_84) rfl rfl k)) ?_
    show Go p.tables e below Pf (T103.setTop (mkF m 86 #[.val (.int iN), .val (.int iA), .val (.int iB), .val (.int iC), .val (.int (2 : Int32)), .val (.ref b97), .val (.int (-1 : Int32)), .val (.int (-1 : Int32)), .unset] [(.ref b97)]))
    obtain ⟨cq104, kq104, q104a, q104b, q104c⟩ := isOf hZ e103 f102_1
    obtain ⟨_, _, ⟨T104, L104, k104, n104⟩, -, X104, ⟨Lc104, hQ104, l104, y104, z104⟩, st104⟩ := X103.virtualBack hx (y := (⟨"java/util/ArrayList", "size", "()I"⟩ : MethodName)) (z := (⟨"java/util/ArrayList", "size", "()I"⟩ : MethodName)) hown (mvT hZ hw41) (mvT hZ hw42) (notFace_of_selects (args := #[]) (mvT hZ hw43)) (mvT hZ hw43) (mvT hZ hw34) (by decide) (backOf (W := 0) (rmSize l Z a0 hw [] wD kD wC cC G b97 ((2 : Int32)) T102.heap n0 O102 f102_3) hZ hw38 hw2 (by decide) (by decide)) q104a q104c (g := (mkF m 86 #[.val (.int iN), .val (.int iA), .val (.int iB), .val (.int iC), .val (.int (2 : Int32)), .val (.ref b97), .val (.int (-1 : Int32)), .val (.int (-1 : Int32)), .unset] [(.ref b97)])) rfl (by rw [hml]; rfl) (Steps.refl _) (argsL := []) (rest := []) (lenOf pd_8 rfl) rfl (by show 2 * 0 + _ ≤ _; exact Nat.le_of_eq rfl) (hb hby at_86) (fun _ _ => ⟨rfl, e103, (by decide : 4 + 0 ≤ _), (by decide : 15 + 0 ≤ _)⟩)
    dsimp only [Pt.U, Pt.locs, Pt.cells, Pt.slots] at X104 l104 y104 z104 st104 hQ104
    subst l104 y104 z104
    obtain ⟨rfl, rfl, e104⟩ := hQ104
    try rw [List.append_nil] at X104
    refine Go.by' (fun t k => st104.trans k) ?_
    show Go p.tables e below Pf (T104.setTop (mkF m 89 #[.val (.int iN), .val (.int iA), .val (.int iB), .val (.int iC), .val (.int (2 : Int32)), .val (.ref b97), .val (.int (-1 : Int32)), .val (.int (-1 : Int32)), .unset] [(.int (2 : Int32))]))
    refine Go.by' (fun t k => (XS.iload X104.here hx rfl (hb hby at_89) rfl (XS.icmpNo X104.here hx rfl (hb hby at_91) rfl (teq (by decide)).2 (XS.iload X104.here hx rfl (hb hby at_94) rfl (XS.iconst X104.here hx rfl (hb hby at_96) (XS.icmpNo X104.here hx rfl (hb hby at_97) rfl (flt (by decide)).1 (XS.aload X104.here hx rfl (hb hby at_100) rfl rfl k))))))) ?_
    show Go p.tables e below Pf (T104.setTop (mkF m 102 #[.val (.int iN), .val (.int iA), .val (.int iB), .val (.int iC), .val (.int (2 : Int32)), .val (.ref b97), .val (.int (-1 : Int32)), .val (.int (-1 : Int32)), .unset] [(.ref b97)]))
    refine Go.by' (fun t k => (XS.iconst X104.here hx rfl (hb hby at_102) k)) ?_
    show Go p.tables e below Pf (T104.setTop (mkF m 103 #[.val (.int iN), .val (.int iA), .val (.int iB), .val (.int iC), .val (.int (2 : Int32)), .val (.ref b97), .val (.int (-1 : Int32)), .val (.int (-1 : Int32)), .unset] [(.int (0 : Int32)), (.ref b97)]))
    obtain ⟨cq105, kq105, q105a, q105b, q105c⟩ := isOf hZ e104 f102_1
    obtain ⟨_, _, ⟨T105, L105, k105, n105⟩, -, X105, ⟨Lc105, hQ105, l105, y105, z105⟩, st105⟩ := X104.virtualBack hx (y := (⟨"java/util/ArrayList", "get", "(I)Ljava/lang/Object;"⟩ : MethodName)) (z := (⟨"java/util/ArrayList", "get", "(I)Ljava/lang/Object;"⟩ : MethodName)) hown (mvT hZ hw94) (mvT hZ hw95) (notFace_of_selects (args := #[]) (mvT hZ hw97)) (mvT hZ hw97) (mvT hZ hw96) (by decide) (backOf (W := 0) (rmGet0 l Z a0 hw [] wD kD wC cC G b97 ((2 : Int32)) r_100 kk_100 ((Value.ref r_101)) (Value.null) (Value.null) (Value.null) (Value.null) (Value.null) (Value.null) (Value.null) (Value.null) r_99 T102.heap n0 O102 f102_3 (by decide) f102_1 f102_2 f102_0) hZ hw98 hw2 (by decide) (by decide)) q105a q105c (g := (mkF m 103 #[.val (.int iN), .val (.int iA), .val (.int iB), .val (.int iC), .val (.int (2 : Int32)), .val (.ref b97), .val (.int (-1 : Int32)), .val (.int (-1 : Int32)), .unset] [(.int (0 : Int32)), (.ref b97)])) rfl (by rw [hml]; rfl) (Steps.refl _) (argsL := [(.int (0 : Int32))]) (rest := []) (lenOf pd_7 rfl) rfl (by show 2 * 0 + _ ≤ _; exact Nat.le_of_eq rfl) (hb hby at_103) (fun _ _ => ⟨rfl, e104, (by decide : 4 + 0 ≤ _), (by decide : 15 + 0 ≤ _)⟩)
    dsimp only [Pt.U, Pt.locs, Pt.cells, Pt.slots] at X105 l105 y105 z105 st105 hQ105
    subst l105 y105 z105
    obtain ⟨rfl, rfl, e105⟩ := hQ105
    try rw [List.append_nil] at X105
    refine Go.by' (fun t k => st105.trans k) ?_
    show Go p.tables e below Pf (T105.setTop (mkF m 106 #[.val (.int iN), .val (.int iA), .val (.int iB), .val (.int iC), .val (.int (2 : Int32)), .val (.ref b97), .val (.int (-1 : Int32)), .val (.int (-1 : Int32)), .unset] [(.ref r_99)]))
    have c106 := (((f99_0.keep K100).keep K101).keep K102)
    obtain ⟨T107, X107, e107, st107⟩ := castY X105 hx hZ hown hw112 e105 (Ins.self c106) (g := (mkF m 106 #[.val (.int iN), .val (.int iA), .val (.int iB), .val (.int iC), .val (.int (2 : Int32)), .val (.ref b97), .val (.int (-1 : Int32)), .val (.int (-1 : Int32)), .unset] [(.ref r_99)])) rfl rfl (hb hby at_106)
    refine Go.by' st107 ?_
    show Go p.tables e below Pf (T107.setTop (mkF m 109 #[.val (.int iN), .val (.int iA), .val (.int iB), .val (.int iC), .val (.int (2 : Int32)), .val (.ref b97), .val (.int (-1 : Int32)), .val (.int (-1 : Int32)), .unset] [(.ref r_99)]))
    have c109 := (((f99_1.keep K100 (ninS (ne_exa c106 f102_1 (by decide)) nin0)).keep K101 nin0).keep K102 (ninS (ne_exa c106 f102_1 (by decide)) (ninS (Nat.ne_of_lt (Nat.lt_of_lt_of_le f99_0.lt f100_1)) nin0)))
    obtain ⟨cq108, kq108, q108a, q108b, q108c⟩ := isOf hZ e107 c106
    obtain ⟨_, _, ⟨T108, L108, k108, n108⟩, -, X108, ⟨Lc108, hQ108, l108, y108, z108⟩, st108⟩ := X107.virtualBack hx (y := (⟨"java/lang/Integer", "intValue", "()I"⟩ : MethodName)) (z := (⟨"java/lang/Integer", "intValue", "()I"⟩ : MethodName)) hown (mvT hZ hw113) (mvT hZ hw114) (notFace_of_selects (args := #[]) (mvT hZ hw116)) (mvT hZ hw116) (mvT hZ hw115) (by decide) (backOf (W := 0) (rmIV l Z a0 hw [] wD kD wC cC G r_99 iA T102.heap n0 O102 c109) hZ hw117 hw46 (by decide) (by decide)) q108a q108c (g := (mkF m 109 #[.val (.int iN), .val (.int iA), .val (.int iB), .val (.int iC), .val (.int (2 : Int32)), .val (.ref b97), .val (.int (-1 : Int32)), .val (.int (-1 : Int32)), .unset] [(.ref r_99)])) rfl (by rw [hml]; rfl) (Steps.refl _) (argsL := []) (rest := []) (lenOf pd_8 rfl) rfl (by show 2 * 0 + _ ≤ _; exact Nat.le_of_eq rfl) (hb hby at_109) (fun _ _ => ⟨rfl, e107, (by decide : 4 + 0 ≤ _), (by decide : 15 + 0 ≤ _)⟩)
    dsimp only [Pt.U, Pt.locs, Pt.cells, Pt.slots] at X108 l108 y108 z108 st108 hQ108
    subst l108 y108 z108
    obtain ⟨rfl, rfl, e108⟩ := hQ108
    try rw [List.append_nil] at X108
    refine Go.by' (fun t k => st108.trans k) ?_
    show Go p.tables e below Pf (T108.setTop (mkF m 112 #[.val (.int iN), .val (.int iA), .val (.int iB), .val (.int iC), .val (.int (2 : Int32)), .val (.ref b97), .val (.int (-1 : Int32)), .val (.int (-1 : Int32)), .unset] [(.int iA)]))
    refine Go.by' (fun t k => (XS.iloadN X108.here hx rfl (hb hby at_112) rfl (XS.icmpNo X108.here hx rfl (hb hby at_113) rfl (teq rfl).2 (XS.iconst X108.here hx rfl (hb hby at_116) (XS.goto X108.here hx rfl (pc0 := 117) (pc' := 121) rfl (hb hby at_117) (by decide) (by decide) (XS.istore X108.here hx rfl (hb hby at_121) rfl (l' := #[.val (.int iN), .val (.int iA), .val (.int iB), .val (.int iC), .val (.int (2 : Int32)), .val (.ref b97), .val (.int (-1 : Int32)), .val (.int (-1 : Int32)), .val (.int (1 : Int32))]) rfl (XS.iload X108.here hx rfl (hb hby at_123) rfl k))))))) ?_
    show Go p.tables e below Pf (T108.setTop (mkF m 125 #[.val (.int iN), .val (.int iA), .val (.int iB), .val (.int iC), .val (.int (2 : Int32)), .val (.ref b97), .val (.int (-1 : Int32)), .val (.int (-1 : Int32)), .val (.int (1 : Int32))] [(.int (-1 : Int32))]))
    refine Go.by' (fun t k => (XS.iload X108.here hx rfl (hb hby at_125) rfl (XS.icmpNo X108.here hx rfl (hb hby at_127) rfl (teq (by decide)).2 (XS.iload X108.here hx rfl (hb hby at_130) rfl (XS.ifNo X108.here hx rfl (hb hby at_132) rfl ((if0 _ _).trans (feq (by decide)).1) (XS.iconst X108.here hx rfl (hb hby at_135) (XS.goto X108.here hx rfl (pc0 := 136) (pc' := 140) rfl (hb hby at_136) (by decide) (by decide) k))))))) ?_
    show Go p.tables e below Pf (T108.setTop (mkF m 140 #[.val (.int iN), .val (.int iA), .val (.int iB), .val (.int iC), .val (.int (2 : Int32)), .val (.ref b97), .val (.int (-1 : Int32)), .val (.int (-1 : Int32)), .val (.int (1 : Int32))] [(.int (1 : Int32))]))
    rw [hPf]
    exact Go.retI' X108 hx hret hlk (by simp) rfl (hb hby at_140) (by decide) (by decide) ⟨rfl, N102, (by rw [e108]; exact KC102)⟩
  · refine Go.castF (fun z' => mkF m 5 #[.val (.int iN), .val (.int iA), .val (.int iB), .val (.int iC), .val (.int z'), .unset, .unset, .unset, .unset] []) (hk : (iN &&& (3 : Int32)) = (3 : Int32)) ?_
    show Go p.tables e below Pf (s₁.setTop (mkF m 5 #[.val (.int iN), .val (.int iA), .val (.int iB), .val (.int iC), .val (.int (3 : Int32)), .unset, .unset, .unset, .unset] []))
    obtain ⟨T110, h110, X110, e110, E110, A110, D110, -, st110⟩ := newO X0 hx hZ hown hw0 hw1 hw2 e0 (g := (mkF m 5 #[.val (.int iN), .val (.int iA), .val (.int iB), .val (.int iC), .val (.int (3 : Int32)), .unset, .unset, .unset, .unset] [])) rfl (hb hby at_5) (by decide) (by decide)
    obtain ⟨b110, g110⟩ : ∃ z, z = h0.size := ⟨_, rfl⟩
    rw [← g110] at A110 D110 st110
    refine Go.by' st110 ?_
    have g_b110 : n0 ≤ b110 := Nat.le_trans (own_le O0) (Nat.le_of_eq g110.symm)
    have sz_b110 : h0.size ≤ b110 := Nat.le_trans KC0.1 (Nat.le_of_eq g110.symm)
    have O110 := O0.ext E110
    have KC110 : Keep h0 h110 [] := KC0.ext E110
    have Fn110_22 : Fld Z h110 b110 "java/util/AbstractList" "modCount" "I" (Value.int (0 : Int32)) := D110 (Or.inl hw22) (ty := .int) (by decide)
    have Fn110_25 : Fld Z h110 b110 "java/util/ArrayList" "elementData" "[Ljava/lang/Object;" Value.null := D110 (Or.inl hw25) (ty := (.array (.object "java/lang/Object"))) (by decide)
    have Fn110_40 : Fld Z h110 b110 "java/util/ArrayList" "size" "I" (Value.int (0 : Int32)) := D110 (Or.inl hw40) (ty := .int) (by decide)
    show Go p.tables e below Pf (T110.setTop (mkF m 8 #[.val (.int iN), .val (.int iA), .val (.int iB), .val (.int iC), .val (.int (3 : Int32)), .unset, .unset, .unset, .unset] [(.ref b110)]))
    refine Go.by' (fun t k => (XS.dup X110.here hx rfl (hb hby at_8) rfl rfl k)) ?_
    show Go p.tables e below Pf (T110.setTop (mkF m 9 #[.val (.int iN), .val (.int iA), .val (.int iB), .val (.int iC), .val (.int (3 : Int32)), .unset, .unset, .unset, .unset] [(.ref b110), (.ref b110)]))
    obtain ⟨_, _, ⟨T111, L111, k111, n111⟩, -, X111, ⟨Lc111, hQ111, l111, y111, z111⟩, st111⟩ := X110.specialBack hx (y := (⟨"java/util/ArrayList", "<init>", "()V"⟩ : MethodName)) rfl hown (mvT hZ hw3) (mvT hZ hw4) (mvT hZ hw5) (by decide) (backOf (W := 1) (rmAL l Z a0 hw [] wD kD wC cC G b110 h110 n0 O110 A110 Fn110_22 Fn110_25 Fn110_40 g_b110) hZ hw5 hw2 (by decide) (by decide)) (g := (mkF m 9 #[.val (.int iN), .val (.int iA), .val (.int iB), .val (.int iC), .val (.int (3 : Int32)), .unset, .unset, .unset, .unset] [(.ref b110), (.ref b110)])) rfl (by rw [hml]; rfl) (Steps.refl _) (a := b110) (argsL := []) (rest := [(.ref b110)]) (lenOf pd_0 rfl) rfl (by show 2 * 0 + _ ≤ _; exact Nat.le_of_eq rfl) (hb hby at_9) (fun _ _ => ⟨rfl, e110, (by decide : 1 + 0 ≤ _), (by decide : 3 + 0 ≤ _)⟩)
    dsimp only [Pt.U, Pt.locs, Pt.cells, Pt.slots] at X111 l111 y111 z111 st111 hQ111
    subst l111 y111 z111
    obtain ⟨rfl, N111q, K111, f111_0, f111_1, f111_2, f111_3⟩ := hQ111
    have N111 := Fr.app N0 N111q
    refine Go.by' (fun t k => st111.trans k) ?_
    have O111 := O110.keep K111 (allS g_b110 all0)
    have KC111 : Keep h0 T111.heap [] := KC110.trans K111 (allS (Or.inr sz_b110) all0)
    show Go p.tables e below Pf (T111.setTop (mkF m 12 #[.val (.int iN), .val (.int iA), .val (.int iB), .val (.int iC), .val (.int (3 : Int32)), .unset, .unset, .unset, .unset] [(.ref b110)]))
    refine Go.by' (fun t k => (XS.astore X111.here hx rfl (hb hby at_12) rfl rfl (l' := #[.val (.int iN), .val (.int iA), .val (.int iB), .val (.int iC), .val (.int (3 : Int32)), .val (.ref b110), .unset, .unset, .unset]) rfl (XS.iload X111.here hx rfl (hb hby at_14) rfl (XS.iconst X111.here hx rfl (hb hby at_16) (XS.icmpNo X111.here hx rfl (hb hby at_17) rfl (flt (by decide)).1 (XS.aload X111.here hx rfl (hb hby at_20) rfl rfl (XS.iloadN X111.here hx rfl (hb hby at_22) rfl k))))))) ?_
    show Go p.tables e below Pf (T111.setTop (mkF m 23 #[.val (.int iN), .val (.int iA), .val (.int iB), .val (.int iC), .val (.int (3 : Int32)), .val (.ref b110), .unset, .unset, .unset] [(.int iA), (.ref b110)]))
    obtain ⟨_, _, ⟨T112, L112, k112, n112⟩, -, X112, ⟨Lc112, hQ112, l112, y112, z112⟩, st112⟩ := Jvm.LawKit.callS X111 hx (y := (⟨"java/lang/Integer", "valueOf", "(I)Ljava/lang/Integer;"⟩ : MethodName)) hown (mvT hZ hw44) (mvT hZ hw45) (mvT hZ hw46) (mvT hZ hw47) (by decide) (backOf (W := 1) (rmVO l Z a0 hw [] wD kD wC cC G iA T111.heap n0 O111 ) hZ hw47 hw46 (by decide) (by decide)) (g := (mkF m 23 #[.val (.int iN), .val (.int iA), .val (.int iB), .val (.int iC), .val (.int (3 : Int32)), .val (.ref b110), .unset, .unset, .unset] [(.int iA), (.ref b110)])) rfl (by rw [hml]; rfl) (argsL := [(.int iA)]) (rest := [(.ref b110)]) (lenOf pd_10 rfl) rfl (by show 2 * 0 + _ ≤ _; exact Nat.le_of_eq rfl) (hb hby at_23) (fun _ _ => ⟨rfl, rfl, (by decide : 1 + 1 ≤ _), (by decide : 3 + 1 ≤ _)⟩)
    dsimp only [Pt.U, Pt.locs, Pt.cells, Pt.slots] at X112 l112 y112 z112 st112 hQ112
    subst l112 y112 z112
    obtain ⟨r_112, rfl, N112q, K112, f112_0, f112_1⟩ := hQ112
    have N112 := Fr.app N111 N112q
    refine Go.by' st112 ?_
    have O112 := O111.keep K112 all0
    have KC112 : Keep h0 T112.heap [] := KC111.trans K112 all0
    show Go p.tables e below Pf (T112.setTop (mkF m 26 #[.val (.int iN), .val (.int iA), .val (.int iB), .val (.int iC), .val (.int (3 : Int32)), .val (.ref b110), .unset, .unset, .unset] [(.ref r_112), (.ref b110)]))
    obtain ⟨cq113, kq113, q113a, q113b, q113c⟩ := isOf hZ rfl (f111_0.keep K112)
    obtain ⟨_, _, ⟨T113, L113, k113, n113⟩, -, X113, ⟨Lc113, hQ113, l113, y113, z113⟩, st113⟩ := X112.virtualBack hx (y := (⟨"java/util/ArrayList", "add", "(Ljava/lang/Object;)Z"⟩ : MethodName)) (z := (⟨"java/util/ArrayList", "add", "(Ljava/lang/Object;)Z"⟩ : MethodName)) hown (mvT hZ hw65) (mvT hZ hw66) (notFace_of_selects (args := #[]) (mvT hZ hw68)) (mvT hZ hw68) (mvT hZ hw67) (by decide) (backOf (W := 0) (rmA1_0 l Z a0 hw [] wD kD wC cC G b110 r_112 ((0 : Int32)) T112.heap n0 O112 (f111_0.keep K112) (f111_3.keep K112 nin0) (f111_2.keep K112 nin0) (f111_1.keep K112 nin0) g_b110 f112_0) hZ hw69 hw2 (by decide) (by decide)) q113a q113c (g := (mkF m 26 #[.val (.int iN), .val (.int iA), .val (.int iB), .val (.int iC), .val (.int (3 : Int32)), .val (.ref b110), .unset, .unset, .unset] [(.ref r_112), (.ref b110)])) rfl (by rw [hml]; rfl) (Steps.refl _) (argsL := [(.ref r_112)]) (rest := []) (lenOf pd_11 rfl) rfl (by show 2 * 0 + _ ≤ _; exact Nat.le_of_eq rfl) (hb hby at_26) (fun _ _ => ⟨rfl, rfl, (by decide : 2 + 1 ≤ _), (by decide : 4 + 10 ≤ _)⟩)
    dsimp only [Pt.U, Pt.locs, Pt.cells, Pt.slots] at X113 l113 y113 z113 st113 hQ113
    subst l113 y113 z113
    obtain ⟨r_113, kk_113, rfl, N113q, K113, f113_0, f113_1, f113_2, f113_3, f113_4, f113_5, r113_0⟩ := hQ113
    have N113 := Fr.app N112 N113q
    refine Go.by' (fun t k => st113.trans k) ?_
    have g_r_113 : n0 ≤ r_113 := Nat.le_trans (own_le O112) f113_1
    have sz_r_113 : h0.size ≤ r_113 := Nat.le_trans KC112.1 f113_1
    have O113 := O112.keep K113 (allS g_b110 all0)
    have KC113 : Keep h0 T113.heap [] := KC112.trans K113 (allS (Or.inr sz_b110) all0)
    show Go p.tables e below Pf (T113.setTop (mkF m 29 #[.val (.int iN), .val (.int iA), .val (.int iB), .val (.int iC), .val (.int (3 : Int32)), .val (.ref b110), .unset, .unset, .unset] [(.int (1 : Int32))]))
    refine Go.by' (fun t k => (XS.pop X113.here hx rfl (hb hby at_29) rfl rfl (XS.iload X113.here hx rfl (hb hby at_30) rfl (XS.iconst X113.here hx rfl (hb hby at_32) (XS.icmpNo X113.here hx rfl (hb hby at_33) rfl (flt (by decide)).1 (XS.aload X113.here hx rfl (hb hby at_36) rfl rfl (XS.iloadN X113.here hx rfl (hb hby at_38) rfl k))))))) ?_
    show Go p.tables e below Pf (T113.setTop (mkF m 39 #[.val (.int iN), .val (.int iA), .val (.int iB), .val (.int iC), .val (.int (3 : Int32)), .val (.ref b110), .unset, .unset, .unset] [(.int iB), (.ref b110)]))
    obtain ⟨_, _, ⟨T114, L114, k114, n114⟩, -, X114, ⟨Lc114, hQ114, l114, y114, z114⟩, st114⟩ := Jvm.LawKit.callS X113 hx (y := (⟨"java/lang/Integer", "valueOf", "(I)Ljava/lang/Integer;"⟩ : MethodName)) hown (mvT hZ hw44) (mvT hZ hw45) (mvT hZ hw46) (mvT hZ hw47) (by decide) (backOf (W := 1) (rmVO l Z a0 hw [] wD kD wC cC G iB T113.heap n0 O113 ) hZ hw47 hw46 (by decide) (by decide)) (g := (mkF m 39 #[.val (.int iN), .val (.int iA), .val (.int iB), .val (.int iC), .val (.int (3 : Int32)), .val (.ref b110), .unset, .unset, .unset] [(.int iB), (.ref b110)])) rfl (by rw [hml]; rfl) (argsL := [(.int iB)]) (rest := [(.ref b110)]) (lenOf pd_10 rfl) rfl (by show 2 * 0 + _ ≤ _; exact Nat.le_of_eq rfl) (hb hby at_39) (fun _ _ => ⟨rfl, rfl, (by decide : 3 + 1 ≤ _), (by decide : 14 + 1 ≤ _)⟩)
    dsimp only [Pt.U, Pt.locs, Pt.cells, Pt.slots] at X114 l114 y114 z114 st114 hQ114
    subst l114 y114 z114
    obtain ⟨r_114, rfl, N114q, K114, f114_0, f114_1⟩ := hQ114
    have N114 := Fr.app N113 N114q
    refine Go.by' st114 ?_
    have O114 := O113.keep K114 all0
    have KC114 : Keep h0 T114.heap [] := KC113.trans K114 all0
    show Go p.tables e below Pf (T114.setTop (mkF m 42 #[.val (.int iN), .val (.int iA), .val (.int iB), .val (.int iC), .val (.int (3 : Int32)), .val (.ref b110), .unset, .unset, .unset] [(.ref r_114), (.ref b110)]))
    obtain ⟨cq115, kq115, q115a, q115b, q115c⟩ := isOf hZ rfl (f113_2.keep K114)
    obtain ⟨_, _, ⟨T115, L115, k115, n115⟩, -, X115, ⟨Lc115, hQ115, l115, y115, z115⟩, st115⟩ := X114.virtualBack hx (y := (⟨"java/util/ArrayList", "add", "(Ljava/lang/Object;)Z"⟩ : MethodName)) (z := (⟨"java/util/ArrayList", "add", "(Ljava/lang/Object;)Z"⟩ : MethodName)) hown (mvT hZ hw65) (mvT hZ hw66) (notFace_of_selects (args := #[]) (mvT hZ hw68)) (mvT hZ hw68) (mvT hZ hw67) (by decide) (backOf (W := 0) (rmA1_1 l Z a0 hw [] wD kD wC cC G b110 r_114 (((0 : Int32) + (1 : Int32))) r_113 kk_113 r_112 T114.heap n0 O114 (f113_2.keep K114) (f113_4.keep K114 nin0) (f113_3.keep K114 nin0) (f113_5.keep K114 nin0) g_b110 g_r_113 (f113_0.keep K114 nin0) f114_0 (Nat.ne_of_lt (Nat.lt_of_lt_of_le (Nat.lt_of_lt_of_le A110.lt (Nat.le_trans K111.1 K112.1)) f113_1)) r113_0) hZ hw69 hw2 (by decide) (by decide)) q115a q115c (g := (mkF m 42 #[.val (.int iN), .val (.int iA), .val (.int iB), .val (.int iC), .val (.int (3 : Int32)), .val (.ref b110), .unset, .unset, .unset] [(.ref r_114), (.ref b110)])) rfl (by rw [hml]; rfl) (Steps.refl _) (argsL := [(.ref r_114)]) (rest := []) (lenOf pd_11 rfl) rfl (by show 2 * 0 + _ ≤ _; exact Nat.le_of_eq rfl) (hb hby at_42) (fun _ _ => ⟨rfl, rfl, (by decide : 4 + 0 ≤ _), (by decide : 15 + 0 ≤ _)⟩)
    dsimp only [Pt.U, Pt.locs, Pt.cells, Pt.slots] at X115 l115 y115 z115 st115 hQ115
    subst l115 y115 z115
    obtain ⟨rfl, N115q, K115, f115_0, f115_1, f115_2, f115_3, f115_4⟩ := hQ115
    have N115 := Fr.app N114 N115q
    refine Go.by' (fun t k => st115.trans k) ?_
    have O115 := O114.keep K115 (allS g_b110 (allS g_r_113 all0))
    have KC115 : Keep h0 T115.heap [] := KC114.trans K115 (allS (Or.inr sz_b110) (allS (Or.inr sz_r_113) all0))
    show Go p.tables e below Pf (T115.setTop (mkF m 45 #[.val (.int iN), .val (.int iA), .val (.int iB), .val (.int iC), .val (.int (3 : Int32)), .val (.ref b110), .unset, .unset, .unset] [(.int (1 : Int32))]))
    refine Go.by' (fun t k => (XS.pop X115.here hx rfl (hb hby at_45) rfl rfl (XS.iload X115.here hx rfl (hb hby at_46) rfl (XS.iconst X115.here hx rfl (hb hby at_48) (XS.icmpNo X115.here hx rfl (hb hby at_49) rfl (flt (by decide)).1 (XS.aload X115.here hx rfl (hb hby at_52) rfl rfl (XS.iloadN X115.here hx rfl (hb hby at_54) rfl k))))))) ?_
    show Go p.tables e below Pf (T115.setTop (mkF m 55 #[.val (.int iN), .val (.int iA), .val (.int iB), .val (.int iC), .val (.int (3 : Int32)), .val (.ref b110), .unset, .unset, .unset] [(.int iC), (.ref b110)]))
    obtain ⟨_, _, ⟨T116, L116, k116, n116⟩, -, X116, ⟨Lc116, hQ116, l116, y116, z116⟩, st116⟩ := Jvm.LawKit.callS X115 hx (y := (⟨"java/lang/Integer", "valueOf", "(I)Ljava/lang/Integer;"⟩ : MethodName)) hown (mvT hZ hw44) (mvT hZ hw45) (mvT hZ hw46) (mvT hZ hw47) (by decide) (backOf (W := 1) (rmVO l Z a0 hw [] wD kD wC cC G iC T115.heap n0 O115 ) hZ hw47 hw46 (by decide) (by decide)) (g := (mkF m 55 #[.val (.int iN), .val (.int iA), .val (.int iB), .val (.int iC), .val (.int (3 : Int32)), .val (.ref b110), .unset, .unset, .unset] [(.int iC), (.ref b110)])) rfl (by rw [hml]; rfl) (argsL := [(.int iC)]) (rest := [(.ref b110)]) (lenOf pd_10 rfl) rfl (by show 2 * 0 + _ ≤ _; exact Nat.le_of_eq rfl) (hb hby at_55) (fun _ _ => ⟨rfl, rfl, (by decide : 4 + 1 ≤ _), (by decide : 15 + 1 ≤ _)⟩)
    dsimp only [Pt.U, Pt.locs, Pt.cells, Pt.slots] at X116 l116 y116 z116 st116 hQ116
    subst l116 y116 z116
    obtain ⟨r_116, rfl, N116q, K116, f116_0, f116_1⟩ := hQ116
    have N116 := Fr.app N115 N116q
    refine Go.by' st116 ?_
    have O116 := O115.keep K116 all0
    have KC116 : Keep h0 T116.heap [] := KC115.trans K116 all0
    show Go p.tables e below Pf (T116.setTop (mkF m 58 #[.val (.int iN), .val (.int iA), .val (.int iB), .val (.int iC), .val (.int (3 : Int32)), .val (.ref b110), .unset, .unset, .unset] [(.ref r_116), (.ref b110)]))
    obtain ⟨cq117, kq117, q117a, q117b, q117c⟩ := isOf hZ rfl (f115_1.keep K116)
    obtain ⟨_, _, ⟨T117, L117, k117, n117⟩, -, X117, ⟨Lc117, hQ117, l117, y117, z117⟩, st117⟩ := X116.virtualBack hx (y := (⟨"java/util/ArrayList", "add", "(Ljava/lang/Object;)Z"⟩ : MethodName)) (z := (⟨"java/util/ArrayList", "add", "(Ljava/lang/Object;)Z"⟩ : MethodName)) hown (mvT hZ hw65) (mvT hZ hw66) (notFace_of_selects (args := #[]) (mvT hZ hw68)) (mvT hZ hw68) (mvT hZ hw67) (by decide) (backOf (W := 0) (rmA1_2 l Z a0 hw [] wD kD wC cC G b110 r_116 ((((0 : Int32) + (1 : Int32)) + (1 : Int32))) r_113 kk_113 r_112 r_114 T116.heap n0 O116 (f115_1.keep K116) (f115_3.keep K116 nin0) (f115_2.keep K116 nin0) (f115_4.keep K116 nin0) g_b110 g_r_113 (f115_0.keep K116 nin0) f116_0 (Nat.ne_of_lt (Nat.lt_of_lt_of_le (Nat.lt_of_lt_of_le A110.lt (Nat.le_trans K111.1 K112.1)) f113_1)) r113_0) hZ hw69 hw2 (by decide) (by decide)) q117a q117c (g := (mkF m 58 #[.val (.int iN), .val (.int iA), .val (.int iB), .val (.int iC), .val (.int (3 : Int32)), .val (.ref b110), .unset, .unset, .unset] [(.ref r_116), (.ref b110)])) rfl (by rw [hml]; rfl) (Steps.refl _) (argsL := [(.ref r_116)]) (rest := []) (lenOf pd_11 rfl) rfl (by show 2 * 0 + _ ≤ _; exact Nat.le_of_eq rfl) (hb hby at_58) (fun _ _ => ⟨rfl, rfl, (by decide : 5 + 0 ≤ _), (by decide : 16 + 0 ≤ _)⟩)
    dsimp only [Pt.U, Pt.locs, Pt.cells, Pt.slots] at X117 l117 y117 z117 st117 hQ117
    subst l117 y117 z117
    obtain ⟨rfl, N117q, K117, f117_0, f117_1, f117_2, f117_3, f117_4⟩ := hQ117
    have N117 := Fr.app N116 N117q
    refine Go.by' (fun t k => st117.trans k) ?_
    have O117 := O116.keep K117 (allS g_b110 (allS g_r_113 all0))
    have KC117 : Keep h0 T117.heap [] := KC116.trans K117 (allS (Or.inr sz_b110) (allS (Or.inr sz_r_113) all0))
    show Go p.tables e below Pf (T117.setTop (mkF m 61 #[.val (.int iN), .val (.int iA), .val (.int iB), .val (.int iC), .val (.int (3 : Int32)), .val (.ref b110), .unset, .unset, .unset] [(.int (1 : Int32))]))
    refine Go.by' (fun t k => (XS.pop X117.here hx rfl (hb hby at_61) rfl rfl (XS.aload X117.here hx rfl (hb hby at_62) rfl rfl k))) ?_
    show Go p.tables e below Pf (T117.setTop (mkF m 64 #[.val (.int iN), .val (.int iA), .val (.int iB), .val (.int iC), .val (.int (3 : Int32)), .val (.ref b110), .unset, .unset, .unset] [(.ref b110)]))
    obtain ⟨_, _, ⟨T118, L118, k118, n118⟩, -, X118, ⟨Lc118, hQ118, l118, y118, z118⟩, st118⟩ := Jvm.LawKit.callS X117 hx (y := (⟨"com/example/usher/usher/TypeIndex", "only", "(Ljava/util/List;)I"⟩ : MethodName)) hown (mvT hZ hw26) (mvT hZ hw27) (mvT hZ hw28) (mvT hZ hw29) (by decide) (backOf (W := 0) (rmOnx l Z a0 hw [] wD kD wC cC G b110 ((3 : Int32)) T117.heap n0 O117 f117_1 f117_3 (by decide)) hZ hw29 hw28 (by decide) (by decide)) (g := (mkF m 64 #[.val (.int iN), .val (.int iA), .val (.int iB), .val (.int iC), .val (.int (3 : Int32)), .val (.ref b110), .unset, .unset, .unset] [(.ref b110)])) rfl (by rw [hml]; rfl) (argsL := [(.ref b110)]) (rest := []) (lenOf pd_9 rfl) rfl (by show 2 * 0 + _ ≤ _; exact Nat.le_of_eq rfl) (hb hby at_64) (fun _ _ => ⟨rfl, rfl, (by decide : 5 + 0 ≤ _), (by decide : 16 + 0 ≤ _)⟩)
    dsimp only [Pt.U, Pt.locs, Pt.cells, Pt.slots] at X118 l118 y118 z118 st118 hQ118
    subst l118 y118 z118
    obtain ⟨rfl, rfl, e118⟩ := hQ118
    try rw [List.append_nil] at X118
    refine Go.by' st118 ?_
    show Go p.tables e below Pf (T118.setTop (mkF m 67 #[.val (.int iN), .val (.int iA), .val (.int iB), .val (.int iC), .val (.int (3 : Int32)), .val (.ref b110), .unset, .unset, .unset] [(.int (-1 : Int32))]))
    refine Go.by' (fun t k => (XS.istore X118.here hx rfl (hb hby at_67) rfl (l' := #[.val (.int iN), .val (.int iA), .val (.int iB), .val (.int iC), .val (.int (3 : Int32)), .val (.ref b110), .val (.int (-1 : Int32)), .unset, .unset]) rfl (XS.iload X118.here hx rfl (hb hby at_69) rfl (XS.iconst X118.here hx rfl (hb hby at_71) (XS.icmpYes X118.here hx rfl (pc0 := 72) (pc' := 81) rfl (hb hby at_72) rfl (feq (by decide)).2 (by decide) (by decide) (XS.iconst X118.here hx rfl (hb hby at_81) (XS.istore X118.here hx rfl (hb hby at_82) rfl (l' := #[.val (.int iN), .val (.int iA), .val (.int iB), .val (.int iC), .val (.int (3 : Int32)), .val (.ref b110), .val (.int (-1 : Int32)), .val (.int (-1 : Int32)), .unset]) rfl k))))))) ?_
    show Go p.tables e below Pf (T118.setTop (mkF m 84 #[.val (.int iN), .val (.int iA), .val (.int iB), .val (.int iC), .val (.int (3 : Int32)), .val (.ref b110), .val (.int (-1 : Int32)), .val (.int (-1 : Int32)), .unset] []))
    refine Go.by' (fun t k => (XS.aload X118.here hx rfl (hb hby at_84) rfl rfl k)) ?_
    show Go p.tables e below Pf (T118.setTop (mkF m 86 #[.val (.int iN), .val (.int iA), .val (.int iB), .val (.int iC), .val (.int (3 : Int32)), .val (.ref b110), .val (.int (-1 : Int32)), .val (.int (-1 : Int32)), .unset] [(.ref b110)]))
    obtain ⟨cq119, kq119, q119a, q119b, q119c⟩ := isOf hZ e118 f117_1
    obtain ⟨_, _, ⟨T119, L119, k119, n119⟩, -, X119, ⟨Lc119, hQ119, l119, y119, z119⟩, st119⟩ := X118.virtualBack hx (y := (⟨"java/util/ArrayList", "size", "()I"⟩ : MethodName)) (z := (⟨"java/util/ArrayList", "size", "()I"⟩ : MethodName)) hown (mvT hZ hw41) (mvT hZ hw42) (notFace_of_selects (args := #[]) (mvT hZ hw43)) (mvT hZ hw43) (mvT hZ hw34) (by decide) (backOf (W := 0) (rmSize l Z a0 hw [] wD kD wC cC G b110 ((3 : Int32)) T117.heap n0 O117 f117_3) hZ hw38 hw2 (by decide) (by decide)) q119a q119c (g := (mkF m 86 #[.val (.int iN), .val (.int iA), .val (.int iB), .val (.int iC), .val (.int (3 : Int32)), .val (.ref b110), .val (.int (-1 : Int32)), .val (.int (-1 : Int32)), .unset] [(.ref b110)])) rfl (by rw [hml]; rfl) (Steps.refl _) (argsL := []) (rest := []) (lenOf pd_8 rfl) rfl (by show 2 * 0 + _ ≤ _; exact Nat.le_of_eq rfl) (hb hby at_86) (fun _ _ => ⟨rfl, e118, (by decide : 5 + 0 ≤ _), (by decide : 16 + 0 ≤ _)⟩)
    dsimp only [Pt.U, Pt.locs, Pt.cells, Pt.slots] at X119 l119 y119 z119 st119 hQ119
    subst l119 y119 z119
    obtain ⟨rfl, rfl, e119⟩ := hQ119
    try rw [List.append_nil] at X119
    refine Go.by' (fun t k => st119.trans k) ?_
    show Go p.tables e below Pf (T119.setTop (mkF m 89 #[.val (.int iN), .val (.int iA), .val (.int iB), .val (.int iC), .val (.int (3 : Int32)), .val (.ref b110), .val (.int (-1 : Int32)), .val (.int (-1 : Int32)), .unset] [(.int (3 : Int32))]))
    refine Go.by' (fun t k => (XS.iload X119.here hx rfl (hb hby at_89) rfl (XS.icmpNo X119.here hx rfl (hb hby at_91) rfl (teq (by decide)).2 (XS.iload X119.here hx rfl (hb hby at_94) rfl (XS.iconst X119.here hx rfl (hb hby at_96) (XS.icmpNo X119.here hx rfl (hb hby at_97) rfl (flt (by decide)).1 (XS.aload X119.here hx rfl (hb hby at_100) rfl rfl k))))))) ?_
    show Go p.tables e below Pf (T119.setTop (mkF m 102 #[.val (.int iN), .val (.int iA), .val (.int iB), .val (.int iC), .val (.int (3 : Int32)), .val (.ref b110), .val (.int (-1 : Int32)), .val (.int (-1 : Int32)), .unset] [(.ref b110)]))
    refine Go.by' (fun t k => (XS.iconst X119.here hx rfl (hb hby at_102) k)) ?_
    show Go p.tables e below Pf (T119.setTop (mkF m 103 #[.val (.int iN), .val (.int iA), .val (.int iB), .val (.int iC), .val (.int (3 : Int32)), .val (.ref b110), .val (.int (-1 : Int32)), .val (.int (-1 : Int32)), .unset] [(.int (0 : Int32)), (.ref b110)]))
    obtain ⟨cq120, kq120, q120a, q120b, q120c⟩ := isOf hZ e119 f117_1
    obtain ⟨_, _, ⟨T120, L120, k120, n120⟩, -, X120, ⟨Lc120, hQ120, l120, y120, z120⟩, st120⟩ := X119.virtualBack hx (y := (⟨"java/util/ArrayList", "get", "(I)Ljava/lang/Object;"⟩ : MethodName)) (z := (⟨"java/util/ArrayList", "get", "(I)Ljava/lang/Object;"⟩ : MethodName)) hown (mvT hZ hw94) (mvT hZ hw95) (notFace_of_selects (args := #[]) (mvT hZ hw97)) (mvT hZ hw97) (mvT hZ hw96) (by decide) (backOf (W := 0) (rmGet0 l Z a0 hw [] wD kD wC cC G b110 ((3 : Int32)) r_113 kk_113 ((Value.ref r_114)) ((Value.ref r_116)) (Value.null) (Value.null) (Value.null) (Value.null) (Value.null) (Value.null) (Value.null) r_112 T117.heap n0 O117 f117_3 (by decide) f117_1 f117_2 f117_0) hZ hw98 hw2 (by decide) (by decide)) q120a q120c (g := (mkF m 103 #[.val (.int iN), .val (.int iA), .val (.int iB), .val (.int iC), .val (.int (3 : Int32)), .val (.ref b110), .val (.int (-1 : Int32)), .val (.int (-1 : Int32)), .unset] [(.int (0 : Int32)), (.ref b110)])) rfl (by rw [hml]; rfl) (Steps.refl _) (argsL := [(.int (0 : Int32))]) (rest := []) (lenOf pd_7 rfl) rfl (by show 2 * 0 + _ ≤ _; exact Nat.le_of_eq rfl) (hb hby at_103) (fun _ _ => ⟨rfl, e119, (by decide : 5 + 0 ≤ _), (by decide : 16 + 0 ≤ _)⟩)
    dsimp only [Pt.U, Pt.locs, Pt.cells, Pt.slots] at X120 l120 y120 z120 st120 hQ120
    subst l120 y120 z120
    obtain ⟨rfl, rfl, e120⟩ := hQ120
    try rw [List.append_nil] at X120
    refine Go.by' (fun t k => st120.trans k) ?_
    show Go p.tables e below Pf (T120.setTop (mkF m 106 #[.val (.int iN), .val (.int iA), .val (.int iB), .val (.int iC), .val (.int (3 : Int32)), .val (.ref b110), .val (.int (-1 : Int32)), .val (.int (-1 : Int32)), .unset] [(.ref r_112)]))
    have c121 := (((((f112_0.keep K113).keep K114).keep K115).keep K116).keep K117)
    obtain ⟨T122, X122, e122, st122⟩ := castY X120 hx hZ hown hw112 e120 (Ins.self c121) (g := (mkF m 106 #[.val (.int iN), .val (.int iA), .val (.int iB), .val (.int iC), .val (.int (3 : Int32)), .val (.ref b110), .val (.int (-1 : Int32)), .val (.int (-1 : Int32)), .unset] [(.ref r_112)])) rfl rfl (hb hby at_106)
    refine Go.by' st122 ?_
    show Go p.tables e below Pf (T122.setTop (mkF m 109 #[.val (.int iN), .val (.int iA), .val (.int iB), .val (.int iC), .val (.int (3 : Int32)), .val (.ref b110), .val (.int (-1 : Int32)), .val (.int (-1 : Int32)), .unset] [(.ref r_112)]))
    have c124 := (((((f112_1.keep K113 (ninS (ne_exa c121 f117_1 (by decide)) nin0)).keep K114 nin0).keep K115 (ninS (ne_exa c121 f117_1 (by decide)) (ninS (Nat.ne_of_lt (Nat.lt_of_lt_of_le f112_0.lt f113_1)) nin0))).keep K116 nin0).keep K117 (ninS (ne_exa c121 f117_1 (by decide)) (ninS (Nat.ne_of_lt (Nat.lt_of_lt_of_le f112_0.lt f113_1)) nin0)))
    obtain ⟨cq123, kq123, q123a, q123b, q123c⟩ := isOf hZ e122 c121
    obtain ⟨_, _, ⟨T123, L123, k123, n123⟩, -, X123, ⟨Lc123, hQ123, l123, y123, z123⟩, st123⟩ := X122.virtualBack hx (y := (⟨"java/lang/Integer", "intValue", "()I"⟩ : MethodName)) (z := (⟨"java/lang/Integer", "intValue", "()I"⟩ : MethodName)) hown (mvT hZ hw113) (mvT hZ hw114) (notFace_of_selects (args := #[]) (mvT hZ hw116)) (mvT hZ hw116) (mvT hZ hw115) (by decide) (backOf (W := 0) (rmIV l Z a0 hw [] wD kD wC cC G r_112 iA T117.heap n0 O117 c124) hZ hw117 hw46 (by decide) (by decide)) q123a q123c (g := (mkF m 109 #[.val (.int iN), .val (.int iA), .val (.int iB), .val (.int iC), .val (.int (3 : Int32)), .val (.ref b110), .val (.int (-1 : Int32)), .val (.int (-1 : Int32)), .unset] [(.ref r_112)])) rfl (by rw [hml]; rfl) (Steps.refl _) (argsL := []) (rest := []) (lenOf pd_8 rfl) rfl (by show 2 * 0 + _ ≤ _; exact Nat.le_of_eq rfl) (hb hby at_109) (fun _ _ => ⟨rfl, e122, (by decide : 5 + 0 ≤ _), (by decide : 16 + 0 ≤ _)⟩)
    dsimp only [Pt.U, Pt.locs, Pt.cells, Pt.slots] at X123 l123 y123 z123 st123 hQ123
    subst l123 y123 z123
    obtain ⟨rfl, rfl, e123⟩ := hQ123
    try rw [List.append_nil] at X123
    refine Go.by' (fun t k => st123.trans k) ?_
    show Go p.tables e below Pf (T123.setTop (mkF m 112 #[.val (.int iN), .val (.int iA), .val (.int iB), .val (.int iC), .val (.int (3 : Int32)), .val (.ref b110), .val (.int (-1 : Int32)), .val (.int (-1 : Int32)), .unset] [(.int iA)]))
    refine Go.by' (fun t k => (XS.iloadN X123.here hx rfl (hb hby at_112) rfl (XS.icmpNo X123.here hx rfl (hb hby at_113) rfl (teq rfl).2 (XS.iconst X123.here hx rfl (hb hby at_116) (XS.goto X123.here hx rfl (pc0 := 117) (pc' := 121) rfl (hb hby at_117) (by decide) (by decide) (XS.istore X123.here hx rfl (hb hby at_121) rfl (l' := #[.val (.int iN), .val (.int iA), .val (.int iB), .val (.int iC), .val (.int (3 : Int32)), .val (.ref b110), .val (.int (-1 : Int32)), .val (.int (-1 : Int32)), .val (.int (1 : Int32))]) rfl (XS.iload X123.here hx rfl (hb hby at_123) rfl k))))))) ?_
    show Go p.tables e below Pf (T123.setTop (mkF m 125 #[.val (.int iN), .val (.int iA), .val (.int iB), .val (.int iC), .val (.int (3 : Int32)), .val (.ref b110), .val (.int (-1 : Int32)), .val (.int (-1 : Int32)), .val (.int (1 : Int32))] [(.int (-1 : Int32))]))
    refine Go.by' (fun t k => (XS.iload X123.here hx rfl (hb hby at_125) rfl (XS.icmpNo X123.here hx rfl (hb hby at_127) rfl (teq (by decide)).2 (XS.iload X123.here hx rfl (hb hby at_130) rfl (XS.ifNo X123.here hx rfl (hb hby at_132) rfl ((if0 _ _).trans (feq (by decide)).1) (XS.iconst X123.here hx rfl (hb hby at_135) (XS.goto X123.here hx rfl (pc0 := 136) (pc' := 140) rfl (hb hby at_136) (by decide) (by decide) k))))))) ?_
    show Go p.tables e below Pf (T123.setTop (mkF m 140 #[.val (.int iN), .val (.int iA), .val (.int iB), .val (.int iC), .val (.int (3 : Int32)), .val (.ref b110), .val (.int (-1 : Int32)), .val (.int (-1 : Int32)), .val (.int (1 : Int32))] [(.int (1 : Int32))]))
    rw [hPf]
    exact Go.retI' X123 hx hret hlk (by simp) rfl (hb hby at_140) (by decide) (by decide) ⟨rfl, N117, (by rw [e123]; exact KC117)⟩
set_option maxRecDepth 65536 in
set_option maxHeartbeats 40000000 in
theorem comes_1 {Post : Tables → Env → Array Value → State → Outcome → State → Prop} (hpost : ∀ tb e args s v u, (limb_1_1.after args s (.returned v) u = true ∧ limb_1_2.after args s (.returned v) u = true ∧ True) → FrameEnd s (.returned v) u (Jvm.fieldLocs frame_1_writes args s ++ Jvm.arrayLocs frame_1_arrays args s ++ Jvm.staticLocs frame_1_statics s) 24 128 → Post tb e args s (.returned v) u) :
    ArmFor flags0 classFile x code maxLocals ret World_1 tables_1 room_1 Calls_1 rest_1 Pre_1 Post := by
  intro l hfl _ _ p e ha hc hk s m args below hf hA hF happ hP
  obtain ⟨hcalls, hrest, hpre⟩ := hP
  obtain ⟨-, -, -, hnamed, -, -, -, hat⟩ := (Spec.applies_iff hf).mp happ
  obtain ⟨hg, hn⟩ := and_e (Cond.before_iff.mp (show (Jvm.Cond.and given_1 narrow_1).before args s = true from hpre))
  obtain ⟨ga1, gb1⟩ := and_e hg
  obtain ⟨ga2, gb2⟩ := and_e gb1
  obtain ⟨ga3, gb3⟩ := and_e gb2
  obtain ⟨ga4, gb4⟩ := and_e gb3
  obtain ⟨w0, w1, w2, w3, rfl⟩ : ∃ w0 w1 w2 w3 : Value, args = #[w0, w1, w2, w3] := by
    have hs : args.size = 4 := by simpa [Cond.value, given_1] using ga1
    obtain ⟨L⟩ := args
    match L, hs with
    | [w0, w1, w2, w3], _ => exact ⟨w0, w1, w2, w3, rfl⟩
  have hw := fun d (hd : d ∈ tables_1) => atoms_spec (ws := Jvm.Cond.code x code maxLocals ret :: tables_1) hat d (List.mem_cons_of_mem _ hd)
  have hfit : Fit s := fun {y c} hc i hi => by
    obtain ⟨ha, rfl⟩ := Array.getElem?_eq_some_iff.mp hc
    have q := List.all_eq_true.mp ((Array.all_eq_true_iff_forall_mem.mp hF) _ (Array.getElem_mem ha)) i (List.mem_range.mpr hi)
    simpa [Array.getElem?_eq_getElem hi] using q
  obtain ⟨hsets, hown0⟩ := atoms_of _ (rest_1_c_eq ▸ (show rest_1_c.before _ s = true from hrest))
  obtain ⟨iN, ei0⟩ := is_v ga2
  obtain rfl : w0 = (.int iN) := Option.some.inj ei0
  obtain ⟨iA, ei1⟩ := is_v ga3
  obtain rfl : w1 = (.int iA) := Option.some.inj ei1
  obtain ⟨iB, ei2⟩ := is_v ga4
  obtain rfl : w2 = (.int iB) := Option.some.inj ei2
  obtain ⟨iC, ei3⟩ := is_v gb4
  obtain rfl : w3 = (.int iC) := Option.some.inj ei3
  obtain ⟨wD, evwD⟩ := exa_v (Cond.before_iff.mp (hsets _ (List.mem_of_getElem? (i := 7) rfl)))
  have SwD := Sta.start evwD (Or.inr ⟨(hw _ (List.mem_of_getElem? (i := 2) rfl)), (hsets _ (List.mem_of_getElem? (i := 2) rfl))⟩)
  have AwD := Exa.start evwD (Cond.before_iff.mp (hsets _ (List.mem_of_getElem? (i := 7) rfl)))
  obtain ⟨cD, ArD⟩ := Arr.start evwD (Cond.before_iff.mp (hsets _ (List.mem_of_getElem? (i := 6) rfl)))
  obtain ⟨zD, lD⟩ := own_len evwD ArD (eqv_i (Term.int_eval _) (Cond.before_iff.mp (hsets _ (List.mem_of_getElem? (i := 8) rfl))))
  have VD : Arv s s.heap wD cD.cls (.object "java/lang/Object") (0 : Int32) [] Value.null := Arv.start hfit ArD zD lD (by decide) rfl trivial
  obtain ⟨kD, hkD⟩ : ∃ k, k = cD.cls := ⟨_, rfl⟩
  rw [← hkD] at VD
  have SH := Sta.start (eqv_i (Term.int_eval (127 : Int32)) (Cond.before_iff.mp (hsets _ (List.mem_of_getElem? (i := 12) rfl)))) (Or.inl (hsets _ (List.mem_of_getElem? (i := 10) rfl)))
  obtain ⟨wC, evC⟩ := exa_v (Cond.before_iff.mp (hsets _ (List.mem_of_getElem? (i := 14) rfl)))
  have SC := Sta.start evC (Or.inr ⟨(hw _ (List.mem_of_getElem? (i := 49) rfl)), (hsets _ (List.mem_of_getElem? (i := 11) rfl))⟩)
  obtain ⟨cC, ArC⟩ := Arr.start evC (Cond.before_iff.mp (hsets _ (List.mem_of_getElem? (i := 13) rfl)))
  obtain ⟨zC, lC⟩ := own_len evC ArC (eqv_i (Term.int_eval _) (Cond.before_iff.mp (hsets _ (List.mem_of_getElem? (i := 15) rfl))))
  have BC : Bxs s wC cC "java/lang/Integer" "I" (256 : Int32) (fun j => .int (j - 128)) := Bxs.start (fun idx => evC) ArC zC lC (by decide) (Cond.before_iff.mp (hsets _ (List.mem_of_getElem? (i := 16) rfl))) (fun X j nn h => eqv_i (own_sub (idx_at nn) (Term.int_eval _)) h)
  have G : Gh s wD kD wC cC := ⟨SwD, AwD, VD, SH, SC, BC⟩
  obtain ⟨n, o, h1, h2, h3, _, L, rfl, hQ, hq⟩ := rm0 l s _ hw tables_1 wD kD wC cC G iN iA iB iC s.heap s.heap.size (Old.start s)  p e ha hc hk s m _ below hf ((Spec.applies_iff_loose hf).mp happ).1 ⟨rfl, State.Warmed39.refl s, rfl⟩ trivial
  obtain ⟨rfl, N, -⟩ := hQ
  refine ⟨n, _, h1, h2, h3, hpost _ _ _ _ _ _ ⟨Cond.after_iff.mpr rfl, Cond.after_iff.mpr (eq_i res_at (Term.int_eval (1)) rfl), trivial⟩ ⟨hq.1, hq.2.1, (hq.2.2.sift fun y hy => Or.inr (N y hy)).mono (by decide) (by decide)⟩⟩
theorem main_1_1 : Claimed_1_1 := comes_1 fun _ _ _ _ _ _ h hF => ⟨h.1, hF⟩
theorem main_1_2 : Claimed_1_2 := comes_1 fun _ _ _ _ _ _ h hF => ⟨h.2.1, hF⟩
end Jvm.Pilot.@@N@@
namespace Jvm.Pilot.@@N@@
open Jvm Jvm.ClassFile Sem Op Lib Jvm.Free Jvm.Stand Jvm.Pilot.@@N@@.Jvm.D
/-! MADE BY PROGRAM (witnessworld.py) out of the Statement's table words and the real class files: 28 classes; the members and pool entries that the words name. The judged class is class 1, her method 1. -/
namespace start1
open Jvm.ClassFile
def u (s : String) : CpInfo := .utf8 (stringToUtf16 s)
/-- a pool by its gaps: so many unusable entries, then the entry; so many at the end -/
def gap : Nat → List CpInfo → List CpInfo
  | 0, r => r
  | n + 1, r => .unusable :: gap n r
def poolList (es : List (Nat × CpInfo)) (last : Nat) : List CpInfo := es.foldr (fun e r => gap e.1 (e.2 :: r)) (gap last [])
def pool (es : List (Nat × CpInfo)) (last : Nat) : Array CpInfo := ⟨poolList es last⟩
def fileOf (pool : Array CpInfo) (this : Nat) (attrs : Array Attribute := #[]) (ms : Array MethodInfo := #[]) (fl : Nat := 33) (sup : Nat := 0) (ifs : Array Nat := #[]) (fds : Array FieldInfo := #[]) : ClassFile where
  minorVersion := 0
  majorVersion := 65
  constantPool := pool
  accessFlags := fl
  thisClass := this
  superClass := sup
  interfaces := ifs
  fields := fds
  methods := ms
  attributes := attrs
def plain (name : String) (sup : Option ClassId) : Class where
  name := name
  kind := .ordinary
  loader := none
  accessFlags := 33
  super := sup
  interfaces := #[]
  cf := none
  fields := #[]
  methods := #[]
  instanceTypes := #[]
  staticTypes := #[]
  resolved := #[]
  callSites := []
  init := .initialized
  statics := none
  mirror := none

def pool0 : Array CpInfo := pool [(5, u "<init>"), (0, u "()V"), (1, .class_ 10), (1, u "java/lang/Object")] 113

def k0c0 : Code := { maxStack := 0, maxLocals := 1, code := object_method_1_code, exceptionTable := #[], attributes := #[] }
def k0m0 : Method := { name := "<init>", desc := "()V", sig := { parameters := [], returnType := none }, accessFlags := 1, code := some k0c0 }
/-- java/lang/Object -/
def k0 : Class := { plain "java/lang/Object" none with
  accessFlags := 33
  interfaces := #[]
  cf := some (fileOf pool0 8 #[] #[{ accessFlags := 1, nameIndex := 5, descriptorIndex := 6, attributes := #[] }] 33 0 #[] #[])
  fields := #[]
  methods := #[k0m0]
  instanceTypes := #[]
  staticTypes := #[]
  resolved := Array.replicate 124 none
  statics := none }

def pool1 : Array CpInfo := pool [(2, .class_ 4), (0, .nameAndType 5 6), (0, u "java/lang/Object"), (0, u "<init>"), (0, u "()V"), (0, .class_ 8), (0, u "java/util/ArrayList"), (0, .methodref 7 3), (0, .methodref 11 12), (0, .class_ 13), (0, .nameAndType 14 15), (0, u "java/lang/Integer"), (0, u "valueOf"), (0, u "(I)Ljava/lang/Integer;"), (0, .methodref 7 17), (0, .nameAndType 18 19), (0, u "add"), (0, u "(Ljava/lang/Object;)Z"), (0, .methodref 21 22), (0, .class_ 23), (0, .nameAndType 24 25), (0, u "com/example/usher/usher/TypeIndex"), (0, u "only"), (0, u "(Ljava/util/List;)I"), (0, .methodref 7 27), (0, .nameAndType 28 29), (0, u "size"), (0, u "()I"), (0, .methodref 7 31), (0, .nameAndType 32 33), (0, u "get"), (0, u "(I)Ljava/lang/Object;"), (0, .methodref 11 35), (0, .nameAndType 36 29), (0, u "intValue"), (0, .class_ 38), (0, u "com/example/usher/usher/TypeIndexOnlyPinLaw"), (2, u "law"), (0, u "(IIII)Z")] 3

def k1m0 : Method := { name := "<init>", desc := "()V", sig := { parameters := [], returnType := none }, accessFlags := 1, code := none }
def k1c1 : Code := { maxStack := 2, maxLocals := 9, code := code, exceptionTable := #[], attributes := #[] }
def k1m1 : Method := { name := "law", desc := "(IIII)Z", sig := { parameters := [.int, .int, .int, .int], returnType := some .boolean }, accessFlags := 9, code := some k1c1 }
/-- com/example/usher/usher/TypeIndexOnlyPinLaw -/
def k1 : Class := { plain "com/example/usher/usher/TypeIndexOnlyPinLaw" (some 0) with
  accessFlags := 49
  interfaces := #[]
  cf := some (fileOf pool1 37 #[] #[{ accessFlags := 1, nameIndex := 5, descriptorIndex := 6, attributes := #[] }, { accessFlags := 9, nameIndex := 41, descriptorIndex := 42, attributes := #[] }] 49 2 #[] #[])
  fields := #[]
  methods := #[k1m0, k1m1]
  instanceTypes := #[]
  staticTypes := #[]
  resolved := Array.replicate 46 none
  statics := none }

def pool2 : Array CpInfo := pool [(8, .class_ 10), (1, u "java/lang/Iterable"), (24, .class_ 36), (0, u "java/lang/Object")] 25

/-- java/lang/Iterable -/
def k2 : Class := { plain "java/lang/Iterable" (some 0) with
  accessFlags := 1537
  interfaces := #[]
  cf := some (fileOf pool2 8 #[] #[] 1537 35 #[] #[])
  fields := #[]
  methods := #[]
  instanceTypes := #[]
  staticTypes := #[]
  resolved := Array.replicate 62 none
  statics := none }

def pool3 : Array CpInfo := pool [(10, .class_ 12), (1, u "java/util/Collection"), (47, .class_ 61), (0, u "java/lang/Object"), (0, .class_ 63), (0, u "java/lang/Iterable")] 51

/-- java/util/Collection -/
def k3 : Class := { plain "java/util/Collection" (some 0) with
  accessFlags := 1537
  interfaces := #[2]
  cf := some (fileOf pool3 10 #[] #[] 1537 60 #[62] #[])
  fields := #[]
  methods := #[]
  instanceTypes := #[]
  staticTypes := #[]
  resolved := Array.replicate 115 none
  statics := none }

def pool4 : Array CpInfo := pool [(1, .methodref 2 3), (0, .class_ 4), (0, .nameAndType 5 6), (0, u "java/lang/Object"), (0, u "<init>"), (0, u "()V"), (1, .class_ 10), (1, u "java/util/AbstractCollection"), (66, .class_ 78), (0, u "java/util/Collection")] 81

def k4c0 : Code := { maxStack := 1, maxLocals := 1, code := jdk_22_method_1_code, exceptionTable := #[], attributes := #[] }
def k4m0 : Method := { name := "<init>", desc := "()V", sig := { parameters := [], returnType := none }, accessFlags := 4, code := some k4c0 }
/-- java/util/AbstractCollection -/
def k4 : Class := { plain "java/util/AbstractCollection" (some 0) with
  accessFlags := 1057
  interfaces := #[3]
  cf := some (fileOf pool4 8 #[] #[{ accessFlags := 4, nameIndex := 5, descriptorIndex := 6, attributes := #[] }] 1057 2 #[77] #[])
  fields := #[]
  methods := #[k4m0]
  instanceTypes := #[]
  staticTypes := #[]
  resolved := Array.replicate 160 none
  statics := none }

def pool5 : Array CpInfo := pool [(8, .class_ 10), (1, u "java/util/SequencedCollection"), (15, .class_ 27), (0, u "java/lang/Object"), (0, .class_ 29), (0, u "java/util/Collection")] 27

/-- java/util/SequencedCollection -/
def k5 : Class := { plain "java/util/SequencedCollection" (some 0) with
  accessFlags := 1537
  interfaces := #[3]
  cf := some (fileOf pool5 8 #[] #[] 1537 26 #[28] #[])
  fields := #[]
  methods := #[]
  instanceTypes := #[]
  staticTypes := #[]
  resolved := Array.replicate 57 none
  statics := none }

def pool6 : Array CpInfo := pool [(8, .class_ 10), (1, u "java/util/List"), (64, u "get"), (0, u "(I)Ljava/lang/Object;"), (2, u "size"), (0, u "()I"), (22, .class_ 104), (0, u "java/lang/Object"), (15, .class_ 121), (0, u "java/util/SequencedCollection")] 129

def k6m0 : Method := { name := "size", desc := "()I", sig := { parameters := [], returnType := some .int }, accessFlags := 1025, code := none }
def k6m1 : Method := { name := "get", desc := "(I)Ljava/lang/Object;", sig := { parameters := [.int], returnType := some (.object "java/lang/Object") }, accessFlags := 1025, code := none }
/-- java/util/List -/
def k6 : Class := { plain "java/util/List" (some 0) with
  accessFlags := 1537
  interfaces := #[5]
  cf := some (fileOf pool6 8 #[] #[{ accessFlags := 1025, nameIndex := 79, descriptorIndex := 80, attributes := #[] }, { accessFlags := 1025, nameIndex := 75, descriptorIndex := 76, attributes := #[] }] 1537 103 #[120] #[])
  fields := #[]
  methods := #[k6m0, k6m1]
  instanceTypes := #[]
  staticTypes := #[]
  resolved := Array.replicate 251 none
  statics := none }

def pool7 : Array CpInfo := pool [(1, .methodref 2 3), (0, .class_ 4), (0, .nameAndType 5 6), (0, u "java/util/AbstractCollection"), (0, u "<init>"), (0, u "()V"), (0, .fieldref 8 9), (0, .class_ 10), (0, .nameAndType 11 12), (0, u "java/util/AbstractList"), (0, u "modCount"), (0, u "I"), (64, .class_ 78), (0, u "java/util/AbstractList$Itr"), (3, .class_ 83), (0, u "java/util/AbstractList$ListItr"), (9, .class_ 94), (0, u "java/util/AbstractList$RandomAccessSubList"), (3, .class_ 99), (0, u "java/util/AbstractList$SubList"), (33, .class_ 134), (0, u "java/util/List"), (73, .class_ 209), (0, u "java/util/AbstractList$SubList$1"), (0, .class_ 211), (0, u "java/util/AbstractList$RandomAccessSpliterator")] 6

def k7c0 : Code := { maxStack := 2, maxLocals := 1, code := jdk_39_method_1_code, exceptionTable := #[], attributes := #[] }
def k7m0 : Method := { name := "<init>", desc := "()V", sig := { parameters := [], returnType := none }, accessFlags := 4, code := some k7c0 }
/-- java/util/AbstractList -/
def k7 : Class := { plain "java/util/AbstractList" (some 4) with
  accessFlags := 1057
  interfaces := #[6]
  cf := some (fileOf pool7 8 #[.nestMembers #[93, 98, 208, 210, 82, 77]] #[{ accessFlags := 4, nameIndex := 5, descriptorIndex := 6, attributes := #[] }] 1057 2 #[133] #[{ accessFlags := 132, nameIndex := 11, descriptorIndex := 12, attributes := #[] }])
  fields := #[{ name := "modCount", type := .int, accessFlags := 132, slot := 0, constantValue := 0 }]
  methods := #[k7m0]
  instanceTypes := #[.int]
  staticTypes := #[]
  resolved := Array.replicate 218 none
  statics := none }

def pool8 : Array CpInfo := pool [(1, .class_ 2), (0, u "java/util/RandomAccess"), (0, .class_ 4), (0, u "java/lang/Object")] 2

/-- java/util/RandomAccess -/
def k8 : Class := { plain "java/util/RandomAccess" (some 0) with
  accessFlags := 1537
  interfaces := #[]
  cf := some (fileOf pool8 1 #[] #[] 1537 3 #[] #[])
  fields := #[]
  methods := #[]
  instanceTypes := #[]
  staticTypes := #[]
  resolved := Array.replicate 7 none
  statics := none }

def pool9 : Array CpInfo := pool [(1, .class_ 2), (0, u "java/lang/Cloneable"), (0, .class_ 4), (0, u "java/lang/Object")] 2

/-- java/lang/Cloneable -/
def k9 : Class := { plain "java/lang/Cloneable" (some 0) with
  accessFlags := 1537
  interfaces := #[]
  cf := some (fileOf pool9 1 #[] #[] 1537 3 #[] #[])
  fields := #[]
  methods := #[]
  instanceTypes := #[]
  staticTypes := #[]
  resolved := Array.replicate 7 none
  statics := none }

def pool10 : Array CpInfo := pool [(1, .class_ 2), (0, u "java/io/Serializable"), (0, .class_ 4), (0, u "java/lang/Object")] 2

/-- java/io/Serializable -/
def k10 : Class := { plain "java/io/Serializable" (some 0) with
  accessFlags := 1537
  interfaces := #[]
  cf := some (fileOf pool10 1 #[] #[] 1537 3 #[] #[])
  fields := #[]
  methods := #[]
  instanceTypes := #[]
  staticTypes := #[]
  resolved := Array.replicate 7 none
  statics := none }

def pool11 : Array CpInfo := pool [(1, .methodref 2 3), (0, .class_ 4), (0, .nameAndType 5 6), (0, u "java/util/AbstractList"), (0, u "<init>"), (0, u "()V"), (0, .class_ 8), (0, u "java/lang/Object"), (0, .fieldref 10 11), (0, .class_ 12), (0, .nameAndType 13 14), (0, u "java/util/ArrayList"), (0, u "elementData"), (0, u "[Ljava/lang/Object;"), (2, u "EMPTY_ELEMENTDATA"), (21, .fieldref 10 40), (0, .nameAndType 41 14), (0, u "DEFAULTCAPACITY_EMPTY_ELEMENTDATA"), (5, u "()[Ljava/lang/Object;"), (0, .fieldref 10 49), (0, .nameAndType 50 51), (0, u "size"), (0, u "I"), (11, .fieldref 10 64), (0, .nameAndType 65 51), (0, u "modCount"), (3, .methodref 10 70), (0, .nameAndType 71 72), (0, u "grow"), (0, u "(I)[Ljava/lang/Object;"), (6, .methodref 80 81), (0, .class_ 82), (0, .nameAndType 83 84), (0, u "java/lang/Math"), (0, u "max"), (0, u "(II)I"), (11, u "(Ljava/lang/Object;)Z"), (21, .methodref 119 120), (0, .class_ 121), (0, .nameAndType 122 84), (0, u "java/util/Objects"), (0, u "checkIndex"), (0, .methodref 10 124), (0, .nameAndType 13 125), (0, u "(I)Ljava/lang/Object;"), (3, .methodref 10 130), (0, .nameAndType 71 47), (0, .methodref 10 132), (0, .nameAndType 133 134), (0, u "add"), (0, u "(Ljava/lang/Object;[Ljava/lang/Object;I)V"), (13, .class_ 149), (0, u "java/util/List"), (36, u "()I"), (75, .class_ 263), (0, u "java/util/ArrayList$ListItr"), (3, .class_ 268), (0, u "java/util/ArrayList$Itr"), (7, .class_ 277), (0, u "java/util/ArrayList$SubList"), (12, .class_ 291), (0, u "java/util/ArrayList$ArrayListSpliterator"), (37, .class_ 330), (0, u "java/util/RandomAccess"), (0, .class_ 332), (0, u "java/lang/Cloneable"), (0, .class_ 334), (0, u "java/io/Serializable"), (0, u "serialVersionUID"), (0, u "J"), (3, u "DEFAULT_CAPACITY"), (40, u "get"), (118, .class_ 501), (0, u "java/util/ArrayList$SubList$2"), (0, .class_ 503), (0, u "java/util/ArrayList$SubList$1")] 5

def k11c0 : Code := { maxStack := 2, maxLocals := 1, code := jdk_38_method_2_code, exceptionTable := #[], attributes := #[] }
def k11m0 : Method := { name := "<init>", desc := "()V", sig := { parameters := [], returnType := none }, accessFlags := 1, code := some k11c0 }
def k11c1 : Code := { maxStack := 4, maxLocals := 4, code := jdk_38_method_6_code, exceptionTable := #[], attributes := #[] }
def k11m1 : Method := { name := "grow", desc := "(I)[Ljava/lang/Object;", sig := { parameters := [.int], returnType := some (.array (.object "java/lang/Object")) }, accessFlags := 2, code := some k11c1 }
def k11c2 : Code := { maxStack := 3, maxLocals := 1, code := jdk_38_method_7_code, exceptionTable := #[], attributes := #[] }
def k11m2 : Method := { name := "grow", desc := "()[Ljava/lang/Object;", sig := { parameters := [], returnType := some (.array (.object "java/lang/Object")) }, accessFlags := 2, code := some k11c2 }
def k11c3 : Code := { maxStack := 1, maxLocals := 1, code := jdk_38_method_8_code, exceptionTable := #[], attributes := #[] }
def k11m3 : Method := { name := "size", desc := "()I", sig := { parameters := [], returnType := some .int }, accessFlags := 1, code := some k11c3 }
def k11c4 : Code := { maxStack := 2, maxLocals := 2, code := jdk_38_method_18_code, exceptionTable := #[], attributes := #[] }
def k11m4 : Method := { name := "elementData", desc := "(I)Ljava/lang/Object;", sig := { parameters := [.int], returnType := some (.object "java/lang/Object") }, accessFlags := 0, code := some k11c4 }
def k11c5 : Code := { maxStack := 2, maxLocals := 2, code := jdk_38_method_20_code, exceptionTable := #[], attributes := #[] }
def k11m5 : Method := { name := "get", desc := "(I)Ljava/lang/Object;", sig := { parameters := [.int], returnType := some (.object "java/lang/Object") }, accessFlags := 1, code := some k11c5 }
def k11c6 : Code := { maxStack := 3, maxLocals := 4, code := jdk_38_method_24_code, exceptionTable := #[], attributes := #[] }
def k11m6 : Method := { name := "add", desc := "(Ljava/lang/Object;[Ljava/lang/Object;I)V", sig := { parameters := [(.object "java/lang/Object"), (.array (.object "java/lang/Object")), .int], returnType := none }, accessFlags := 2, code := some k11c6 }
def k11c7 : Code := { maxStack := 4, maxLocals := 2, code := jdk_38_method_25_code, exceptionTable := #[], attributes := #[] }
def k11m7 : Method := { name := "add", desc := "(Ljava/lang/Object;)Z", sig := { parameters := [(.object "java/lang/Object")], returnType := some .boolean }, accessFlags := 1, code := some k11c7 }
/-- java/util/ArrayList -/
def k11 : Class := { plain "java/util/ArrayList" (some 7) with
  accessFlags := 33
  interfaces := #[6, 8, 9, 10]
  cf := some (fileOf pool11 10 #[.nestMembers #[290, 276, 500, 502, 262, 267]] #[{ accessFlags := 1, nameIndex := 5, descriptorIndex := 6, attributes := #[] }, { accessFlags := 2, nameIndex := 71, descriptorIndex := 72, attributes := #[] }, { accessFlags := 2, nameIndex := 71, descriptorIndex := 47, attributes := #[] }, { accessFlags := 1, nameIndex := 50, descriptorIndex := 186, attributes := #[] }, { accessFlags := 0, nameIndex := 13, descriptorIndex := 125, attributes := #[] }, { accessFlags := 1, nameIndex := 381, descriptorIndex := 125, attributes := #[] }, { accessFlags := 2, nameIndex := 133, descriptorIndex := 134, attributes := #[] }, { accessFlags := 1, nameIndex := 133, descriptorIndex := 96, attributes := #[] }] 33 2 #[148, 329, 331, 333] #[{ accessFlags := 26, nameIndex := 335, descriptorIndex := 336, attributes := #[] }, { accessFlags := 26, nameIndex := 340, descriptorIndex := 51, attributes := #[] }, { accessFlags := 26, nameIndex := 17, descriptorIndex := 14, attributes := #[] }, { accessFlags := 26, nameIndex := 41, descriptorIndex := 14, attributes := #[] }, { accessFlags := 128, nameIndex := 13, descriptorIndex := 14, attributes := #[] }, { accessFlags := 2, nameIndex := 50, descriptorIndex := 51, attributes := #[] }])
  fields := #[{ name := "serialVersionUID", type := .long, accessFlags := 26, slot := 0, constantValue := 0 }, { name := "DEFAULT_CAPACITY", type := .int, accessFlags := 26, slot := 1, constantValue := 0 }, { name := "EMPTY_ELEMENTDATA", type := (.array (.object "java/lang/Object")), accessFlags := 26, slot := 2, constantValue := 0 }, { name := "DEFAULTCAPACITY_EMPTY_ELEMENTDATA", type := (.array (.object "java/lang/Object")), accessFlags := 26, slot := 3, constantValue := 0 }, { name := "elementData", type := (.array (.object "java/lang/Object")), accessFlags := 128, slot := 1, constantValue := 0 }, { name := "size", type := .int, accessFlags := 2, slot := 2, constantValue := 0 }]
  methods := #[k11m0, k11m1, k11m2, k11m3, k11m4, k11m5, k11m6, k11m7]
  instanceTypes := #[.int, (.array (.object "java/lang/Object")), .int]
  staticTypes := #[.long, .int, (.array (.object "java/lang/Object")), (.array (.object "java/lang/Object"))]
  resolved := Array.replicate 509 none
  statics := some 0 }

def pool12 : Array CpInfo := pool [(2, .class_ 4), (1, u "java/lang/Object"), (6, .class_ 13), (1, u "com/example/usher/usher/TypeIndex"), (0, u "importIndexesByType"), (0, u "Ljava/util/Map;"), (1, .class_ 19), (1, u "java/util/List"), (4, u "beans"), (0, u "Ljava/util/List;"), (0, .interfaceMethodref 17 27), (0, .nameAndType 28 29), (0, u "size"), (0, u "()I"), (0, .interfaceMethodref 17 31), (0, .nameAndType 32 33), (0, u "get"), (0, u "(I)Ljava/lang/Object;"), (0, .class_ 35), (0, u "com/example/usher/usher/TypeIndex$Entry"), (37, .class_ 75), (1, u "java/lang/Integer"), (20, u "only"), (0, u "(Ljava/util/List;)I"), (7, .methodref 73 106), (0, .nameAndType 107 29), (0, u "intValue")] 104

def k12c0 : Code := { maxStack := 2, maxLocals := 2, code := prog_21_method_6_code, exceptionTable := #[], attributes := #[] }
def k12m0 : Method := { name := "only", desc := "(Ljava/util/List;)I", sig := { parameters := [(.object "java/util/List")], returnType := some .int }, accessFlags := 8, code := some k12c0 }
/-- com/example/usher/usher/TypeIndex -/
def k12 : Class := { plain "com/example/usher/usher/TypeIndex" (some 0) with
  accessFlags := 32
  interfaces := #[]
  cf := some (fileOf pool12 11 #[.nestMembers #[34]] #[{ accessFlags := 8, nameIndex := 96, descriptorIndex := 97, attributes := #[] }] 32 2 #[] #[{ accessFlags := 18, nameIndex := 24, descriptorIndex := 25, attributes := #[] }, { accessFlags := 18, nameIndex := 14, descriptorIndex := 15, attributes := #[] }])
  fields := #[{ name := "beans", type := (.object "java/util/List"), accessFlags := 18, slot := 0, constantValue := 0 }, { name := "importIndexesByType", type := (.object "java/util/Map"), accessFlags := 18, slot := 1, constantValue := 0 }]
  methods := #[k12m0]
  instanceTypes := #[(.object "java/util/List"), (.object "java/util/Map")]
  staticTypes := #[]
  resolved := Array.replicate 212 none
  statics := none }

def pool13 : Array CpInfo := pool [(1, .methodref 2 3), (0, .class_ 4), (0, .nameAndType 5 6), (0, u "java/lang/Object"), (0, u "<init>"), (0, u "()V"), (1, .class_ 10), (1, u "java/lang/Number"), (2, .class_ 14), (0, u "java/io/Serializable"), (0, u "serialVersionUID"), (0, u "J")] 20

def k13c0 : Code := { maxStack := 1, maxLocals := 1, code := jdk_18_method_1_code, exceptionTable := #[], attributes := #[] }
def k13m0 : Method := { name := "<init>", desc := "()V", sig := { parameters := [], returnType := none }, accessFlags := 1, code := some k13c0 }
/-- java/lang/Number -/
def k13 : Class := { plain "java/lang/Number" (some 0) with
  accessFlags := 1057
  interfaces := #[10]
  cf := some (fileOf pool13 8 #[] #[{ accessFlags := 1, nameIndex := 5, descriptorIndex := 6, attributes := #[] }] 1057 2 #[13] #[{ accessFlags := 26, nameIndex := 15, descriptorIndex := 16, attributes := #[] }])
  fields := #[{ name := "serialVersionUID", type := .long, accessFlags := 26, slot := 0, constantValue := 0 }]
  methods := #[k13m0]
  instanceTypes := #[]
  staticTypes := #[.long]
  resolved := Array.replicate 37 none
  statics := none }

def pool14 : Array CpInfo := pool [(1, .class_ 2), (0, u "java/lang/Comparable"), (0, .class_ 4), (0, u "java/lang/Object")] 7

/-- java/lang/Comparable -/
def k14 : Class := { plain "java/lang/Comparable" (some 0) with
  accessFlags := 1537
  interfaces := #[]
  cf := some (fileOf pool14 1 #[] #[] 1537 3 #[] #[])
  fields := #[]
  methods := #[]
  instanceTypes := #[]
  staticTypes := #[]
  resolved := Array.replicate 12 none
  statics := none }

def pool15 : Array CpInfo := pool [(1, .class_ 2), (0, u "java/lang/constant/Constable"), (0, .class_ 4), (0, u "java/lang/Object")] 6

/-- java/lang/constant/Constable -/
def k15 : Class := { plain "java/lang/constant/Constable" (some 0) with
  accessFlags := 1537
  interfaces := #[]
  cf := some (fileOf pool15 1 #[] #[] 1537 3 #[] #[])
  fields := #[]
  methods := #[]
  instanceTypes := #[]
  staticTypes := #[]
  resolved := Array.replicate 11 none
  statics := none }

def pool16 : Array CpInfo := pool [(1, .class_ 2), (0, u "java/lang/constant/ConstantDesc"), (0, .class_ 4), (0, u "java/lang/Object")] 32

/-- java/lang/constant/ConstantDesc -/
def k16 : Class := { plain "java/lang/constant/ConstantDesc" (some 0) with
  accessFlags := 1537
  interfaces := #[]
  cf := some (fileOf pool16 1 #[] #[] 1537 3 #[] #[])
  fields := #[]
  methods := #[]
  instanceTypes := #[]
  staticTypes := #[]
  resolved := Array.replicate 37 none
  statics := none }

def pool17 : Array CpInfo := pool [(1, .class_ 2), (0, u "java/lang/Integer"), (16, u "digits"), (0, u "[C"), (46, u "<init>"), (17, u "DigitOnes"), (0, u "[B"), (2, u "DigitTens"), (10, .nameAndType 67 101), (0, u "()V"), (19, u "()I"), (65, u "valueOf"), (0, u "(I)Ljava/lang/Integer;"), (0, .class_ 190), (0, u "java/lang/Integer$IntegerCache"), (0, .fieldref 189 192), (0, .nameAndType 193 194), (0, u "high"), (0, u "I"), (0, .fieldref 189 196), (0, .nameAndType 197 198), (0, u "cache"), (0, u "[Ljava/lang/Integer;"), (0, .methodref 1 200), (0, .nameAndType 67 201), (0, u "(I)V"), (0, .methodref 203 100), (0, .class_ 204), (0, u "java/lang/Number"), (0, .fieldref 1 206), (0, .nameAndType 207 194), (0, u "value"), (5, u "intValue"), (88, u "TYPE"), (0, u "Ljava/lang/Class;"), (0, .class_ 305), (0, u "java/lang/Comparable"), (0, .class_ 307), (0, u "java/lang/constant/Constable"), (0, .class_ 309), (0, u "java/lang/constant/ConstantDesc"), (0, u "MIN_VALUE"), (1, u "MAX_VALUE"), (3, u "SIZE"), (1, u "BYTES"), (1, u "serialVersionUID"), (0, u "J")] 131

def k17c0 : Code := { maxStack := 3, maxLocals := 1, code := jdk_33_method_22_code, exceptionTable := #[], attributes := #[] }
def k17m0 : Method := { name := "valueOf", desc := "(I)Ljava/lang/Integer;", sig := { parameters := [.int], returnType := some (.object "java/lang/Integer") }, accessFlags := 9, code := some k17c0 }
def k17c1 : Code := { maxStack := 2, maxLocals := 2, code := jdk_33_method_23_code, exceptionTable := #[], attributes := #[] }
def k17m1 : Method := { name := "<init>", desc := "(I)V", sig := { parameters := [.int], returnType := none }, accessFlags := 1, code := some k17c1 }
def k17c2 : Code := { maxStack := 1, maxLocals := 1, code := jdk_33_method_27_code, exceptionTable := #[], attributes := #[] }
def k17m2 : Method := { name := "intValue", desc := "()I", sig := { parameters := [], returnType := some .int }, accessFlags := 1, code := some k17c2 }
/-- java/lang/Integer -/
def k17 : Class := { plain "java/lang/Integer" (some 13) with
  accessFlags := 49
  interfaces := #[14, 15, 16]
  cf := some (fileOf pool17 1 #[.nestMembers #[189]] #[{ accessFlags := 9, nameIndex := 187, descriptorIndex := 188, attributes := #[] }, { accessFlags := 1, nameIndex := 67, descriptorIndex := 201, attributes := #[] }, { accessFlags := 1, nameIndex := 213, descriptorIndex := 121, attributes := #[] }] 49 203 #[304, 306, 308] #[{ accessFlags := 25, nameIndex := 310, descriptorIndex := 194, attributes := #[] }, { accessFlags := 25, nameIndex := 312, descriptorIndex := 194, attributes := #[] }, { accessFlags := 25, nameIndex := 302, descriptorIndex := 303, attributes := #[] }, { accessFlags := 24, nameIndex := 19, descriptorIndex := 20, attributes := #[] }, { accessFlags := 24, nameIndex := 89, descriptorIndex := 86, attributes := #[] }, { accessFlags := 24, nameIndex := 85, descriptorIndex := 86, attributes := #[] }, { accessFlags := 18, nameIndex := 207, descriptorIndex := 194, attributes := #[] }, { accessFlags := 25, nameIndex := 316, descriptorIndex := 194, attributes := #[] }, { accessFlags := 25, nameIndex := 318, descriptorIndex := 194, attributes := #[] }, { accessFlags := 26, nameIndex := 320, descriptorIndex := 321, attributes := #[] }])
  fields := #[{ name := "MIN_VALUE", type := .int, accessFlags := 25, slot := 0, constantValue := 0 }, { name := "MAX_VALUE", type := .int, accessFlags := 25, slot := 1, constantValue := 0 }, { name := "TYPE", type := (.object "java/lang/Class"), accessFlags := 25, slot := 2, constantValue := 0 }, { name := "digits", type := (.array .char), accessFlags := 24, slot := 3, constantValue := 0 }, { name := "DigitTens", type := (.array .byte), accessFlags := 24, slot := 4, constantValue := 0 }, { name := "DigitOnes", type := (.array .byte), accessFlags := 24, slot := 5, constantValue := 0 }, { name := "value", type := .int, accessFlags := 18, slot := 0, constantValue := 0 }, { name := "SIZE", type := .int, accessFlags := 25, slot := 6, constantValue := 0 }, { name := "BYTES", type := .int, accessFlags := 25, slot := 7, constantValue := 0 }, { name := "serialVersionUID", type := .long, accessFlags := 26, slot := 8, constantValue := 0 }]
  methods := #[k17m0, k17m1, k17m2]
  instanceTypes := #[.int]
  staticTypes := #[.int, .int, (.object "java/lang/Class"), (.array .char), (.array .byte), (.array .byte), .int, .int, .long]
  resolved := Array.replicate 453 none
  statics := none }

def pool18 : Array CpInfo := pool [(2, .class_ 4), (1, u "java/lang/Object"), (0, u "<init>"), (0, u "()V"), (0, .class_ 8), (0, u "java/lang/Integer"), (7, .class_ 18), (1, u "java/lang/Integer$IntegerCache"), (0, u "$assertionsDisabled"), (0, u "Z"), (26, u "high"), (0, u "I"), (8, u "archivedCache"), (0, u "[Ljava/lang/Integer;"), (12, u "cache"), (0, u "low")] 27

def k18m0 : Method := { name := "<init>", desc := "()V", sig := { parameters := [], returnType := none }, accessFlags := 2, code := none }
/-- java/lang/Integer$IntegerCache -/
def k18 : Class := { plain "java/lang/Integer$IntegerCache" (some 0) with
  accessFlags := 48
  interfaces := #[]
  cf := some (fileOf pool18 16 #[.nestHost 7] #[{ accessFlags := 2, nameIndex := 5, descriptorIndex := 6, attributes := #[] }] 48 2 #[] #[{ accessFlags := 24, nameIndex := 72, descriptorIndex := 48, attributes := #[] }, { accessFlags := 24, nameIndex := 47, descriptorIndex := 48, attributes := #[] }, { accessFlags := 24, nameIndex := 71, descriptorIndex := 58, attributes := #[] }, { accessFlags := 8, nameIndex := 57, descriptorIndex := 58, attributes := #[] }, { accessFlags := 4120, nameIndex := 19, descriptorIndex := 20, attributes := #[] }])
  fields := #[{ name := "low", type := .int, accessFlags := 24, slot := 0, constantValue := 0 }, { name := "high", type := .int, accessFlags := 24, slot := 1, constantValue := 0 }, { name := "cache", type := (.array (.object "java/lang/Integer")), accessFlags := 24, slot := 2, constantValue := 0 }, { name := "archivedCache", type := (.array (.object "java/lang/Integer")), accessFlags := 8, slot := 3, constantValue := 0 }, { name := "$assertionsDisabled", type := .boolean, accessFlags := 4120, slot := 4, constantValue := 0 }]
  methods := #[k18m0]
  instanceTypes := #[]
  staticTypes := #[.int, .int, (.array (.object "java/lang/Integer")), (.array (.object "java/lang/Integer")), .boolean]
  resolved := Array.replicate 100 none
  statics := some 1 }

def pool19 : Array CpInfo := pool [(1, .class_ 2), (0, u "java/lang/Math"), (1, .class_ 6), (1, u "java/lang/Object"), (0, u "<init>"), (0, u "()V"), (89, .class_ 100), (1, u "java/lang/Math$RandomNumberGeneratorHolder"), (71, u "negativeZeroFloatBits"), (0, u "J"), (2, u "negativeZeroDoubleBits"), (21, u "max"), (46, u "$assertionsDisabled"), (0, u "Z"), (88, u "(II)I"), (2, u "twoToTheDoubleScaleDown"), (0, u "D"), (4, u "twoToTheDoubleScaleUp"), (9, u "E"), (3, u "PI"), (2, u "TAU"), (2, u "DEGREES_TO_RADIANS"), (0, u "RADIANS_TO_DEGREES")] 94

def k19m0 : Method := { name := "<init>", desc := "()V", sig := { parameters := [], returnType := none }, accessFlags := 2, code := none }
def k19c1 : Code := { maxStack := 2, maxLocals := 2, code := jdk_29_method_65_code, exceptionTable := #[], attributes := #[] }
def k19m1 : Method := { name := "max", desc := "(II)I", sig := { parameters := [.int, .int], returnType := some .int }, accessFlags := 9, code := some k19c1 }
/-- java/lang/Math -/
def k19 : Class := { plain "java/lang/Math" (some 0) with
  accessFlags := 49
  interfaces := #[]
  cf := some (fileOf pool19 1 #[.nestMembers #[98]] #[{ accessFlags := 2, nameIndex := 7, descriptorIndex := 8, attributes := #[] }, { accessFlags := 9, nameIndex := 198, descriptorIndex := 335, attributes := #[] }] 49 4 #[] #[{ accessFlags := 25, nameIndex := 354, descriptorIndex := 339, attributes := #[] }, { accessFlags := 25, nameIndex := 358, descriptorIndex := 339, attributes := #[] }, { accessFlags := 25, nameIndex := 361, descriptorIndex := 339, attributes := #[] }, { accessFlags := 26, nameIndex := 364, descriptorIndex := 339, attributes := #[] }, { accessFlags := 26, nameIndex := 365, descriptorIndex := 339, attributes := #[] }, { accessFlags := 26, nameIndex := 172, descriptorIndex := 173, attributes := #[] }, { accessFlags := 26, nameIndex := 176, descriptorIndex := 173, attributes := #[] }, { accessFlags := 8, nameIndex := 344, descriptorIndex := 339, attributes := #[] }, { accessFlags := 8, nameIndex := 338, descriptorIndex := 339, attributes := #[] }, { accessFlags := 4120, nameIndex := 245, descriptorIndex := 246, attributes := #[] }])
  fields := #[{ name := "E", type := .double, accessFlags := 25, slot := 0, constantValue := 0 }, { name := "PI", type := .double, accessFlags := 25, slot := 1, constantValue := 0 }, { name := "TAU", type := .double, accessFlags := 25, slot := 2, constantValue := 0 }, { name := "DEGREES_TO_RADIANS", type := .double, accessFlags := 26, slot := 3, constantValue := 0 }, { name := "RADIANS_TO_DEGREES", type := .double, accessFlags := 26, slot := 4, constantValue := 0 }, { name := "negativeZeroFloatBits", type := .long, accessFlags := 26, slot := 5, constantValue := 0 }, { name := "negativeZeroDoubleBits", type := .long, accessFlags := 26, slot := 6, constantValue := 0 }, { name := "twoToTheDoubleScaleUp", type := .double, accessFlags := 8, slot := 7, constantValue := 0 }, { name := "twoToTheDoubleScaleDown", type := .double, accessFlags := 8, slot := 8, constantValue := 0 }, { name := "$assertionsDisabled", type := .boolean, accessFlags := 4120, slot := 9, constantValue := 0 }]
  methods := #[k19m0, k19m1]
  instanceTypes := #[]
  staticTypes := #[.double, .double, .double, .double, .double, .long, .long, .double, .double, .boolean]
  resolved := Array.replicate 460 none
  statics := none }

def pool20 : Array CpInfo := pool [(2, .class_ 4), (1, u "java/lang/Object"), (0, u "<init>"), (0, u "()V"), (35, .class_ 44), (1, u "java/util/Objects"), (60, .methodref 106 107), (0, .class_ 108), (0, .nameAndType 109 110), (0, u "jdk/internal/util/Preconditions"), (0, u "checkIndex"), (0, u "(IILjava/util/function/BiFunction;)I"), (60, u "(II)I")] 12

def k20m0 : Method := { name := "<init>", desc := "()V", sig := { parameters := [], returnType := none }, accessFlags := 2, code := none }
def k20c1 : Code := { maxStack := 3, maxLocals := 2, code := jdk_31_method_17_code, exceptionTable := #[], attributes := #[] }
def k20m1 : Method := { name := "checkIndex", desc := "(II)I", sig := { parameters := [.int, .int], returnType := some .int }, accessFlags := 9, code := some k20c1 }
/-- java/util/Objects -/
def k20 : Class := { plain "java/util/Objects" (some 0) with
  accessFlags := 49
  interfaces := #[]
  cf := some (fileOf pool20 42 #[] #[{ accessFlags := 2, nameIndex := 5, descriptorIndex := 6, attributes := #[] }, { accessFlags := 9, nameIndex := 109, descriptorIndex := 171, attributes := #[] }] 49 2 #[] #[])
  fields := #[]
  methods := #[k20m0, k20m1]
  instanceTypes := #[]
  staticTypes := #[]
  resolved := Array.replicate 184 none
  statics := none }

def pool21 : Array CpInfo := pool [(2, .class_ 4), (1, u "java/lang/Object"), (0, u "<init>"), (0, u "()V"), (17, .class_ 26), (1, u "jdk/internal/util/Preconditions"), (6, u "checkIndex"), (21, .class_ 56), (0, u "jdk/internal/util/Preconditions$4"), (57, .class_ 115), (0, u "jdk/internal/util/Preconditions$1"), (7, u "SIOOBE_FORMATTER"), (0, u "Ljava/util/function/BiFunction;"), (0, .class_ 126), (0, u "jdk/internal/util/Preconditions$2"), (3, u "AIOOBE_FORMATTER"), (0, .class_ 132), (0, u "jdk/internal/util/Preconditions$3"), (3, u "IOOBE_FORMATTER"), (41, u "(IILjava/util/function/BiFunction;)I")] 15

def k21m0 : Method := { name := "<init>", desc := "()V", sig := { parameters := [], returnType := none }, accessFlags := 1, code := none }
def k21c1 : Code := { maxStack := 3, maxLocals := 3, code := jdk_41_method_11_code, exceptionTable := #[], attributes := #[] }
def k21m1 : Method := { name := "checkIndex", desc := "(IILjava/util/function/BiFunction;)I", sig := { parameters := [.int, .int, (.object "java/util/function/BiFunction")], returnType := some .int }, accessFlags := 9, code := some k21c1 }
/-- jdk/internal/util/Preconditions -/
def k21 : Class := { plain "jdk/internal/util/Preconditions" (some 0) with
  accessFlags := 33
  interfaces := #[]
  cf := some (fileOf pool21 24 #[.nestMembers #[55, 131, 125, 114]] #[{ accessFlags := 1, nameIndex := 5, descriptorIndex := 6, attributes := #[] }, { accessFlags := 9, nameIndex := 33, descriptorIndex := 178, attributes := #[] }] 33 2 #[] #[{ accessFlags := 25, nameIndex := 123, descriptorIndex := 124, attributes := #[] }, { accessFlags := 25, nameIndex := 130, descriptorIndex := 124, attributes := #[] }, { accessFlags := 25, nameIndex := 136, descriptorIndex := 124, attributes := #[] }])
  fields := #[{ name := "SIOOBE_FORMATTER", type := (.object "java/util/function/BiFunction"), accessFlags := 25, slot := 0, constantValue := 0 }, { name := "AIOOBE_FORMATTER", type := (.object "java/util/function/BiFunction"), accessFlags := 25, slot := 1, constantValue := 0 }, { name := "IOOBE_FORMATTER", type := (.object "java/util/function/BiFunction"), accessFlags := 25, slot := 2, constantValue := 0 }]
  methods := #[k21m0, k21m1]
  instanceTypes := #[]
  staticTypes := #[(.object "java/util/function/BiFunction"), (.object "java/util/function/BiFunction"), (.object "java/util/function/BiFunction")]
  resolved := Array.replicate 194 none
  statics := none }

/-- the primitive byte -/
def k22 : Class := { plain "byte" none with kind := .primitive 'B', accessFlags := 0x411 }
/-- [B -/
def k23 : Class := { plain "[B" (some 0) with kind := .array 22 .byte, interfaces := #[9, 10], accessFlags := 1041 }

/-- the primitive int -/
def k24 : Class := { plain "int" none with kind := .primitive 'I', accessFlags := 0x411 }
/-- [I -/
def k25 : Class := { plain "[I" (some 0) with kind := .array 24 .int, interfaces := #[9, 10], accessFlags := 1041 }

/-- [Ljava/lang/Integer; -/
def k26 : Class := { plain "[Ljava/lang/Integer;" (some 0) with kind := .array 17 (.object "java/lang/Integer"), interfaces := #[9, 10], accessFlags := 1041 }

/-- [Ljava/lang/Object; -/
def k27 : Class := { plain "[Ljava/lang/Object;" (some 0) with kind := .array 0 (.object "java/lang/Object"), interfaces := #[9, 10], accessFlags := 1041 }

def heap : Heap := #[{ cls := 11, slots := #[.long 0, .int 0, .ref 259, .ref 260], vm := .statics 11 },
  { cls := 18, slots := #[.int 0, .int 127, .ref 2, .null, .int 0], vm := .statics 18 },
  { cls := 26, slots := #[.ref 3, .ref 4, .ref 5, .ref 6, .ref 7, .ref 8, .ref 9, .ref 10, .ref 11, .ref 12, .ref 13, .ref 14, .ref 15, .ref 16, .ref 17, .ref 18, .ref 19, .ref 20, .ref 21, .ref 22, .ref 23, .ref 24, .ref 25, .ref 26, .ref 27, .ref 28, .ref 29, .ref 30, .ref 31, .ref 32, .ref 33, .ref 34, .ref 35, .ref 36, .ref 37, .ref 38, .ref 39, .ref 40, .ref 41, .ref 42, .ref 43, .ref 44, .ref 45, .ref 46, .ref 47, .ref 48, .ref 49, .ref 50, .ref 51, .ref 52, .ref 53, .ref 54, .ref 55, .ref 56, .ref 57, .ref 58, .ref 59, .ref 60, .ref 61, .ref 62, .ref 63, .ref 64, .ref 65, .ref 66, .ref 67, .ref 68, .ref 69, .ref 70, .ref 71, .ref 72, .ref 73, .ref 74, .ref 75, .ref 76, .ref 77, .ref 78, .ref 79, .ref 80, .ref 81, .ref 82, .ref 83, .ref 84, .ref 85, .ref 86, .ref 87, .ref 88, .ref 89, .ref 90, .ref 91, .ref 92, .ref 93, .ref 94, .ref 95, .ref 96, .ref 97, .ref 98, .ref 99, .ref 100, .ref 101, .ref 102, .ref 103, .ref 104, .ref 105, .ref 106, .ref 107, .ref 108, .ref 109, .ref 110, .ref 111, .ref 112, .ref 113, .ref 114, .ref 115, .ref 116, .ref 117, .ref 118, .ref 119, .ref 120, .ref 121, .ref 122, .ref 123, .ref 124, .ref 125, .ref 126, .ref 127, .ref 128, .ref 129, .ref 130, .ref 131, .ref 132, .ref 133, .ref 134, .ref 135, .ref 136, .ref 137, .ref 138, .ref 139, .ref 140, .ref 141, .ref 142, .ref 143, .ref 144, .ref 145, .ref 146, .ref 147, .ref 148, .ref 149, .ref 150, .ref 151, .ref 152, .ref 153, .ref 154, .ref 155, .ref 156, .ref 157, .ref 158, .ref 159, .ref 160, .ref 161, .ref 162, .ref 163, .ref 164, .ref 165, .ref 166, .ref 167, .ref 168, .ref 169, .ref 170, .ref 171, .ref 172, .ref 173, .ref 174, .ref 175, .ref 176, .ref 177, .ref 178, .ref 179, .ref 180, .ref 181, .ref 182, .ref 183, .ref 184, .ref 185, .ref 186, .ref 187, .ref 188, .ref 189, .ref 190, .ref 191, .ref 192, .ref 193, .ref 194, .ref 195, .ref 196, .ref 197, .ref 198, .ref 199, .ref 200, .ref 201, .ref 202, .ref 203, .ref 204, .ref 205, .ref 206, .ref 207, .ref 208, .ref 209, .ref 210, .ref 211, .ref 212, .ref 213, .ref 214, .ref 215, .ref 216, .ref 217, .ref 218, .ref 219, .ref 220, .ref 221, .ref 222, .ref 223, .ref 224, .ref 225, .ref 226, .ref 227, .ref 228, .ref 229, .ref 230, .ref 231, .ref 232, .ref 233, .ref 234, .ref 235, .ref 236, .ref 237, .ref 238, .ref 239, .ref 240, .ref 241, .ref 242, .ref 243, .ref 244, .ref 245, .ref 246, .ref 247, .ref 248, .ref 249, .ref 250, .ref 251, .ref 252, .ref 253, .ref 254, .ref 255, .ref 256, .ref 257, .ref 258], vm := .none },
  { cls := 17, slots := #[.int (-128)], vm := .none },
  { cls := 17, slots := #[.int (-127)], vm := .none },
  { cls := 17, slots := #[.int (-126)], vm := .none },
  { cls := 17, slots := #[.int (-125)], vm := .none },
  { cls := 17, slots := #[.int (-124)], vm := .none },
  { cls := 17, slots := #[.int (-123)], vm := .none },
  { cls := 17, slots := #[.int (-122)], vm := .none },
  { cls := 17, slots := #[.int (-121)], vm := .none },
  { cls := 17, slots := #[.int (-120)], vm := .none },
  { cls := 17, slots := #[.int (-119)], vm := .none },
  { cls := 17, slots := #[.int (-118)], vm := .none },
  { cls := 17, slots := #[.int (-117)], vm := .none },
  { cls := 17, slots := #[.int (-116)], vm := .none },
  { cls := 17, slots := #[.int (-115)], vm := .none },
  { cls := 17, slots := #[.int (-114)], vm := .none },
  { cls := 17, slots := #[.int (-113)], vm := .none },
  { cls := 17, slots := #[.int (-112)], vm := .none },
  { cls := 17, slots := #[.int (-111)], vm := .none },
  { cls := 17, slots := #[.int (-110)], vm := .none },
  { cls := 17, slots := #[.int (-109)], vm := .none },
  { cls := 17, slots := #[.int (-108)], vm := .none },
  { cls := 17, slots := #[.int (-107)], vm := .none },
  { cls := 17, slots := #[.int (-106)], vm := .none },
  { cls := 17, slots := #[.int (-105)], vm := .none },
  { cls := 17, slots := #[.int (-104)], vm := .none },
  { cls := 17, slots := #[.int (-103)], vm := .none },
  { cls := 17, slots := #[.int (-102)], vm := .none },
  { cls := 17, slots := #[.int (-101)], vm := .none },
  { cls := 17, slots := #[.int (-100)], vm := .none },
  { cls := 17, slots := #[.int (-99)], vm := .none },
  { cls := 17, slots := #[.int (-98)], vm := .none },
  { cls := 17, slots := #[.int (-97)], vm := .none },
  { cls := 17, slots := #[.int (-96)], vm := .none },
  { cls := 17, slots := #[.int (-95)], vm := .none },
  { cls := 17, slots := #[.int (-94)], vm := .none },
  { cls := 17, slots := #[.int (-93)], vm := .none },
  { cls := 17, slots := #[.int (-92)], vm := .none },
  { cls := 17, slots := #[.int (-91)], vm := .none },
  { cls := 17, slots := #[.int (-90)], vm := .none },
  { cls := 17, slots := #[.int (-89)], vm := .none },
  { cls := 17, slots := #[.int (-88)], vm := .none },
  { cls := 17, slots := #[.int (-87)], vm := .none },
  { cls := 17, slots := #[.int (-86)], vm := .none },
  { cls := 17, slots := #[.int (-85)], vm := .none },
  { cls := 17, slots := #[.int (-84)], vm := .none },
  { cls := 17, slots := #[.int (-83)], vm := .none },
  { cls := 17, slots := #[.int (-82)], vm := .none },
  { cls := 17, slots := #[.int (-81)], vm := .none },
  { cls := 17, slots := #[.int (-80)], vm := .none },
  { cls := 17, slots := #[.int (-79)], vm := .none },
  { cls := 17, slots := #[.int (-78)], vm := .none },
  { cls := 17, slots := #[.int (-77)], vm := .none },
  { cls := 17, slots := #[.int (-76)], vm := .none },
  { cls := 17, slots := #[.int (-75)], vm := .none },
  { cls := 17, slots := #[.int (-74)], vm := .none },
  { cls := 17, slots := #[.int (-73)], vm := .none },
  { cls := 17, slots := #[.int (-72)], vm := .none },
  { cls := 17, slots := #[.int (-71)], vm := .none },
  { cls := 17, slots := #[.int (-70)], vm := .none },
  { cls := 17, slots := #[.int (-69)], vm := .none },
  { cls := 17, slots := #[.int (-68)], vm := .none },
  { cls := 17, slots := #[.int (-67)], vm := .none },
  { cls := 17, slots := #[.int (-66)], vm := .none },
  { cls := 17, slots := #[.int (-65)], vm := .none },
  { cls := 17, slots := #[.int (-64)], vm := .none },
  { cls := 17, slots := #[.int (-63)], vm := .none },
  { cls := 17, slots := #[.int (-62)], vm := .none },
  { cls := 17, slots := #[.int (-61)], vm := .none },
  { cls := 17, slots := #[.int (-60)], vm := .none },
  { cls := 17, slots := #[.int (-59)], vm := .none },
  { cls := 17, slots := #[.int (-58)], vm := .none },
  { cls := 17, slots := #[.int (-57)], vm := .none },
  { cls := 17, slots := #[.int (-56)], vm := .none },
  { cls := 17, slots := #[.int (-55)], vm := .none },
  { cls := 17, slots := #[.int (-54)], vm := .none },
  { cls := 17, slots := #[.int (-53)], vm := .none },
  { cls := 17, slots := #[.int (-52)], vm := .none },
  { cls := 17, slots := #[.int (-51)], vm := .none },
  { cls := 17, slots := #[.int (-50)], vm := .none },
  { cls := 17, slots := #[.int (-49)], vm := .none },
  { cls := 17, slots := #[.int (-48)], vm := .none },
  { cls := 17, slots := #[.int (-47)], vm := .none },
  { cls := 17, slots := #[.int (-46)], vm := .none },
  { cls := 17, slots := #[.int (-45)], vm := .none },
  { cls := 17, slots := #[.int (-44)], vm := .none },
  { cls := 17, slots := #[.int (-43)], vm := .none },
  { cls := 17, slots := #[.int (-42)], vm := .none },
  { cls := 17, slots := #[.int (-41)], vm := .none },
  { cls := 17, slots := #[.int (-40)], vm := .none },
  { cls := 17, slots := #[.int (-39)], vm := .none },
  { cls := 17, slots := #[.int (-38)], vm := .none },
  { cls := 17, slots := #[.int (-37)], vm := .none },
  { cls := 17, slots := #[.int (-36)], vm := .none },
  { cls := 17, slots := #[.int (-35)], vm := .none },
  { cls := 17, slots := #[.int (-34)], vm := .none },
  { cls := 17, slots := #[.int (-33)], vm := .none },
  { cls := 17, slots := #[.int (-32)], vm := .none },
  { cls := 17, slots := #[.int (-31)], vm := .none },
  { cls := 17, slots := #[.int (-30)], vm := .none },
  { cls := 17, slots := #[.int (-29)], vm := .none },
  { cls := 17, slots := #[.int (-28)], vm := .none },
  { cls := 17, slots := #[.int (-27)], vm := .none },
  { cls := 17, slots := #[.int (-26)], vm := .none },
  { cls := 17, slots := #[.int (-25)], vm := .none },
  { cls := 17, slots := #[.int (-24)], vm := .none },
  { cls := 17, slots := #[.int (-23)], vm := .none },
  { cls := 17, slots := #[.int (-22)], vm := .none },
  { cls := 17, slots := #[.int (-21)], vm := .none },
  { cls := 17, slots := #[.int (-20)], vm := .none },
  { cls := 17, slots := #[.int (-19)], vm := .none },
  { cls := 17, slots := #[.int (-18)], vm := .none },
  { cls := 17, slots := #[.int (-17)], vm := .none },
  { cls := 17, slots := #[.int (-16)], vm := .none },
  { cls := 17, slots := #[.int (-15)], vm := .none },
  { cls := 17, slots := #[.int (-14)], vm := .none },
  { cls := 17, slots := #[.int (-13)], vm := .none },
  { cls := 17, slots := #[.int (-12)], vm := .none },
  { cls := 17, slots := #[.int (-11)], vm := .none },
  { cls := 17, slots := #[.int (-10)], vm := .none },
  { cls := 17, slots := #[.int (-9)], vm := .none },
  { cls := 17, slots := #[.int (-8)], vm := .none },
  { cls := 17, slots := #[.int (-7)], vm := .none },
  { cls := 17, slots := #[.int (-6)], vm := .none },
  { cls := 17, slots := #[.int (-5)], vm := .none },
  { cls := 17, slots := #[.int (-4)], vm := .none },
  { cls := 17, slots := #[.int (-3)], vm := .none },
  { cls := 17, slots := #[.int (-2)], vm := .none },
  { cls := 17, slots := #[.int (-1)], vm := .none },
  { cls := 17, slots := #[.int (0)], vm := .none },
  { cls := 17, slots := #[.int (1)], vm := .none },
  { cls := 17, slots := #[.int (2)], vm := .none },
  { cls := 17, slots := #[.int (3)], vm := .none },
  { cls := 17, slots := #[.int (4)], vm := .none },
  { cls := 17, slots := #[.int (5)], vm := .none },
  { cls := 17, slots := #[.int (6)], vm := .none },
  { cls := 17, slots := #[.int (7)], vm := .none },
  { cls := 17, slots := #[.int (8)], vm := .none },
  { cls := 17, slots := #[.int (9)], vm := .none },
  { cls := 17, slots := #[.int (10)], vm := .none },
  { cls := 17, slots := #[.int (11)], vm := .none },
  { cls := 17, slots := #[.int (12)], vm := .none },
  { cls := 17, slots := #[.int (13)], vm := .none },
  { cls := 17, slots := #[.int (14)], vm := .none },
  { cls := 17, slots := #[.int (15)], vm := .none },
  { cls := 17, slots := #[.int (16)], vm := .none },
  { cls := 17, slots := #[.int (17)], vm := .none },
  { cls := 17, slots := #[.int (18)], vm := .none },
  { cls := 17, slots := #[.int (19)], vm := .none },
  { cls := 17, slots := #[.int (20)], vm := .none },
  { cls := 17, slots := #[.int (21)], vm := .none },
  { cls := 17, slots := #[.int (22)], vm := .none },
  { cls := 17, slots := #[.int (23)], vm := .none },
  { cls := 17, slots := #[.int (24)], vm := .none },
  { cls := 17, slots := #[.int (25)], vm := .none },
  { cls := 17, slots := #[.int (26)], vm := .none },
  { cls := 17, slots := #[.int (27)], vm := .none },
  { cls := 17, slots := #[.int (28)], vm := .none },
  { cls := 17, slots := #[.int (29)], vm := .none },
  { cls := 17, slots := #[.int (30)], vm := .none },
  { cls := 17, slots := #[.int (31)], vm := .none },
  { cls := 17, slots := #[.int (32)], vm := .none },
  { cls := 17, slots := #[.int (33)], vm := .none },
  { cls := 17, slots := #[.int (34)], vm := .none },
  { cls := 17, slots := #[.int (35)], vm := .none },
  { cls := 17, slots := #[.int (36)], vm := .none },
  { cls := 17, slots := #[.int (37)], vm := .none },
  { cls := 17, slots := #[.int (38)], vm := .none },
  { cls := 17, slots := #[.int (39)], vm := .none },
  { cls := 17, slots := #[.int (40)], vm := .none },
  { cls := 17, slots := #[.int (41)], vm := .none },
  { cls := 17, slots := #[.int (42)], vm := .none },
  { cls := 17, slots := #[.int (43)], vm := .none },
  { cls := 17, slots := #[.int (44)], vm := .none },
  { cls := 17, slots := #[.int (45)], vm := .none },
  { cls := 17, slots := #[.int (46)], vm := .none },
  { cls := 17, slots := #[.int (47)], vm := .none },
  { cls := 17, slots := #[.int (48)], vm := .none },
  { cls := 17, slots := #[.int (49)], vm := .none },
  { cls := 17, slots := #[.int (50)], vm := .none },
  { cls := 17, slots := #[.int (51)], vm := .none },
  { cls := 17, slots := #[.int (52)], vm := .none },
  { cls := 17, slots := #[.int (53)], vm := .none },
  { cls := 17, slots := #[.int (54)], vm := .none },
  { cls := 17, slots := #[.int (55)], vm := .none },
  { cls := 17, slots := #[.int (56)], vm := .none },
  { cls := 17, slots := #[.int (57)], vm := .none },
  { cls := 17, slots := #[.int (58)], vm := .none },
  { cls := 17, slots := #[.int (59)], vm := .none },
  { cls := 17, slots := #[.int (60)], vm := .none },
  { cls := 17, slots := #[.int (61)], vm := .none },
  { cls := 17, slots := #[.int (62)], vm := .none },
  { cls := 17, slots := #[.int (63)], vm := .none },
  { cls := 17, slots := #[.int (64)], vm := .none },
  { cls := 17, slots := #[.int (65)], vm := .none },
  { cls := 17, slots := #[.int (66)], vm := .none },
  { cls := 17, slots := #[.int (67)], vm := .none },
  { cls := 17, slots := #[.int (68)], vm := .none },
  { cls := 17, slots := #[.int (69)], vm := .none },
  { cls := 17, slots := #[.int (70)], vm := .none },
  { cls := 17, slots := #[.int (71)], vm := .none },
  { cls := 17, slots := #[.int (72)], vm := .none },
  { cls := 17, slots := #[.int (73)], vm := .none },
  { cls := 17, slots := #[.int (74)], vm := .none },
  { cls := 17, slots := #[.int (75)], vm := .none },
  { cls := 17, slots := #[.int (76)], vm := .none },
  { cls := 17, slots := #[.int (77)], vm := .none },
  { cls := 17, slots := #[.int (78)], vm := .none },
  { cls := 17, slots := #[.int (79)], vm := .none },
  { cls := 17, slots := #[.int (80)], vm := .none },
  { cls := 17, slots := #[.int (81)], vm := .none },
  { cls := 17, slots := #[.int (82)], vm := .none },
  { cls := 17, slots := #[.int (83)], vm := .none },
  { cls := 17, slots := #[.int (84)], vm := .none },
  { cls := 17, slots := #[.int (85)], vm := .none },
  { cls := 17, slots := #[.int (86)], vm := .none },
  { cls := 17, slots := #[.int (87)], vm := .none },
  { cls := 17, slots := #[.int (88)], vm := .none },
  { cls := 17, slots := #[.int (89)], vm := .none },
  { cls := 17, slots := #[.int (90)], vm := .none },
  { cls := 17, slots := #[.int (91)], vm := .none },
  { cls := 17, slots := #[.int (92)], vm := .none },
  { cls := 17, slots := #[.int (93)], vm := .none },
  { cls := 17, slots := #[.int (94)], vm := .none },
  { cls := 17, slots := #[.int (95)], vm := .none },
  { cls := 17, slots := #[.int (96)], vm := .none },
  { cls := 17, slots := #[.int (97)], vm := .none },
  { cls := 17, slots := #[.int (98)], vm := .none },
  { cls := 17, slots := #[.int (99)], vm := .none },
  { cls := 17, slots := #[.int (100)], vm := .none },
  { cls := 17, slots := #[.int (101)], vm := .none },
  { cls := 17, slots := #[.int (102)], vm := .none },
  { cls := 17, slots := #[.int (103)], vm := .none },
  { cls := 17, slots := #[.int (104)], vm := .none },
  { cls := 17, slots := #[.int (105)], vm := .none },
  { cls := 17, slots := #[.int (106)], vm := .none },
  { cls := 17, slots := #[.int (107)], vm := .none },
  { cls := 17, slots := #[.int (108)], vm := .none },
  { cls := 17, slots := #[.int (109)], vm := .none },
  { cls := 17, slots := #[.int (110)], vm := .none },
  { cls := 17, slots := #[.int (111)], vm := .none },
  { cls := 17, slots := #[.int (112)], vm := .none },
  { cls := 17, slots := #[.int (113)], vm := .none },
  { cls := 17, slots := #[.int (114)], vm := .none },
  { cls := 17, slots := #[.int (115)], vm := .none },
  { cls := 17, slots := #[.int (116)], vm := .none },
  { cls := 17, slots := #[.int (117)], vm := .none },
  { cls := 17, slots := #[.int (118)], vm := .none },
  { cls := 17, slots := #[.int (119)], vm := .none },
  { cls := 17, slots := #[.int (120)], vm := .none },
  { cls := 17, slots := #[.int (121)], vm := .none },
  { cls := 17, slots := #[.int (122)], vm := .none },
  { cls := 17, slots := #[.int (123)], vm := .none },
  { cls := 17, slots := #[.int (124)], vm := .none },
  { cls := 17, slots := #[.int (125)], vm := .none },
  { cls := 17, slots := #[.int (126)], vm := .none },
  { cls := 17, slots := #[.int (127)], vm := .none },
  { cls := 27, slots := #[], vm := .none },
  { cls := 27, slots := #[], vm := .none }]
def classes : Array Class := #[k0, k1, k2, k3, k4, k5, k6, k7, k8, k9, k10, k11, k12, k13, k14, k15, k16, k17, k18, k19, k20, k21, k22, k23, k24, k25, k26, k27]
def interned : List (Array UInt16 × Addr) := []
def slotsUsed : Nat := 521
def theMethod : MethodId := ⟨1, 1⟩
def args0 : Array Value := #[.int 1, .int 5, .int 6, .int 7]
def aboutOver (below : List Frame) : State where
  vm := { classes := classes, interned := interned.toArray }
  heap := heap
  slotsUsed := slotsUsed
  threads := #[{ frames := .invoking theMethod args0 :: below }]
def below0 : List Frame := [.native { method := ⟨0, 0⟩, args := #[] }]
def about1 : State := aboutOver below0
def p0 : Program := .bare "" "" ""
def e0 : Env := launch0.env 0 0 0
theorem w_frames : about1.frames = Frame.invoking theMethod args0 :: below0 := rfl
set_option maxRecDepth 65536 in
theorem w_args : argsFit about1.vm theMethod args0 = true := by decide +kernel
set_option maxRecDepth 65536 in
theorem w_heap : heapFits about1 = true := by decide +kernel
set_option maxRecDepth 65536 in
theorem w_runnable : about1.curStatus? = some .runnable := by decide +kernel
set_option maxRecDepth 65536 in
theorem w_alone : about1.alone = true := by decide +kernel
set_option maxRecDepth 65536 in
theorem w_named : about1.methodNamed? x = some theMethod := by decide +kernel
set_option maxRecDepth 65536 in
theorem w_hears : about1.hears theMethod below0 = true := by decide +kernel
set_option maxRecDepth 65536 in
theorem w_ripe : about1.ripe theMethod args0 below0 = true := by decide +kernel
theorem w_running : about1.status = .running := rfl
set_option maxRecDepth 65536 in
theorem w_room : about1.hasRoom e0.platform room_1 = true :=
  launch0.hasRoom_least _ room_1 (by decide +kernel) (by decide +kernel) (by decide +kernel) (by decide +kernel) (by decide +kernel) (by decide +kernel)
theorem allAtoms_all (ts : List Jvm.Cond) (a : Array Jvm.Value) (st : Jvm.State) : (allAtoms ts).before a st = ts.all (fun c => c.before a st) := by
  induction ts with
  | nil => rfl
  | cons c t ih =>
    show (Jvm.Cond.and c (allAtoms t)).before a st = _
    rw [Jvm.Cond.before_and, ih, List.all_cons]
def words1 : List Jvm.Cond := Jvm.Cond.code x code maxLocals ret :: tables_1
/-- a 'code' word, met by the world's own term for the bytes: nothing is compared byte by byte -/
theorem code_word {y : MethodName} {bytes : ByteArray} {mx : Nat} {rt : Option FieldType} {a : Array Value} {s : State} {m : MethodId} {meth : Method} {c : Code} (h1 : s.methodNamed? y = some m) (h2 : s.vm.method? m = some meth) (h3 : meth.code = some c) (h4 : c.code = bytes)
    (h5 : (c.maxLocals == mx && c.exceptionTable.isEmpty && decide (c.maxStack ≤ mostOperands) && decide (meth.sig.returnType = rt) && !meth.locks && decide (parseMethodDescriptor y.desc = some meth.sig)) = true) : (Jvm.Cond.code y bytes mx rt).before a s = true := by
  simp only [Bool.and_eq_true, beq_iff_eq, Bool.not_eq_true', decide_eq_true_eq] at h5
  obtain ⟨⟨⟨⟨⟨g1, g2⟩, g3⟩, g4⟩, g5⟩, g6⟩ := h5
  simp [Cond.before, Cond.holds, Cond.value, h1, h2, h3, h4, g1, g2, g3, g4, g5, g6]
def isCode : Jvm.Cond → Bool
  | .code _ _ _ _ => true
  | _ => false
theorem all_split {L : List Jvm.Cond} {P : Jvm.Cond → Bool} (h1 : L.all (fun c => isCode c || P c) = true) (h2 : ∀ c ∈ L.filter isCode, P c = true) : L.all P = true := by
  refine List.all_eq_true.mpr fun c hc => ?_
  have h := List.all_eq_true.mp h1 c hc
  rcases Bool.eq_false_or_eq_true (isCode c) with hi | hi
  · exact h2 c (List.mem_filter.mpr ⟨hc, hi⟩)
  · simpa [hi] using h
set_option maxRecDepth 65536 in
theorem w_c0 : (Jvm.Cond.code x code maxLocals ret).before args0 about1 = true := code_word (m := ⟨1, 1⟩) (meth := k1m1) (c := k1c1) (by decide +kernel) rfl rfl rfl (by decide +kernel)
set_option maxRecDepth 65536 in
theorem w_c1 : (Jvm.Cond.code ({ cls := "java/util/ArrayList", name := "<init>", desc := "()V" } : Jvm.MethodName) jdk_38_method_2_code (1 : Nat) (Option.none : Option Jvm.ClassFile.FieldType)).before args0 about1 = true := code_word (m := ⟨11, 0⟩) (meth := k11m0) (c := k11c0) (by decide +kernel) rfl rfl rfl (by decide +kernel)
set_option maxRecDepth 65536 in
theorem w_c2 : (Jvm.Cond.code ({ cls := "java/util/AbstractList", name := "<init>", desc := "()V" } : Jvm.MethodName) jdk_39_method_1_code (1 : Nat) (Option.none : Option Jvm.ClassFile.FieldType)).before args0 about1 = true := code_word (m := ⟨7, 0⟩) (meth := k7m0) (c := k7c0) (by decide +kernel) rfl rfl rfl (by decide +kernel)
set_option maxRecDepth 65536 in
theorem w_c3 : (Jvm.Cond.code ({ cls := "java/util/AbstractCollection", name := "<init>", desc := "()V" } : Jvm.MethodName) jdk_22_method_1_code (1 : Nat) (Option.none : Option Jvm.ClassFile.FieldType)).before args0 about1 = true := code_word (m := ⟨4, 0⟩) (meth := k4m0) (c := k4c0) (by decide +kernel) rfl rfl rfl (by decide +kernel)
set_option maxRecDepth 65536 in
theorem w_c4 : (Jvm.Cond.code ({ cls := "java/lang/Object", name := "<init>", desc := "()V" } : Jvm.MethodName) object_method_1_code (1 : Nat) (Option.none : Option Jvm.ClassFile.FieldType)).before args0 about1 = true := code_word (m := ⟨0, 0⟩) (meth := k0m0) (c := k0c0) (by decide +kernel) rfl rfl rfl (by decide +kernel)
set_option maxRecDepth 65536 in
theorem w_c5 : (Jvm.Cond.code ({ cls := "com/example/usher/usher/TypeIndex", name := "only", desc := "(Ljava/util/List;)I" } : Jvm.MethodName) prog_21_method_6_code (2 : Nat) (Option.some Jvm.ClassFile.FieldType.int)).before args0 about1 = true := code_word (m := ⟨12, 0⟩) (meth := k12m0) (c := k12c0) (by decide +kernel) rfl rfl rfl (by decide +kernel)
set_option maxRecDepth 65536 in
theorem w_c6 : (Jvm.Cond.code ({ cls := "java/util/ArrayList", name := "size", desc := "()I" } : Jvm.MethodName) jdk_38_method_8_code (1 : Nat) (Option.some Jvm.ClassFile.FieldType.int)).before args0 about1 = true := code_word (m := ⟨11, 3⟩) (meth := k11m3) (c := k11c3) (by decide +kernel) rfl rfl rfl (by decide +kernel)
set_option maxRecDepth 65536 in
theorem w_c7 : (Jvm.Cond.code ({ cls := "java/lang/Integer", name := "valueOf", desc := "(I)Ljava/lang/Integer;" } : Jvm.MethodName) jdk_33_method_22_code (1 : Nat) (Option.some (Jvm.ClassFile.FieldType.object "java/lang/Integer"))).before args0 about1 = true := code_word (m := ⟨17, 0⟩) (meth := k17m0) (c := k17c0) (by decide +kernel) rfl rfl rfl (by decide +kernel)
set_option maxRecDepth 65536 in
theorem w_c8 : (Jvm.Cond.code ({ cls := "java/lang/Integer", name := "<init>", desc := "(I)V" } : Jvm.MethodName) jdk_33_method_23_code (2 : Nat) (Option.none : Option Jvm.ClassFile.FieldType)).before args0 about1 = true := code_word (m := ⟨17, 1⟩) (meth := k17m1) (c := k17c1) (by decide +kernel) rfl rfl rfl (by decide +kernel)
set_option maxRecDepth 65536 in
theorem w_c9 : (Jvm.Cond.code ({ cls := "java/lang/Number", name := "<init>", desc := "()V" } : Jvm.MethodName) jdk_18_method_1_code (1 : Nat) (Option.none : Option Jvm.ClassFile.FieldType)).before args0 about1 = true := code_word (m := ⟨13, 0⟩) (meth := k13m0) (c := k13c0) (by decide +kernel) rfl rfl rfl (by decide +kernel)
set_option maxRecDepth 65536 in
theorem w_c10 : (Jvm.Cond.code ({ cls := "java/util/ArrayList", name := "add", desc := "(Ljava/lang/Object;)Z" } : Jvm.MethodName) jdk_38_method_25_code (2 : Nat) (Option.some Jvm.ClassFile.FieldType.boolean)).before args0 about1 = true := code_word (m := ⟨11, 7⟩) (meth := k11m7) (c := k11c7) (by decide +kernel) rfl rfl rfl (by decide +kernel)
set_option maxRecDepth 65536 in
theorem w_c11 : (Jvm.Cond.code ({ cls := "java/util/ArrayList", name := "add", desc := "(Ljava/lang/Object;[Ljava/lang/Object;I)V" } : Jvm.MethodName) jdk_38_method_24_code (4 : Nat) (Option.none : Option Jvm.ClassFile.FieldType)).before args0 about1 = true := code_word (m := ⟨11, 6⟩) (meth := k11m6) (c := k11c6) (by decide +kernel) rfl rfl rfl (by decide +kernel)
set_option maxRecDepth 65536 in
theorem w_c12 : (Jvm.Cond.code ({ cls := "java/util/ArrayList", name := "grow", desc := "()[Ljava/lang/Object;" } : Jvm.MethodName) jdk_38_method_7_code (1 : Nat) (Option.some (Jvm.ClassFile.FieldType.array (Jvm.ClassFile.FieldType.object "java/lang/Object")))).before args0 about1 = true := code_word (m := ⟨11, 2⟩) (meth := k11m2) (c := k11c2) (by decide +kernel) rfl rfl rfl (by decide +kernel)
set_option maxRecDepth 65536 in
theorem w_c13 : (Jvm.Cond.code ({ cls := "java/util/ArrayList", name := "grow", desc := "(I)[Ljava/lang/Object;" } : Jvm.MethodName) jdk_38_method_6_code (4 : Nat) (Option.some (Jvm.ClassFile.FieldType.array (Jvm.ClassFile.FieldType.object "java/lang/Object")))).before args0 about1 = true := code_word (m := ⟨11, 1⟩) (meth := k11m1) (c := k11c1) (by decide +kernel) rfl rfl rfl (by decide +kernel)
set_option maxRecDepth 65536 in
theorem w_c14 : (Jvm.Cond.code ({ cls := "java/lang/Math", name := "max", desc := "(II)I" } : Jvm.MethodName) jdk_29_method_65_code (2 : Nat) (Option.some Jvm.ClassFile.FieldType.int)).before args0 about1 = true := code_word (m := ⟨19, 1⟩) (meth := k19m1) (c := k19c1) (by decide +kernel) rfl rfl rfl (by decide +kernel)
set_option maxRecDepth 65536 in
theorem w_c15 : (Jvm.Cond.code ({ cls := "java/util/ArrayList", name := "get", desc := "(I)Ljava/lang/Object;" } : Jvm.MethodName) jdk_38_method_20_code (2 : Nat) (Option.some (Jvm.ClassFile.FieldType.object "java/lang/Object"))).before args0 about1 = true := code_word (m := ⟨11, 5⟩) (meth := k11m5) (c := k11c5) (by decide +kernel) rfl rfl rfl (by decide +kernel)
set_option maxRecDepth 65536 in
theorem w_c16 : (Jvm.Cond.code ({ cls := "java/util/Objects", name := "checkIndex", desc := "(II)I" } : Jvm.MethodName) jdk_31_method_17_code (2 : Nat) (Option.some Jvm.ClassFile.FieldType.int)).before args0 about1 = true := code_word (m := ⟨20, 1⟩) (meth := k20m1) (c := k20c1) (by decide +kernel) rfl rfl rfl (by decide +kernel)
set_option maxRecDepth 65536 in
theorem w_c17 : (Jvm.Cond.code ({ cls := "jdk/internal/util/Preconditions", name := "checkIndex", desc := "(IILjava/util/function/BiFunction;)I" } : Jvm.MethodName) jdk_41_method_11_code (3 : Nat) (Option.some Jvm.ClassFile.FieldType.int)).before args0 about1 = true := code_word (m := ⟨21, 1⟩) (meth := k21m1) (c := k21c1) (by decide +kernel) rfl rfl rfl (by decide +kernel)
set_option maxRecDepth 65536 in
theorem w_c18 : (Jvm.Cond.code ({ cls := "java/util/ArrayList", name := "elementData", desc := "(I)Ljava/lang/Object;" } : Jvm.MethodName) jdk_38_method_18_code (2 : Nat) (Option.some (Jvm.ClassFile.FieldType.object "java/lang/Object"))).before args0 about1 = true := code_word (m := ⟨11, 4⟩) (meth := k11m4) (c := k11c4) (by decide +kernel) rfl rfl rfl (by decide +kernel)
set_option maxRecDepth 65536 in
theorem w_c19 : (Jvm.Cond.code ({ cls := "java/lang/Integer", name := "intValue", desc := "()I" } : Jvm.MethodName) jdk_33_method_27_code (1 : Nat) (Option.some Jvm.ClassFile.FieldType.int)).before args0 about1 = true := code_word (m := ⟨17, 2⟩) (meth := k17m2) (c := k17c2) (by decide +kernel) rfl rfl rfl (by decide +kernel)
def codes1 : List Jvm.Cond := [Jvm.Cond.code x code maxLocals ret, Jvm.Cond.code ({ cls := "java/util/ArrayList", name := "<init>", desc := "()V" } : Jvm.MethodName) jdk_38_method_2_code (1 : Nat) (Option.none : Option Jvm.ClassFile.FieldType), Jvm.Cond.code ({ cls := "java/util/AbstractList", name := "<init>", desc := "()V" } : Jvm.MethodName) jdk_39_method_1_code (1 : Nat) (Option.none : Option Jvm.ClassFile.FieldType), Jvm.Cond.code ({ cls := "java/util/AbstractCollection", name := "<init>", desc := "()V" } : Jvm.MethodName) jdk_22_method_1_code (1 : Nat) (Option.none : Option Jvm.ClassFile.FieldType), Jvm.Cond.code ({ cls := "java/lang/Object", name := "<init>", desc := "()V" } : Jvm.MethodName) object_method_1_code (1 : Nat) (Option.none : Option Jvm.ClassFile.FieldType), Jvm.Cond.code ({ cls := "com/example/usher/usher/TypeIndex", name := "only", desc := "(Ljava/util/List;)I" } : Jvm.MethodName) prog_21_method_6_code (2 : Nat) (Option.some Jvm.ClassFile.FieldType.int), Jvm.Cond.code ({ cls := "java/util/ArrayList", name := "size", desc := "()I" } : Jvm.MethodName) jdk_38_method_8_code (1 : Nat) (Option.some Jvm.ClassFile.FieldType.int), Jvm.Cond.code ({ cls := "java/lang/Integer", name := "valueOf", desc := "(I)Ljava/lang/Integer;" } : Jvm.MethodName) jdk_33_method_22_code (1 : Nat) (Option.some (Jvm.ClassFile.FieldType.object "java/lang/Integer")), Jvm.Cond.code ({ cls := "java/lang/Integer", name := "<init>", desc := "(I)V" } : Jvm.MethodName) jdk_33_method_23_code (2 : Nat) (Option.none : Option Jvm.ClassFile.FieldType), Jvm.Cond.code ({ cls := "java/lang/Number", name := "<init>", desc := "()V" } : Jvm.MethodName) jdk_18_method_1_code (1 : Nat) (Option.none : Option Jvm.ClassFile.FieldType), Jvm.Cond.code ({ cls := "java/util/ArrayList", name := "add", desc := "(Ljava/lang/Object;)Z" } : Jvm.MethodName) jdk_38_method_25_code (2 : Nat) (Option.some Jvm.ClassFile.FieldType.boolean), Jvm.Cond.code ({ cls := "java/util/ArrayList", name := "add", desc := "(Ljava/lang/Object;[Ljava/lang/Object;I)V" } : Jvm.MethodName) jdk_38_method_24_code (4 : Nat) (Option.none : Option Jvm.ClassFile.FieldType), Jvm.Cond.code ({ cls := "java/util/ArrayList", name := "grow", desc := "()[Ljava/lang/Object;" } : Jvm.MethodName) jdk_38_method_7_code (1 : Nat) (Option.some (Jvm.ClassFile.FieldType.array (Jvm.ClassFile.FieldType.object "java/lang/Object"))), Jvm.Cond.code ({ cls := "java/util/ArrayList", name := "grow", desc := "(I)[Ljava/lang/Object;" } : Jvm.MethodName) jdk_38_method_6_code (4 : Nat) (Option.some (Jvm.ClassFile.FieldType.array (Jvm.ClassFile.FieldType.object "java/lang/Object"))), Jvm.Cond.code ({ cls := "java/lang/Math", name := "max", desc := "(II)I" } : Jvm.MethodName) jdk_29_method_65_code (2 : Nat) (Option.some Jvm.ClassFile.FieldType.int), Jvm.Cond.code ({ cls := "java/util/ArrayList", name := "get", desc := "(I)Ljava/lang/Object;" } : Jvm.MethodName) jdk_38_method_20_code (2 : Nat) (Option.some (Jvm.ClassFile.FieldType.object "java/lang/Object")), Jvm.Cond.code ({ cls := "java/util/Objects", name := "checkIndex", desc := "(II)I" } : Jvm.MethodName) jdk_31_method_17_code (2 : Nat) (Option.some Jvm.ClassFile.FieldType.int), Jvm.Cond.code ({ cls := "jdk/internal/util/Preconditions", name := "checkIndex", desc := "(IILjava/util/function/BiFunction;)I" } : Jvm.MethodName) jdk_41_method_11_code (3 : Nat) (Option.some Jvm.ClassFile.FieldType.int), Jvm.Cond.code ({ cls := "java/util/ArrayList", name := "elementData", desc := "(I)Ljava/lang/Object;" } : Jvm.MethodName) jdk_38_method_18_code (2 : Nat) (Option.some (Jvm.ClassFile.FieldType.object "java/lang/Object")), Jvm.Cond.code ({ cls := "java/lang/Integer", name := "intValue", desc := "()I" } : Jvm.MethodName) jdk_33_method_27_code (1 : Nat) (Option.some Jvm.ClassFile.FieldType.int)]
set_option maxRecDepth 65536 in
theorem codes_eq : words1.filter isCode = codes1 := rfl
theorem w_codes : ∀ c ∈ words1.filter isCode, c.before args0 about1 = true := by
  rw [codes_eq]
  intro c hc
  simp only [codes1, List.mem_cons, List.not_mem_nil, or_false] at hc
  rcases hc with rfl | rfl | rfl | rfl | rfl | rfl | rfl | rfl | rfl | rfl | rfl | rfl | rfl | rfl | rfl | rfl | rfl | rfl | rfl | rfl
  · exact w_c0
  · exact w_c1
  · exact w_c2
  · exact w_c3
  · exact w_c4
  · exact w_c5
  · exact w_c6
  · exact w_c7
  · exact w_c8
  · exact w_c9
  · exact w_c10
  · exact w_c11
  · exact w_c12
  · exact w_c13
  · exact w_c14
  · exact w_c15
  · exact w_c16
  · exact w_c17
  · exact w_c18
  · exact w_c19
set_option maxRecDepth 65536 in
theorem w_t1 : (words1.take 24).all (fun c => isCode c || c.before args0 about1) = true := by decide +kernel
set_option maxRecDepth 65536 in
theorem w_t2 : ((words1.drop 24).take 24).all (fun c => isCode c || c.before args0 about1) = true := by decide +kernel
set_option maxRecDepth 65536 in
theorem w_t3 : (((words1.drop 24).drop 24).take 24).all (fun c => isCode c || c.before args0 about1) = true := by decide +kernel
set_option maxRecDepth 65536 in
theorem w_t4 : ((((words1.drop 24).drop 24).drop 24).take 24).all (fun c => isCode c || c.before args0 about1) = true := by decide +kernel
set_option maxRecDepth 65536 in
theorem w_t5 : (((((words1.drop 24).drop 24).drop 24).drop 24).take 24).all (fun c => isCode c || c.before args0 about1) = true := by decide +kernel
set_option maxRecDepth 65536 in
theorem w_t6 : (((((words1.drop 24).drop 24).drop 24).drop 24).drop 24).all (fun c => isCode c || c.before args0 about1) = true := by decide +kernel
theorem w_tables : (allAtoms (Jvm.Cond.code x code maxLocals ret :: tables_1)).before args0 about1 = true := by
  rw [allAtoms_all]
  show words1.all (fun c => c.before args0 about1) = true
  refine all_split ?_ w_codes
  rw [← List.take_append_drop 24 words1, List.all_append, w_t1, ← List.take_append_drop 24 (words1.drop 24), List.all_append, w_t2, ← List.take_append_drop 24 ((words1.drop 24).drop 24), List.all_append, w_t3, ← List.take_append_drop 24 (((words1.drop 24).drop 24).drop 24), List.all_append, w_t4, ← List.take_append_drop 24 ((((words1.drop 24).drop 24).drop 24).drop 24), List.all_append, w_t5, w_t6]
  rfl
set_option maxRecDepth 65536 in
theorem w_rest : rest_1_c.before args0 about1 = true := by decide +kernel
set_option maxRecDepth 65536 in
theorem w_case : (Jvm.Cond.and given_1 narrow_1).before args0 about1 = true := by decide +kernel
theorem w_applies : (headSpec (Jvm.Cond.code x code maxLocals ret :: tables_1) room_1).applies x e0.platform about1 = true :=
  (Spec.applies_iff w_frames).mpr ⟨w_running, w_runnable, w_alone, w_named, w_hears, w_ripe, w_room, w_tables⟩
theorem atStart : AtStart classFile x code maxLocals ret World_1 tables_1 room_1 Calls_1 rest_1 Pre_1 launch0 p0 e0 about1 theMethod args0 below0 :=
  ⟨lists_1, trivial, launch0.admits_env _ _ _, launch0.least_env, fairChoices_fair.cas, fairChoices_fair.clock, w_frames, w_args, w_heap, w_applies, trivial, w_rest, w_case⟩
end start1
theorem witness_1 : WitnessClaimed_1 := ⟨start1.p0, start1.e0, start1.about1, start1.theMethod, start1.args0, start1.below0, start1.atStart⟩
end Jvm.Pilot.@@N@@
