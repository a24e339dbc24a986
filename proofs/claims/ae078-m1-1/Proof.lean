import JvmDerived
import JvmDerived.Pilot.@@N@@Statement
import JvmDerived.Pilot.@@N@@Code
set_option linter.unusedVariables false
set_option linter.unusedSimpArgs false
namespace Jvm.Pilot.@@N@@
open Jvm Jvm.ClassFile Sem Op Lib Jvm.Free Jvm.Stand Jvm.LawKit Jvm.RoadKit Bundle Jvm.Pilot.@@N@@.Jvm.D
/-! my own words: Go (the run comes from T to a state with P), a step, a return -/
def Go (tb : Tables) (e : Env) (below : List Frame) (P : State → Prop) (T : State) : Prop := ∃ u, P u ∧ ∀ t, Steps tb e below u t → Steps tb e below T t
theorem Go.by' {tb : Tables} {e : Env} {below : List Frame} {P : State → Prop} {T T' : State} (h : ∀ t, Steps tb e below T' t → Steps tb e below T t) (k : Go tb e below P T') : Go tb e below P T :=
  k.elim fun u q => ⟨u, q.1, fun t z => h t (q.2 t z)⟩
theorem Go.cast {tb : Tables} {e : Env} {below : List Frame} {P : State → Prop} {T : State} {g g' : JFrame} (q : g = g') (k : Go tb e below P (T.setTop g')) : Go tb e below P (T.setTop g) := q ▸ k
theorem Go.castF {tb : Tables} {e : Env} {below : List Frame} {P : State → Prop} {T : State} {α : Type} (F : α → JFrame) {a b : α} (q : a = b) (k : Go tb e below P (T.setTop (F b))) : Go tb e below P (T.setTop (F a)) := q ▸ k
def Fin' (s : State) (below : List Frame) (ce sl : Nat) (Q : Option Value → Heap → List Loc → Prop) (u : State) : Prop := u.status = .running ∧ ∃ o, Ended u below o ∧ ∃ v L, o = .returned v ∧ Q v u.heap L ∧ FrameEnd s o u L ce sl
theorem Go.body {tb : Tables} {e : Env} {below : List Frame} {s : State} {ce sl : Nat} {Q : Option Value → Heap → List Loc → Prop} {T : State} (h : Go tb e below (Fin' s below ce sl Q) T) :
    ∃ s₂ o, Steps tb e below T s₂ ∧ s₂.status = .running ∧ Ended s₂ below o ∧ ∃ v L, o = .returned v ∧ Q v s₂.heap L ∧ FrameEnd s o s₂ L ce sl := by
  obtain ⟨u, ⟨h1, o, h2, h3⟩, h4⟩ := h
  exact ⟨u, o, h4 u (Steps.refl _), h1, h2, h3⟩
section OwnStand
variable {p : Program} {l : Launch} {e : Env} {R : Room} {s : State} {m : MethodId} {args : Array Value} {below : List Frame} {meth : Method} {c : Code} {T : State} {locs : List Loc} {cells slots : Nat}
def Like (X : Stand p l e R s m args below meth c T locs cells slots) (T' : State) : Prop := Stand p l e R s m args below meth c T' locs cells slots
theorem Go.out (X : Stand p l e R s m args below meth c T locs cells slots) {v : Option Value} (hv : meth.sig.returnType = none → v = none) (hlocks : meth.locks = false) {g : JFrame} {ce sl : Nat} {Q : Option Value → Heap → List Loc → Prop}
    (st : ∀ fs : List Frame, (∀ (f : JFrame) (acts : List Action), f.method = m → f.locked = none → f.entered = [] → (doReturn e (T.setTop f) acts v).1 = T.setFrames fs) → Steps p.tables e below (T.setTop g) (T.setFrames fs))
    (hc : cells ≤ ce) (hs : slots ≤ sl) (q : Q v T.heap locs) : Go p.tables e below (Fin' s below ce sl Q) (T.setTop g) := by
  obtain ⟨fs, hr, hrun, hended, hW, hsame⟩ := X.leave (v := v) hv hlocks
  exact ⟨T.setFrames fs, ⟨hrun, _, hended, v, locs, rfl, q, ⟨_, rfl⟩, hW, hsame.mono hc hs⟩, fun t k => (st fs hr).trans k⟩
theorem Go.retI' (X : Stand p l e R s m args below meth c T locs cells slots) (hx : p.tables.exec = Jvm.exec) {pc : Nat} {Ls : Array Slot} {z : Int32} {rest : List Value} {t : FieldType} (hret : meth.sig.returnType = some t) (hlocks : meth.locks = false)
    (ht : t = .int ∨ t = .boolean ∨ t = .byte ∨ t = .char ∨ t = .short) (hn : narrow t (.int z) = .int z) (hd : decode c.code pc = .ok (.ireturn, 1)) {ce sl : Nat} {Q : Option Value → Heap → List Loc → Prop} (hc : cells ≤ ce) (hs : slots ≤ sl) (q : Q (some (.int z)) T.heap locs) :
    Go p.tables e below (Fin' s below ce sl Q) (T.setTop (mkF m pc Ls (.int z :: rest))) :=
  Go.out X (fun h => by rw [hret] at h; cases h) hlocks (fun _ hl => retOut X hx hret hn (Or.inl ⟨rfl, ht, z, rfl⟩) hd hl) hc hs q
theorem Go.retA' (X : Stand p l e R s m args below meth c T locs cells slots) (hx : p.tables.exec = Jvm.exec) {pc : Nat} {Ls : Array Slot} {w : Value} {rest : List Value} {t : FieldType} (hret : meth.sig.returnType = some t) (hlocks : meth.locks = false)
    (ht : t.isReference = true) (hw : w.isRef = true) (hd : decode c.code pc = .ok (.areturn, 1)) {ce sl : Nat} {Q : Option Value → Heap → List Loc → Prop} (hc : cells ≤ ce) (hs : slots ≤ sl) (q : Q (some w) T.heap locs) :
    Go p.tables e below (Fin' s below ce sl Q) (T.setTop (mkF m pc Ls (w :: rest))) :=
  Go.out X (fun h => by rw [hret] at h; cases h) hlocks (fun _ hl => retOut X hx hret (by cases t <;> first | (cases ht; done) | (rcases ref_cases hw with rfl | ⟨z, rfl⟩ <;> rfl)) (Or.inr (Or.inr (Or.inr (Or.inr ⟨rfl, ht, hw⟩)))) hd hl) hc hs q
theorem Go.retD' (X : Stand p l e R s m args below meth c T locs cells slots) (hx : p.tables.exec = Jvm.exec) {pc : Nat} {Ls : Array Slot} {z : UInt64} {rest : List Value} (hret : meth.sig.returnType = some .double) (hlocks : meth.locks = false)
    (hd : decode c.code pc = .ok (.dreturn, 1)) {ce sl : Nat} {Q : Option Value → Heap → List Loc → Prop} (hc : cells ≤ ce) (hs : slots ≤ sl) (q : Q (some (.double z)) T.heap locs) :
    Go p.tables e below (Fin' s below ce sl Q) (T.setTop (mkF m pc Ls (.double z :: rest))) :=
  Go.out X (fun h => by rw [hret] at h; cases h) hlocks (fun _ hl => retOut X hx hret rfl (Or.inr (Or.inr (Or.inl ⟨rfl, rfl, z, rfl⟩))) hd hl) hc hs q
theorem Go.retV' (X : Stand p l e R s m args below meth c T locs cells slots) (hx : p.tables.exec = Jvm.exec) {pc : Nat} {Ls : Array Slot} (hret : meth.sig.returnType = none) (hlocks : meth.locks = false)
    (hd : decode c.code pc = .ok (.return_, 1)) {ce sl : Nat} {Q : Option Value → Heap → List Loc → Prop} (hc : cells ≤ ce) (hs : slots ≤ sl) (q : Q none T.heap locs) :
    Go p.tables e below (Fin' s below ce sl Q) (T.setTop (mkF m pc Ls [])) :=
  Go.out X (fun _ => rfl) hlocks (fun _ hl => X.returnOut hx hret hd hl) hc hs q
end OwnStand
theorem own_nb {z : Int32} (h : z = 0 ∨ z = 1) : narrow .boolean (.int z) = .int z := by rcases h with rfl | rfl <;> rfl
theorem own_fb {z : Int32} (h : z = 0 ∨ z = 1) : fits .boolean (.int z) = true := by rcases h with rfl | rfl <;> rfl
theorem own_bb {x : Int32} : nar .byte (x.toInt8.toInt32) = x.toInt8.toInt32 := by show x.toInt8.toInt32.toInt8.toInt32 = x.toInt8.toInt32; simp
theorem own_nm (x : Int32) : nar .char (x &&& (255 : Int32)) = (x &&& (255 : Int32)) := i2c_mask x
theorem own_i2c {x : Int32} (h0 : ¬ x < (0 : Int32)) (h1 : ¬ (255 : Int32) < x) : x.toUInt32.toUInt16.toUInt32.toInt32 = x := by
  have a := c_i2c x
  have z0 : (0 : Int32).toInt = 0 := rfl
  have z1 : (255 : Int32).toInt = 255 := rfl
  rw [Int32.lt_iff_toInt_lt] at h0 h1
  rw [← Int32.toInt_inj]; omega
theorem own_nc {x : Int32} (h0 : ¬ x < (0 : Int32)) (h1 : ¬ (255 : Int32) < x) : nar .char x = x := own_i2c h0 h1
theorem own_b8 {x y : Int32} (h0 : ¬ x < (0 : Int32)) (h1 : ¬ (255 : Int32) < x) (h2 : ¬ y < (0 : Int32)) (h3 : ¬ (255 : Int32) < y) : (x.toInt8.toInt32) = (y.toInt8.toInt32) ↔ x = y := by
  have a := c_i2b x
  have b := c_i2b y
  have z0 : (0 : Int32).toInt = 0 := rfl
  have z1 : (255 : Int32).toInt = 255 := rfl
  rw [Int32.lt_iff_toInt_lt] at h0 h1 h2 h3
  rw [← Int32.toInt_inj, ← Int32.toInt_inj]; omega
theorem own_m (x : Int32) : ¬ (x &&& (255 : Int32)) < (0 : Int32) ∧ ¬ (255 : Int32) < (x &&& (255 : Int32)) := by
  have h := c_mask x 255 8 (by decide) (by decide)
  have z0 : (0 : Int32).toInt = 0 := rfl
  have z1 : (255 : Int32).toInt = 255 := rfl
  rw [Int32.lt_iff_toInt_lt, Int32.lt_iff_toInt_lt]; omega
theorem own_le {Z : State} {n0 : Nat} {h : Heap} (X : Old Z n0 h) : n0 ≤ h.size := X.1 ▸ X.2.1
theorem own_len {Z : State} {args : Array Value} {t : Term} {a : Addr} {cl : Cell} {ty : FieldType} {z : Int32} (ht : t.eval args Z none [] Z = some (.ref a)) (A : Arr Z Z.heap a cl ty) (h : (Term.length t).eval args Z none [] Z = some (.int z)) : cl.slots.size < 2 ^ 31 ∧ cl.slots.size.toInt32 = z := by
  have ha := Arr.fin (Vm.Alike.refl _) A
  by_cases q : cl.slots.size < 2 ^ 31
  · exact ⟨q, Value.int.inj (Option.some.inj ((len_f ht ha q).symm.trans h))⟩
  · exfalso; simp [Term.eval, ht, ha] at h; exact q (by omega)
theorem own_eqr {Z : State} {args : Array Value} {X F : Term} {a : Addr} (hF : F.eval args Z none [] Z = some (.ref a)) (h : (Cond.eq X F).value args Z none Z [] = some true) : X.eval args Z none [] Z = some (.ref a) := by
  obtain ⟨x, y', e1, e2, k1, k2⟩ := cmp_v (Or.inl h)
  cases hF.symm.trans e2
  have hx : x.isRef = true := k2.2
  have := gotT (eq_R e1 hF hx rfl) h
  rw [e1, this]
def Gh (Z : State) (u0 : Addr) (u1 : Addr) (u2 : Addr) (u3 : Addr) (u4 : Addr) (u5 : Addr) (u6 : Addr) (u7 : Addr) (u8 : Addr) (u9 : Addr) (u10 : Addr) (y0 : Addr) (y1 : Addr) (wV : Addr) (kV : ClassId) : Prop := (Sta Z Z.heap "com/example/meterline/meterline/protocol/WireNamespace" "SOAP11" "Lcom/example/meterline/meterline/protocol/WireNamespace;" (.ref u0)) ∧ (Exa Z Z.heap u0 "com/example/meterline/meterline/protocol/WireNamespace") ∧ (Sta Z Z.heap "com/example/meterline/meterline/protocol/WireNamespace" "SOAP12" "Lcom/example/meterline/meterline/protocol/WireNamespace;" (.ref u1)) ∧ (Exa Z Z.heap u1 "com/example/meterline/meterline/protocol/WireNamespace") ∧ (Sta Z Z.heap "com/example/meterline/meterline/protocol/WireNamespace" "MESSAGE" "Lcom/example/meterline/meterline/protocol/WireNamespace;" (.ref u2)) ∧ (Exa Z Z.heap u2 "com/example/meterline/meterline/protocol/WireNamespace") ∧ (Sta Z Z.heap "com/example/meterline/meterline/protocol/WireNamespace" "MANAGEMENT" "Lcom/example/meterline/meterline/protocol/WireNamespace;" (.ref u3)) ∧ (Exa Z Z.heap u3 "com/example/meterline/meterline/protocol/WireNamespace") ∧ (Sta Z Z.heap "com/example/meterline/meterline/protocol/WireNamespace" "EVENT" "Lcom/example/meterline/meterline/protocol/WireNamespace;" (.ref u4)) ∧ (Exa Z Z.heap u4 "com/example/meterline/meterline/protocol/WireNamespace") ∧ (Sta Z Z.heap "com/example/meterline/meterline/protocol/WireNamespace" "ADHOC" "Lcom/example/meterline/meterline/protocol/WireNamespace;" (.ref u5)) ∧ (Exa Z Z.heap u5 "com/example/meterline/meterline/protocol/WireNamespace") ∧ (Sta Z Z.heap "com/example/meterline/meterline/protocol/WireNamespace" "CIM_USAGE_POINT" "Lcom/example/meterline/meterline/protocol/WireNamespace;" (.ref u6)) ∧ (Exa Z Z.heap u6 "com/example/meterline/meterline/protocol/WireNamespace") ∧ (Sta Z Z.heap "com/example/meterline/meterline/protocol/WireNamespace" "CIM_END_DEVICE" "Lcom/example/meterline/meterline/protocol/WireNamespace;" (.ref u7)) ∧ (Exa Z Z.heap u7 "com/example/meterline/meterline/protocol/WireNamespace") ∧ (Sta Z Z.heap "com/example/meterline/meterline/protocol/WireNamespace" "CIM_LINKAGE" "Lcom/example/meterline/meterline/protocol/WireNamespace;" (.ref u8)) ∧ (Exa Z Z.heap u8 "com/example/meterline/meterline/protocol/WireNamespace") ∧ (Sta Z Z.heap "com/example/meterline/meterline/protocol/WireNamespace" "CIM_END_DEVICE_EVENT" "Lcom/example/meterline/meterline/protocol/WireNamespace;" (.ref u9)) ∧ (Exa Z Z.heap u9 "com/example/meterline/meterline/protocol/WireNamespace") ∧ (Sta Z Z.heap "com/example/meterline/meterline/protocol/WireNamespace" "CIM_CONFIGURATION_EVENT" "Lcom/example/meterline/meterline/protocol/WireNamespace;" (.ref u10)) ∧ (Exa Z Z.heap u10 "com/example/meterline/meterline/protocol/WireNamespace") ∧ (Sta Z Z.heap "com/example/meterline/meterline/protocol/SoapVersion" "SOAP11" "Lcom/example/meterline/meterline/protocol/SoapVersion;" (.ref y0)) ∧ (Exa Z Z.heap y0 "com/example/meterline/meterline/protocol/SoapVersion") ∧ (Sta Z Z.heap "com/example/meterline/meterline/protocol/SoapVersion" "SOAP12" "Lcom/example/meterline/meterline/protocol/SoapVersion;" (.ref y1)) ∧ (Exa Z Z.heap y1 "com/example/meterline/meterline/protocol/SoapVersion") ∧ (u1 ≠ u0) ∧ (u2 ≠ u0) ∧ (u3 ≠ u0) ∧ (u4 ≠ u0) ∧ (u5 ≠ u0) ∧ (u6 ≠ u0) ∧ (u7 ≠ u0) ∧ (u8 ≠ u0) ∧ (u9 ≠ u0) ∧ (u10 ≠ u0) ∧ (u2 ≠ u1) ∧ (u3 ≠ u1) ∧ (u4 ≠ u1) ∧ (u5 ≠ u1) ∧ (u6 ≠ u1) ∧ (u7 ≠ u1) ∧ (u8 ≠ u1) ∧ (u9 ≠ u1) ∧ (u10 ≠ u1) ∧ (Sta Z Z.heap "com/example/meterline/meterline/protocol/SoapVersion" "$VALUES" "[Lcom/example/meterline/meterline/protocol/SoapVersion;" (.ref wV)) ∧ (Exa Z Z.heap wV "[Lcom/example/meterline/meterline/protocol/SoapVersion;") ∧ (Arv Z Z.heap wV kV (.object "com/example/meterline/meterline/protocol/SoapVersion") (2 : Int32) [(.ref y0), (.ref y1)] Value.null) ∧ (Fld Z Z.heap y0 "com/example/meterline/meterline/protocol/SoapVersion" "namespace" "Lcom/example/meterline/meterline/protocol/WireNamespace;" (.ref u0)) ∧ (Fld Z Z.heap y1 "com/example/meterline/meterline/protocol/SoapVersion" "namespace" "Lcom/example/meterline/meterline/protocol/WireNamespace;" (.ref u1))
theorem d3_0 : decode prog_92_method_1_code 0 = .ok (.getstatic 10, 3) := by decide +kernel
theorem d3_3 : decode prog_92_method_1_code 3 = .ok (.invokevirtual 14, 3) := by decide +kernel
theorem d3_6 : decode prog_92_method_1_code 6 = .ok (.checkcast 15, 3) := by decide +kernel
theorem d3_9 : decode prog_92_method_1_code 9 = .ok (.areturn, 1) := by decide +kernel
theorem pn_3 : plainName "com/example/meterline/meterline/protocol/SoapVersion" = true := by first | (simp [plainName, overriddenIn]; done) | decide +kernel
set_option maxHeartbeats 4000000 in
theorem ef_rmVals (m : MethodId)  : entryFrame m #[] 0 = mkF m 0 #[] [] := by first | (simp [entryFrame, mkF, argsToLocals, Value.category]; done) | rfl
def QrmVals (Z : State) (u0 : Addr) (u1 : Addr) (u2 : Addr) (u3 : Addr) (u4 : Addr) (u5 : Addr) (u6 : Addr) (u7 : Addr) (u8 : Addr) (u9 : Addr) (u10 : Addr) (y0 : Addr) (y1 : Addr) (wV : Addr) (kV : ClassId)  (h0 : Heap) (n0 : Nat) (v : Option Value) (h : Heap) (L : List Loc) : Prop := ∃ (r : Addr), (v = some (.ref r)) ∧ (Fr n0 L) ∧ (Keep h0 h []) ∧ (Arv Z h r kV (.object "com/example/meterline/meterline/protocol/SoapVersion") (2 : Int32) [(.ref y0), (.ref y1)] Value.null) ∧ (h0.size ≤ r)
set_option maxRecDepth 65536 in
set_option maxHeartbeats 40000000 in
theorem rmVals (l : Launch) (Z : State) (a0 : Array Value) (hw : ∀ d ∈ tables_1, d.before a0 Z = true) (ws : List Jvm.Cond) (u0 : Addr) (u1 : Addr) (u2 : Addr) (u3 : Addr) (u4 : Addr) (u5 : Addr) (u6 : Addr) (u7 : Addr) (u8 : Addr) (u9 : Addr) (u10 : Addr) (y0 : Addr) (y1 : Addr) (wV : Addr) (kV : ClassId) (G : Gh Z u0 u1 u2 u3 u4 u5 u6 u7 u8 u9 u10 y0 y1 wV kV)  (h0 : Heap) (n0 : Nat) (O0 : Old Z n0 h0) :
    MetFree l (⟨"com/example/meterline/meterline/protocol/SoapVersion", "values", "()[Lcom/example/meterline/meterline/protocol/SoapVersion;"⟩ : MethodName) (head1 (Jvm.Cond.code (⟨"com/example/meterline/meterline/protocol/SoapVersion", "values", "()[Lcom/example/meterline/meterline/protocol/SoapVersion;"⟩ : MethodName) prog_92_method_1_code 0 (some (.array (.object "com/example/meterline/meterline/protocol/SoapVersion"))) :: ws) ({ frames := 1, cells := 1, slots := 2, locals := 14 } : Room)) (fun aa' UU' => aa' = #[] ∧ Z.Warmed39 UU'.vm ∧ UU'.heap = h0) (fun _ _ _ _ _ => True) (fun _ UU' oo' VV' => ∃ v' L', oo' = .returned v' ∧ QrmVals Z u0 u1 u2 u3 u4 u5 u6 u7 u8 u9 u10 y0 y1 wV kV  h0 n0 v' VV'.heap L' ∧ FrameEnd UU' oo' VV' L' ({ frames := 1, cells := 1, slots := 2, locals := 14 } : Room).cells ({ frames := 1, cells := 1, slots := 2, locals := 14 } : Room).slots) := by
  refine MetFree.of_bodySF (plainFor_of_name pn_3) hisR ?_
  intro p e s m args below meth c s₁ Bd hml0 hP hK
  obtain ⟨rfl, hZ, hh⟩ := hP
  have hx := Bd.exec
  have hby := Bd.bytes
  have hlk := Bd.notSynchronized
  have hml : c.maxLocals = 0 := hml0
  have hown : s.vm.findClass "com/example/meterline/meterline/protocol/SoapVersion" = some m.cls := findClass_of_methodNamed Bd.named
  have hnm := (name_of_methodNamed Bd.named Bd.method).1
  have hret := Bd.returns
  have X0 : Stand p l e ({ frames := 1, cells := 1, slots := 2, locals := 14 } : Room) s m #[] below meth c s₁ [] 0 0 := Stand.of_body Bd
  have e0 : s₁.heap = h0 := by rw [← hh, Bd.state]; rfl
  have N0 := Fr.nil n0
  have KC0 : Keep h0 h0 [] := Keep.refl _ _
  refine Go.body ?_
  obtain ⟨Pf, hPf⟩ : ∃ P, P = Fin' s below ({ frames := 1, cells := 1, slots := 2, locals := 14 } : Room).cells ({ frames := 1, cells := 1, slots := 2, locals := 14 } : Room).slots (QrmVals Z u0 u1 u2 u3 u4 u5 u6 u7 u8 u9 u10 y0 y1 wV kV  h0 n0) := ⟨_, rfl⟩
  rw [← hPf]
  refine Go.cast (ef_rmVals m) ?_
  have hw17 := (hw _ (List.mem_of_getElem? (i := 17) rfl))
  have hw19 := (hw _ (List.mem_of_getElem? (i := 19) rfl))
  have hw20 := (hw _ (List.mem_of_getElem? (i := 20) rfl))
  have hw22 := (hw _ (List.mem_of_getElem? (i := 22) rfl))
  have hw23 := (hw _ (List.mem_of_getElem? (i := 23) rfl))
  have hw24 := (hw _ (List.mem_of_getElem? (i := 24) rfl))
  have hw25 := (hw _ (List.mem_of_getElem? (i := 25) rfl))
  have hw28 := (hw _ (List.mem_of_getElem? (i := 28) rfl))
  show Go p.tables e below Pf (s₁.setTop (mkF m 0 #[] []))
  obtain ⟨T1, X1, e1, st1⟩ := getS2 X0 hx hZ hown (host := "") (Or.inl hw17) Via.refl e0 (G.2.2.2.2.2.2.2.2.2.2.2.2.2.2.2.2.2.2.2.2.2.2.2.2.2.2.2.2.2.2.2.2.2.2.2.2.2.2.2.2.2.2.2.2.2.1.ext O0.2) (g := (mkF m 0 #[] [])) rfl (hb hby d3_0)
  refine Go.by' st1 ?_
  show Go p.tables e below Pf (T1.setTop (mkF m 3 #[] [(.ref wV)]))
  obtain ⟨T2, h2, X2, e2, E2, V2, A2, st2⟩ := cloneH X1 hx hZ hown hw19 hw20 hw24 hw22 hw23 hw25 e1 (G.2.2.2.2.2.2.2.2.2.2.2.2.2.2.2.2.2.2.2.2.2.2.2.2.2.2.2.2.2.2.2.2.2.2.2.2.2.2.2.2.2.2.2.2.2.2.2.1.ext O0.2).arh (G.2.2.2.2.2.2.2.2.2.2.2.2.2.2.2.2.2.2.2.2.2.2.2.2.2.2.2.2.2.2.2.2.2.2.2.2.2.2.2.2.2.2.2.2.2.2.1.ext O0.2) (g := (mkF m 3 #[] [(.ref wV)])) rfl (by rw [hml]; rfl) rfl (hb hby d3_3) (by decide) (W := 0) (cap := 2) (by show 2 * 0 + _ ≤ _; exact Nat.le_of_eq rfl) (by decide) (by decide) (by decide) (by decide)
  obtain ⟨b2, g2⟩ : ∃ z, z = h0.size := ⟨_, rfl⟩
  rw [← g2] at V2 A2 st2
  refine Go.by' st2 ?_
  have V2 : Arv Z h2 b2 kV (.object "com/example/meterline/meterline/protocol/SoapVersion") (2 : Int32) [(.ref y0), (.ref y1)] Value.null := V2
  have g_b2 : n0 ≤ b2 := Nat.le_trans (own_le O0) (Nat.le_of_eq g2.symm)
  have sz_b2 : h0.size ≤ b2 := Nat.le_trans KC0.1 (Nat.le_of_eq g2.symm)
  have O2 := O0.ext E2
  have KC2 : Keep h0 h2 [] := KC0.ext E2
  show Go p.tables e below Pf (T2.setTop (mkF m 6 #[] [(.ref b2)]))
  obtain ⟨T3, X3, e3, st3⟩ := castY X2 hx hZ hown hw28 e2 (Ins.self A2) (g := (mkF m 6 #[] [(.ref b2)])) rfl rfl (hb hby d3_6)
  refine Go.by' st3 ?_
  show Go p.tables e below Pf (T3.setTop (mkF m 9 #[] [(.ref b2)]))
  rw [hPf]
  exact Go.retA' X3 hx hret hlk rfl rfl (hb hby d3_9) (by decide) (by decide) ⟨b2, rfl, N0, (by rw [e3]; exact KC2), (by rw [e3]; exact V2), sz_b2⟩
theorem d2_0 : decode prog_92_method_4_code 0 = .ok (.invokestatic 47, 3) := by decide +kernel
theorem pd_0 : parseMethodDescriptor "()[Lcom/example/meterline/meterline/protocol/SoapVersion;" = some ⟨[], some (.array (.object "com/example/meterline/meterline/protocol/SoapVersion"))⟩ := by decide +kernel
theorem d2_3 : decode prog_92_method_4_code 3 = .ok (.astore_n 1, 1) := by decide +kernel
theorem d2_4 : decode prog_92_method_4_code 4 = .ok (.aload_n 1, 1) := by decide +kernel
theorem d2_5 : decode prog_92_method_4_code 5 = .ok (.arraylength, 1) := by decide +kernel
theorem d2_6 : decode prog_92_method_4_code 6 = .ok (.istore_n 2, 1) := by decide +kernel
theorem d2_7 : decode prog_92_method_4_code 7 = .ok (.iconst 0, 1) := by decide +kernel
theorem d2_8 : decode prog_92_method_4_code 8 = .ok (.istore_n 3, 1) := by decide +kernel
theorem d2_9 : decode prog_92_method_4_code 9 = .ok (.iload_n 3, 1) := by decide +kernel
theorem d2_10 : decode prog_92_method_4_code 10 = .ok (.iload_n 2, 1) := by decide +kernel
theorem d2_11 : decode prog_92_method_4_code 11 = .ok (.if_icmp .ge 26, 3) := by decide +kernel
theorem d2_14 : decode prog_92_method_4_code 14 = .ok (.aload_n 1, 1) := by decide +kernel
theorem d2_15 : decode prog_92_method_4_code 15 = .ok (.iload_n 3, 1) := by decide +kernel
theorem d2_16 : decode prog_92_method_4_code 16 = .ok (.aaload, 1) := by decide +kernel
theorem d2_17 : decode prog_92_method_4_code 17 = .ok (.astore 4, 2) := by decide +kernel
theorem d2_19 : decode prog_92_method_4_code 19 = .ok (.aload 4, 2) := by decide +kernel
theorem d2_21 : decode prog_92_method_4_code 21 = .ok (.getfield 29, 3) := by decide +kernel
theorem d2_24 : decode prog_92_method_4_code 24 = .ok (.aload_n 0, 1) := by decide +kernel
theorem d2_25 : decode prog_92_method_4_code 25 = .ok (.if_acmp .ne 6, 3) := by decide +kernel
theorem d2_28 : decode prog_92_method_4_code 28 = .ok (.aload 4, 2) := by decide +kernel
theorem d2_30 : decode prog_92_method_4_code 30 = .ok (.areturn, 1) := by decide +kernel
theorem pn_2 : plainName "com/example/meterline/meterline/protocol/SoapVersion" = true := by first | (simp [plainName, overriddenIn]; done) | decide +kernel
set_option maxHeartbeats 4000000 in
theorem ef_rmOE0 (m : MethodId) {u0 : Addr} : entryFrame m #[(.ref u0)] 5 = mkF m 0 #[.val (.ref u0), .unset, .unset, .unset, .unset] [] := by first | (simp [entryFrame, mkF, argsToLocals, Value.category]; done) | rfl
def QrmOE0 (Z : State) (u0 : Addr) (u1 : Addr) (u2 : Addr) (u3 : Addr) (u4 : Addr) (u5 : Addr) (u6 : Addr) (u7 : Addr) (u8 : Addr) (u9 : Addr) (u10 : Addr) (y0 : Addr) (y1 : Addr) (wV : Addr) (kV : ClassId)  (h0 : Heap) (n0 : Nat) (v : Option Value) (h : Heap) (L : List Loc) : Prop := (v = some (.ref y0)) ∧ (Fr n0 L) ∧ (Keep h0 h [])
set_option maxRecDepth 65536 in
set_option maxHeartbeats 40000000 in
theorem rmOE0 (l : Launch) (Z : State) (a0 : Array Value) (hw : ∀ d ∈ tables_1, d.before a0 Z = true) (ws : List Jvm.Cond) (u0 : Addr) (u1 : Addr) (u2 : Addr) (u3 : Addr) (u4 : Addr) (u5 : Addr) (u6 : Addr) (u7 : Addr) (u8 : Addr) (u9 : Addr) (u10 : Addr) (y0 : Addr) (y1 : Addr) (wV : Addr) (kV : ClassId) (G : Gh Z u0 u1 u2 u3 u4 u5 u6 u7 u8 u9 u10 y0 y1 wV kV)  (h0 : Heap) (n0 : Nat) (O0 : Old Z n0 h0) :
    MetFree l (⟨"com/example/meterline/meterline/protocol/SoapVersion", "ofEnvelope", "(Lcom/example/meterline/meterline/protocol/WireNamespace;)Lcom/example/meterline/meterline/protocol/SoapVersion;"⟩ : MethodName) (head1 (Jvm.Cond.code (⟨"com/example/meterline/meterline/protocol/SoapVersion", "ofEnvelope", "(Lcom/example/meterline/meterline/protocol/WireNamespace;)Lcom/example/meterline/meterline/protocol/SoapVersion;"⟩ : MethodName) prog_92_method_4_code 5 (some (.object "com/example/meterline/meterline/protocol/SoapVersion")) :: ws) ({ frames := 2, cells := 1, slots := 2, locals := 25 } : Room)) (fun aa' UU' => aa' = #[(.ref u0)] ∧ Z.Warmed39 UU'.vm ∧ UU'.heap = h0) (fun _ _ _ _ _ => True) (fun _ UU' oo' VV' => ∃ v' L', oo' = .returned v' ∧ QrmOE0 Z u0 u1 u2 u3 u4 u5 u6 u7 u8 u9 u10 y0 y1 wV kV  h0 n0 v' VV'.heap L' ∧ FrameEnd UU' oo' VV' L' ({ frames := 2, cells := 1, slots := 2, locals := 25 } : Room).cells ({ frames := 2, cells := 1, slots := 2, locals := 25 } : Room).slots) := by
  refine MetFree.of_bodySF (plainFor_of_name pn_2) hisR ?_
  intro p e s m args below meth c s₁ Bd hml0 hP hK
  obtain ⟨rfl, hZ, hh⟩ := hP
  have hx := Bd.exec
  have hby := Bd.bytes
  have hlk := Bd.notSynchronized
  have hml : c.maxLocals = 5 := hml0
  have hown : s.vm.findClass "com/example/meterline/meterline/protocol/SoapVersion" = some m.cls := findClass_of_methodNamed Bd.named
  have hnm := (name_of_methodNamed Bd.named Bd.method).1
  have hret := Bd.returns
  have X0 : Stand p l e ({ frames := 2, cells := 1, slots := 2, locals := 25 } : Room) s m #[(.ref u0)] below meth c s₁ [] 0 0 := Stand.of_body Bd
  have e0 : s₁.heap = h0 := by rw [← hh, Bd.state]; rfl
  have N0 := Fr.nil n0
  have KC0 : Keep h0 h0 [] := Keep.refl _ _
  refine Go.body ?_
  obtain ⟨Pf, hPf⟩ : ∃ P, P = Fin' s below ({ frames := 2, cells := 1, slots := 2, locals := 25 } : Room).cells ({ frames := 2, cells := 1, slots := 2, locals := 25 } : Room).slots (QrmOE0 Z u0 u1 u2 u3 u4 u5 u6 u7 u8 u9 u10 y0 y1 wV kV  h0 n0) := ⟨_, rfl⟩
  rw [← hPf]
  refine Go.cast (ef_rmOE0 m) ?_
  have hw9 := (hw _ (List.mem_of_getElem? (i := 9) rfl))
  have hw14 := (hw _ (List.mem_of_getElem? (i := 14) rfl))
  have hw15 := (hw _ (List.mem_of_getElem? (i := 15) rfl))
  have hw16 := (hw _ (List.mem_of_getElem? (i := 16) rfl))
  have hw30 := (hw _ (List.mem_of_getElem? (i := 30) rfl))
  show Go p.tables e below Pf (s₁.setTop (mkF m 0 #[.val (.ref u0), .unset, .unset, .unset, .unset] []))
  obtain ⟨_, _, ⟨T4, L4, k4, n4⟩, -, X4, ⟨Lc4, hQ4, l4, y4, z4⟩, st4⟩ := Jvm.LawKit.callS X0 hx (y := (⟨"com/example/meterline/meterline/protocol/SoapVersion", "values", "()[Lcom/example/meterline/meterline/protocol/SoapVersion;"⟩ : MethodName)) hown (mvT hZ hw14) (mvT hZ hw15) (mvT hZ hw9) (mvT hZ hw16) (by decide) (backOf (W := 0) (rmVals l Z a0 hw [] u0 u1 u2 u3 u4 u5 u6 u7 u8 u9 u10 y0 y1 wV kV G  h0 n0 O0 ) hZ hw16 hw9 (by decide) (by decide)) (g := (mkF m 0 #[.val (.ref u0), .unset, .unset, .unset, .unset] [])) rfl (by rw [hml]; rfl) (argsL := []) (rest := []) (lenOf pd_0 rfl) rfl (by show 2 * 0 + _ ≤ _; exact Nat.le_of_eq rfl) (hb hby d2_0) (fun _ _ => ⟨rfl, e0, (by decide : 0 + 1 ≤ _), (by decide : 0 + 2 ≤ _)⟩)
  dsimp only [Pt.U, Pt.locs, Pt.cells, Pt.slots] at X4 l4 y4 z4 st4 hQ4
  subst l4 y4 z4
  obtain ⟨r_4, rfl, N4q, K4, f4_0, f4_1⟩ := hQ4
  have N4 := Fr.app N0 N4q
  refine Go.by' st4 ?_
  have g_r_4 : n0 ≤ r_4 := Nat.le_trans (own_le O0) f4_1
  have sz_r_4 : h0.size ≤ r_4 := Nat.le_trans KC0.1 f4_1
  have O4 := O0.keep K4 all0
  have KC4 : Keep h0 T4.heap [] := KC0.trans K4 all0
  show Go p.tables e below Pf (T4.setTop (mkF m 3 #[.val (.ref u0), .unset, .unset, .unset, .unset] [(.ref r_4)]))
  refine Go.by' (fun t k => (XS.astoreN X4.here hx rfl (hb hby d2_3) rfl rfl (l' := #[.val (.ref u0), .val (.ref r_4), .unset, .unset, .unset]) rfl (XS.aloadN X4.here hx rfl (hb hby d2_4) rfl rfl k))) ?_
  show Go p.tables e below Pf (T4.setTop (mkF m 5 #[.val (.ref u0), .val (.ref r_4), .unset, .unset, .unset] [(.ref r_4)]))
  obtain ⟨cl5, Ar5, -, S5, P5, -, -⟩ := (id f4_0)
  refine Go.by' (fun t k => (X4.arraylength hx Ar5.1 (State.isArrayOf_alike hZ.alike Ar5.2.1) (g := (mkF m 5 #[.val (.ref u0), .val (.ref r_4), .unset, .unset, .unset] [(.ref r_4)])) rfl rfl (hb hby d2_5) t k)) ?_
  rw [len_of S5 P5]
  show Go p.tables e below Pf (T4.setTop (mkF m 6 #[.val (.ref u0), .val (.ref r_4), .unset, .unset, .unset] [(.int (2 : Int32))]))
  refine Go.by' (fun t k => (XS.istoreN X4.here hx rfl (hb hby d2_6) rfl (l' := #[.val (.ref u0), .val (.ref r_4), .val (.int (2 : Int32)), .unset, .unset]) rfl (XS.iconst X4.here hx rfl (hb hby d2_7) (XS.istoreN X4.here hx rfl (hb hby d2_8) rfl (l' := #[.val (.ref u0), .val (.ref r_4), .val (.int (2 : Int32)), .val (.int (0 : Int32)), .unset]) rfl (XS.iloadN X4.here hx rfl (hb hby d2_9) rfl (XS.iloadN X4.here hx rfl (hb hby d2_10) rfl (XS.icmpNo X4.here hx rfl (hb hby d2_11) rfl (tlt (by decide)).2.1 k))))))) ?_
  show Go p.tables e below Pf (T4.setTop (mkF m 14 #[.val (.ref u0), .val (.ref r_4), .val (.int (2 : Int32)), .val (.int (0 : Int32)), .unset] []))
  refine Go.by' (fun t k => (XS.aloadN X4.here hx rfl (hb hby d2_14) rfl rfl (XS.iloadN X4.here hx rfl (hb hby d2_15) rfl k))) ?_
  show Go p.tables e below Pf (T4.setTop (mkF m 16 #[.val (.ref u0), .val (.ref r_4), .val (.int (2 : Int32)), .val (.int (0 : Int32)), .unset] [(.int (0 : Int32)), (.ref r_4)]))
  obtain ⟨cl6, Ar6, q6, S6, P6, H6, G6⟩ := (id f4_0)
  have hin6 : ¬ ((0 : Int32) < 0 ∨ cl6.slots.size ≤ ((0 : Int32)).toNatClampNeg) := inb_of S6 ⟨by decide, by decide⟩
  refine Go.by' (fun t k => (X4.aaload hx (j := (0 : Int32)) (v := (.ref y0)) Ar6.1 (State.isArrayOf_alike hZ.alike Ar6.2.1) rfl Ar6.2.2 hin6 (H6.at hin6 rfl) (g := (mkF m 16 #[.val (.ref u0), .val (.ref r_4), .val (.int (2 : Int32)), .val (.int (0 : Int32)), .unset] [(.int (0 : Int32)), (.ref r_4)])) rfl rfl (hb hby d2_16) t (XS.astore X4.here hx rfl (hb hby d2_17) rfl rfl (l' := #[.val (.ref u0), .val (.ref r_4), .val (.int (2 : Int32)), .val (.int (0 : Int32)), .val (.ref y0)]) rfl (XS.aload X4.here hx rfl (hb hby d2_19) rfl rfl k)))) ?_
  show Go p.tables e below Pf (T4.setTop (mkF m 21 #[.val (.ref u0), .val (.ref r_4), .val (.int (2 : Int32)), .val (.int (0 : Int32)), .val (.ref y0)] [(.ref y0)]))
  obtain ⟨T7, X7, e7, st7⟩ := getF X4 hx hZ hown (host := "") (Or.inl hw30) Via.refl rfl (G.2.2.2.2.2.2.2.2.2.2.2.2.2.2.2.2.2.2.2.2.2.2.2.2.2.2.2.2.2.2.2.2.2.2.2.2.2.2.2.2.2.2.2.2.2.2.2.2.1.ext O4.2) (g := (mkF m 21 #[.val (.ref u0), .val (.ref r_4), .val (.int (2 : Int32)), .val (.int (0 : Int32)), .val (.ref y0)] [(.ref y0)])) rfl rfl (hb hby d2_21)
  refine Go.by' st7 ?_
  show Go p.tables e below Pf (T7.setTop (mkF m 24 #[.val (.ref u0), .val (.ref r_4), .val (.int (2 : Int32)), .val (.int (0 : Int32)), .val (.ref y0)] [(.ref u0)]))
  refine Go.by' (fun t k => (XS.aloadN X7.here hx rfl (hb hby d2_24) rfl rfl k)) ?_
  show Go p.tables e below Pf (T7.setTop (mkF m 25 #[.val (.ref u0), .val (.ref r_4), .val (.int (2 : Int32)), .val (.int (0 : Int32)), .val (.ref y0)] [(.ref u0), (.ref u0)]))
  refine Go.by' (fun t k => Jvm.RoadKit.acmp (g := (mkF m 25 #[.val (.ref u0), .val (.ref r_4), .val (.int (2 : Int32)), .val (.int (0 : Int32)), .val (.ref y0)] [(.ref u0), (.ref u0)])) X7 hx rfl rfl rfl (pc0 := 25) (pc' := 28) (same := true) rfl (hb hby d2_25) rfl (decide_eq_true rfl) (by decide) (by decide) k) ?_
  show Go p.tables e below Pf (T7.setTop (mkF m 28 #[.val (.ref u0), .val (.ref r_4), .val (.int (2 : Int32)), .val (.int (0 : Int32)), .val (.ref y0)] []))
  refine Go.by' (fun t k => (XS.aload X7.here hx rfl (hb hby d2_28) rfl rfl k)) ?_
  show Go p.tables e below Pf (T7.setTop (mkF m 30 #[.val (.ref u0), .val (.ref r_4), .val (.int (2 : Int32)), .val (.int (0 : Int32)), .val (.ref y0)] [(.ref y0)]))
  rw [hPf]
  exact Go.retA' X7 hx hret hlk rfl rfl (hb hby d2_30) (by decide) (by decide) ⟨rfl, N4, (by rw [e7]; exact KC4)⟩
theorem d2_31 : decode prog_92_method_4_code 31 = .ok (.iinc 3 1, 3) := by decide +kernel
theorem d2_34 : decode prog_92_method_4_code 34 = .ok (.goto (-25), 3) := by decide +kernel
set_option maxHeartbeats 4000000 in
theorem ef_rmOE1 (m : MethodId) {u1 : Addr} : entryFrame m #[(.ref u1)] 5 = mkF m 0 #[.val (.ref u1), .unset, .unset, .unset, .unset] [] := by first | (simp [entryFrame, mkF, argsToLocals, Value.category]; done) | rfl
def QrmOE1 (Z : State) (u0 : Addr) (u1 : Addr) (u2 : Addr) (u3 : Addr) (u4 : Addr) (u5 : Addr) (u6 : Addr) (u7 : Addr) (u8 : Addr) (u9 : Addr) (u10 : Addr) (y0 : Addr) (y1 : Addr) (wV : Addr) (kV : ClassId)  (h0 : Heap) (n0 : Nat) (v : Option Value) (h : Heap) (L : List Loc) : Prop := (v = some (.ref y1)) ∧ (Fr n0 L) ∧ (Keep h0 h [])
set_option maxRecDepth 65536 in
set_option maxHeartbeats 40000000 in
theorem rmOE1 (l : Launch) (Z : State) (a0 : Array Value) (hw : ∀ d ∈ tables_1, d.before a0 Z = true) (ws : List Jvm.Cond) (u0 : Addr) (u1 : Addr) (u2 : Addr) (u3 : Addr) (u4 : Addr) (u5 : Addr) (u6 : Addr) (u7 : Addr) (u8 : Addr) (u9 : Addr) (u10 : Addr) (y0 : Addr) (y1 : Addr) (wV : Addr) (kV : ClassId) (G : Gh Z u0 u1 u2 u3 u4 u5 u6 u7 u8 u9 u10 y0 y1 wV kV)  (h0 : Heap) (n0 : Nat) (O0 : Old Z n0 h0) :
    MetFree l (⟨"com/example/meterline/meterline/protocol/SoapVersion", "ofEnvelope", "(Lcom/example/meterline/meterline/protocol/WireNamespace;)Lcom/example/meterline/meterline/protocol/SoapVersion;"⟩ : MethodName) (head1 (Jvm.Cond.code (⟨"com/example/meterline/meterline/protocol/SoapVersion", "ofEnvelope", "(Lcom/example/meterline/meterline/protocol/WireNamespace;)Lcom/example/meterline/meterline/protocol/SoapVersion;"⟩ : MethodName) prog_92_method_4_code 5 (some (.object "com/example/meterline/meterline/protocol/SoapVersion")) :: ws) ({ frames := 2, cells := 1, slots := 2, locals := 25 } : Room)) (fun aa' UU' => aa' = #[(.ref u1)] ∧ Z.Warmed39 UU'.vm ∧ UU'.heap = h0) (fun _ _ _ _ _ => True) (fun _ UU' oo' VV' => ∃ v' L', oo' = .returned v' ∧ QrmOE1 Z u0 u1 u2 u3 u4 u5 u6 u7 u8 u9 u10 y0 y1 wV kV  h0 n0 v' VV'.heap L' ∧ FrameEnd UU' oo' VV' L' ({ frames := 2, cells := 1, slots := 2, locals := 25 } : Room).cells ({ frames := 2, cells := 1, slots := 2, locals := 25 } : Room).slots) := by
  refine MetFree.of_bodySF (plainFor_of_name pn_2) hisR ?_
  intro p e s m args below meth c s₁ Bd hml0 hP hK
  obtain ⟨rfl, hZ, hh⟩ := hP
  have hx := Bd.exec
  have hby := Bd.bytes
  have hlk := Bd.notSynchronized
  have hml : c.maxLocals = 5 := hml0
  have hown : s.vm.findClass "com/example/meterline/meterline/protocol/SoapVersion" = some m.cls := findClass_of_methodNamed Bd.named
  have hnm := (name_of_methodNamed Bd.named Bd.method).1
  have hret := Bd.returns
  have X0 : Stand p l e ({ frames := 2, cells := 1, slots := 2, locals := 25 } : Room) s m #[(.ref u1)] below meth c s₁ [] 0 0 := Stand.of_body Bd
  have e0 : s₁.heap = h0 := by rw [← hh, Bd.state]; rfl
  have N0 := Fr.nil n0
  have KC0 : Keep h0 h0 [] := Keep.refl _ _
  refine Go.body ?_
  obtain ⟨Pf, hPf⟩ : ∃ P, P = Fin' s below ({ frames := 2, cells := 1, slots := 2, locals := 25 } : Room).cells ({ frames := 2, cells := 1, slots := 2, locals := 25 } : Room).slots (QrmOE1 Z u0 u1 u2 u3 u4 u5 u6 u7 u8 u9 u10 y0 y1 wV kV  h0 n0) := ⟨_, rfl⟩
  rw [← hPf]
  refine Go.cast (ef_rmOE1 m) ?_
  have hw9 := (hw _ (List.mem_of_getElem? (i := 9) rfl))
  have hw14 := (hw _ (List.mem_of_getElem? (i := 14) rfl))
  have hw15 := (hw _ (List.mem_of_getElem? (i := 15) rfl))
  have hw16 := (hw _ (List.mem_of_getElem? (i := 16) rfl))
  have hw30 := (hw _ (List.mem_of_getElem? (i := 30) rfl))
  show Go p.tables e below Pf (s₁.setTop (mkF m 0 #[.val (.ref u1), .unset, .unset, .unset, .unset] []))
  obtain ⟨_, _, ⟨T8, L8, k8, n8⟩, -, X8, ⟨Lc8, hQ8, l8, y8, z8⟩, st8⟩ := Jvm.LawKit.callS X0 hx (y := (⟨"com/example/meterline/meterline/protocol/SoapVersion", "values", "()[Lcom/example/meterline/meterline/protocol/SoapVersion;"⟩ : MethodName)) hown (mvT hZ hw14) (mvT hZ hw15) (mvT hZ hw9) (mvT hZ hw16) (by decide) (backOf (W := 0) (rmVals l Z a0 hw [] u0 u1 u2 u3 u4 u5 u6 u7 u8 u9 u10 y0 y1 wV kV G  h0 n0 O0 ) hZ hw16 hw9 (by decide) (by decide)) (g := (mkF m 0 #[.val (.ref u1), .unset, .unset, .unset, .unset] [])) rfl (by rw [hml]; rfl) (argsL := []) (rest := []) (lenOf pd_0 rfl) rfl (by show 2 * 0 + _ ≤ _; exact Nat.le_of_eq rfl) (hb hby d2_0) (fun _ _ => ⟨rfl, e0, (by decide : 0 + 1 ≤ _), (by decide : 0 + 2 ≤ _)⟩)
  dsimp only [Pt.U, Pt.locs, Pt.cells, Pt.slots] at X8 l8 y8 z8 st8 hQ8
  subst l8 y8 z8
  obtain ⟨r_8, rfl, N8q, K8, f8_0, f8_1⟩ := hQ8
  have N8 := Fr.app N0 N8q
  refine Go.by' st8 ?_
  have g_r_8 : n0 ≤ r_8 := Nat.le_trans (own_le O0) f8_1
  have sz_r_8 : h0.size ≤ r_8 := Nat.le_trans KC0.1 f8_1
  have O8 := O0.keep K8 all0
  have KC8 : Keep h0 T8.heap [] := KC0.trans K8 all0
  show Go p.tables e below Pf (T8.setTop (mkF m 3 #[.val (.ref u1), .unset, .unset, .unset, .unset] [(.ref r_8)]))
  refine Go.by' (fun t k => (XS.astoreN X8.here hx rfl (hb hby d2_3) rfl rfl (l' := #[.val (.ref u1), .val (.ref r_8), .unset, .unset, .unset]) rfl (XS.aloadN X8.here hx rfl (hb hby d2_4) rfl rfl k))) ?_
  show Go p.tables e below Pf (T8.setTop (mkF m 5 #[.val (.ref u1), .val (.ref r_8), .unset, .unset, .unset] [(.ref r_8)]))
  obtain ⟨cl9, Ar9, -, S9, P9, -, -⟩ := (id f8_0)
  refine Go.by' (fun t k => (X8.arraylength hx Ar9.1 (State.isArrayOf_alike hZ.alike Ar9.2.1) (g := (mkF m 5 #[.val (.ref u1), .val (.ref r_8), .unset, .unset, .unset] [(.ref r_8)])) rfl rfl (hb hby d2_5) t k)) ?_
  rw [len_of S9 P9]
  show Go p.tables e below Pf (T8.setTop (mkF m 6 #[.val (.ref u1), .val (.ref r_8), .unset, .unset, .unset] [(.int (2 : Int32))]))
  refine Go.by' (fun t k => (XS.istoreN X8.here hx rfl (hb hby d2_6) rfl (l' := #[.val (.ref u1), .val (.ref r_8), .val (.int (2 : Int32)), .unset, .unset]) rfl (XS.iconst X8.here hx rfl (hb hby d2_7) (XS.istoreN X8.here hx rfl (hb hby d2_8) rfl (l' := #[.val (.ref u1), .val (.ref r_8), .val (.int (2 : Int32)), .val (.int (0 : Int32)), .unset]) rfl (XS.iloadN X8.here hx rfl (hb hby d2_9) rfl (XS.iloadN X8.here hx rfl (hb hby d2_10) rfl (XS.icmpNo X8.here hx rfl (hb hby d2_11) rfl (tlt (by decide)).2.1 k))))))) ?_
  show Go p.tables e below Pf (T8.setTop (mkF m 14 #[.val (.ref u1), .val (.ref r_8), .val (.int (2 : Int32)), .val (.int (0 : Int32)), .unset] []))
  refine Go.by' (fun t k => (XS.aloadN X8.here hx rfl (hb hby d2_14) rfl rfl (XS.iloadN X8.here hx rfl (hb hby d2_15) rfl k))) ?_
  show Go p.tables e below Pf (T8.setTop (mkF m 16 #[.val (.ref u1), .val (.ref r_8), .val (.int (2 : Int32)), .val (.int (0 : Int32)), .unset] [(.int (0 : Int32)), (.ref r_8)]))
  obtain ⟨cl10, Ar10, q10, S10, P10, H10, G10⟩ := (id f8_0)
  have hin10 : ¬ ((0 : Int32) < 0 ∨ cl10.slots.size ≤ ((0 : Int32)).toNatClampNeg) := inb_of S10 ⟨by decide, by decide⟩
  refine Go.by' (fun t k => (X8.aaload hx (j := (0 : Int32)) (v := (.ref y0)) Ar10.1 (State.isArrayOf_alike hZ.alike Ar10.2.1) rfl Ar10.2.2 hin10 (H10.at hin10 rfl) (g := (mkF m 16 #[.val (.ref u1), .val (.ref r_8), .val (.int (2 : Int32)), .val (.int (0 : Int32)), .unset] [(.int (0 : Int32)), (.ref r_8)])) rfl rfl (hb hby d2_16) t (XS.astore X8.here hx rfl (hb hby d2_17) rfl rfl (l' := #[.val (.ref u1), .val (.ref r_8), .val (.int (2 : Int32)), .val (.int (0 : Int32)), .val (.ref y0)]) rfl (XS.aload X8.here hx rfl (hb hby d2_19) rfl rfl k)))) ?_
  show Go p.tables e below Pf (T8.setTop (mkF m 21 #[.val (.ref u1), .val (.ref r_8), .val (.int (2 : Int32)), .val (.int (0 : Int32)), .val (.ref y0)] [(.ref y0)]))
  obtain ⟨T11, X11, e11, st11⟩ := getF X8 hx hZ hown (host := "") (Or.inl hw30) Via.refl rfl (G.2.2.2.2.2.2.2.2.2.2.2.2.2.2.2.2.2.2.2.2.2.2.2.2.2.2.2.2.2.2.2.2.2.2.2.2.2.2.2.2.2.2.2.2.2.2.2.2.1.ext O8.2) (g := (mkF m 21 #[.val (.ref u1), .val (.ref r_8), .val (.int (2 : Int32)), .val (.int (0 : Int32)), .val (.ref y0)] [(.ref y0)])) rfl rfl (hb hby d2_21)
  refine Go.by' st11 ?_
  show Go p.tables e below Pf (T11.setTop (mkF m 24 #[.val (.ref u1), .val (.ref r_8), .val (.int (2 : Int32)), .val (.int (0 : Int32)), .val (.ref y0)] [(.ref u0)]))
  refine Go.by' (fun t k => (XS.aloadN X11.here hx rfl (hb hby d2_24) rfl rfl k)) ?_
  show Go p.tables e below Pf (T11.setTop (mkF m 25 #[.val (.ref u1), .val (.ref r_8), .val (.int (2 : Int32)), .val (.int (0 : Int32)), .val (.ref y0)] [(.ref u1), (.ref u0)]))
  refine Go.by' (fun t k => Jvm.RoadKit.acmp (g := (mkF m 25 #[.val (.ref u1), .val (.ref r_8), .val (.int (2 : Int32)), .val (.int (0 : Int32)), .val (.ref y0)] [(.ref u1), (.ref u0)])) X11 hx rfl rfl rfl (pc0 := 25) (pc' := 31) (same := false) rfl (hb hby d2_25) rfl (decide_eq_false (fun q => (Ne.symm G.2.2.2.2.2.2.2.2.2.2.2.2.2.2.2.2.2.2.2.2.2.2.2.2.2.2.1) (Value.ref.inj q))) (by decide) (by decide) k) ?_
  show Go p.tables e below Pf (T11.setTop (mkF m 31 #[.val (.ref u1), .val (.ref r_8), .val (.int (2 : Int32)), .val (.int (0 : Int32)), .val (.ref y0)] []))
  refine Go.by' (fun t k => (XS.iinc X11.here hx rfl (hb hby d2_31) rfl (l' := #[.val (.ref u1), .val (.ref r_8), .val (.int (2 : Int32)), .val (.int ((0 : Int32) + (1 : Int32))), .val (.ref y0)]) rfl k)) ?_
  show Go p.tables e below Pf (T11.setTop (mkF m 34 #[.val (.ref u1), .val (.ref r_8), .val (.int (2 : Int32)), .val (.int ((0 : Int32) + (1 : Int32))), .val (.ref y0)] []))
  refine Go.castF (fun z' => mkF m 34 #[.val (.ref u1), .val (.ref r_8), .val (.int (2 : Int32)), .val (.int z'), .val (.ref y0)] []) (by decide : ((0 : Int32) + (1 : Int32)) = (1 : Int32)) ?_
  show Go p.tables e below Pf (T11.setTop (mkF m 34 #[.val (.ref u1), .val (.ref r_8), .val (.int (2 : Int32)), .val (.int (1 : Int32)), .val (.ref y0)] []))
  refine Go.by' (fun t k => (XS.goto X11.here hx rfl (pc0 := 34) (pc' := 9) rfl (hb hby d2_34) (by decide) (by decide) (XS.iloadN X11.here hx rfl (hb hby d2_9) rfl (XS.iloadN X11.here hx rfl (hb hby d2_10) rfl (XS.icmpNo X11.here hx rfl (hb hby d2_11) rfl (tlt (by decide)).2.1 (XS.aloadN X11.here hx rfl (hb hby d2_14) rfl rfl (XS.iloadN X11.here hx rfl (hb hby d2_15) rfl k))))))) ?_
  show Go p.tables e below Pf (T11.setTop (mkF m 16 #[.val (.ref u1), .val (.ref r_8), .val (.int (2 : Int32)), .val (.int (1 : Int32)), .val (.ref y0)] [(.int (1 : Int32)), (.ref r_8)]))
  obtain ⟨cl12, Ar12, q12, S12, P12, H12, G12⟩ := (id f8_0)
  have hin12 : ¬ ((1 : Int32) < 0 ∨ cl12.slots.size ≤ ((1 : Int32)).toNatClampNeg) := inb_of S12 ⟨by decide, by decide⟩
  refine Go.by' (fun t k => (X11.aaload hx (j := (1 : Int32)) (v := (.ref y1)) (by rw [e11]; exact Ar12.1) (State.isArrayOf_alike hZ.alike Ar12.2.1) rfl Ar12.2.2 hin12 (H12.at hin12 rfl) (g := (mkF m 16 #[.val (.ref u1), .val (.ref r_8), .val (.int (2 : Int32)), .val (.int (1 : Int32)), .val (.ref y0)] [(.int (1 : Int32)), (.ref r_8)])) rfl rfl (hb hby d2_16) t (XS.astore X11.here hx rfl (hb hby d2_17) rfl rfl (l' := #[.val (.ref u1), .val (.ref r_8), .val (.int (2 : Int32)), .val (.int (1 : Int32)), .val (.ref y1)]) rfl (XS.aload X11.here hx rfl (hb hby d2_19) rfl rfl k)))) ?_
  show Go p.tables e below Pf (T11.setTop (mkF m 21 #[.val (.ref u1), .val (.ref r_8), .val (.int (2 : Int32)), .val (.int (1 : Int32)), .val (.ref y1)] [(.ref y1)]))
  obtain ⟨T13, X13, e13, st13⟩ := getF X11 hx hZ hown (host := "") (Or.inl hw30) Via.refl e11 (G.2.2.2.2.2.2.2.2.2.2.2.2.2.2.2.2.2.2.2.2.2.2.2.2.2.2.2.2.2.2.2.2.2.2.2.2.2.2.2.2.2.2.2.2.2.2.2.2.2.ext O8.2) (g := (mkF m 21 #[.val (.ref u1), .val (.ref r_8), .val (.int (2 : Int32)), .val (.int (1 : Int32)), .val (.ref y1)] [(.ref y1)])) rfl rfl (hb hby d2_21)
  refine Go.by' st13 ?_
  show Go p.tables e below Pf (T13.setTop (mkF m 24 #[.val (.ref u1), .val (.ref r_8), .val (.int (2 : Int32)), .val (.int (1 : Int32)), .val (.ref y1)] [(.ref u1)]))
  refine Go.by' (fun t k => (XS.aloadN X13.here hx rfl (hb hby d2_24) rfl rfl k)) ?_
  show Go p.tables e below Pf (T13.setTop (mkF m 25 #[.val (.ref u1), .val (.ref r_8), .val (.int (2 : Int32)), .val (.int (1 : Int32)), .val (.ref y1)] [(.ref u1), (.ref u1)]))
  refine Go.by' (fun t k => Jvm.RoadKit.acmp (g := (mkF m 25 #[.val (.ref u1), .val (.ref r_8), .val (.int (2 : Int32)), .val (.int (1 : Int32)), .val (.ref y1)] [(.ref u1), (.ref u1)])) X13 hx rfl rfl rfl (pc0 := 25) (pc' := 28) (same := true) rfl (hb hby d2_25) rfl (decide_eq_true rfl) (by decide) (by decide) k) ?_
  show Go p.tables e below Pf (T13.setTop (mkF m 28 #[.val (.ref u1), .val (.ref r_8), .val (.int (2 : Int32)), .val (.int (1 : Int32)), .val (.ref y1)] []))
  refine Go.by' (fun t k => (XS.aload X13.here hx rfl (hb hby d2_28) rfl rfl k)) ?_
  show Go p.tables e below Pf (T13.setTop (mkF m 30 #[.val (.ref u1), .val (.ref r_8), .val (.int (2 : Int32)), .val (.int (1 : Int32)), .val (.ref y1)] [(.ref y1)]))
  rw [hPf]
  exact Go.retA' X13 hx hret hlk rfl rfl (hb hby d2_30) (by decide) (by decide) ⟨rfl, N8, (by rw [e13]; exact KC8)⟩
theorem d2_37 : decode prog_92_method_4_code 37 = .ok (.aconst_null, 1) := by decide +kernel
theorem d2_38 : decode prog_92_method_4_code 38 = .ok (.areturn, 1) := by decide +kernel
set_option maxHeartbeats 4000000 in
theorem ef_rmOEx (m : MethodId) {an : Addr} : entryFrame m #[(.ref an)] 5 = mkF m 0 #[.val (.ref an), .unset, .unset, .unset, .unset] [] := by first | (simp [entryFrame, mkF, argsToLocals, Value.category]; done) | rfl
def QrmOEx (Z : State) (u0 : Addr) (u1 : Addr) (u2 : Addr) (u3 : Addr) (u4 : Addr) (u5 : Addr) (u6 : Addr) (u7 : Addr) (u8 : Addr) (u9 : Addr) (u10 : Addr) (y0 : Addr) (y1 : Addr) (wV : Addr) (kV : ClassId) (an : Addr) (h0 : Heap) (n0 : Nat) (v : Option Value) (h : Heap) (L : List Loc) : Prop := (v = some .null) ∧ (Fr n0 L) ∧ (Keep h0 h [])
set_option maxRecDepth 65536 in
set_option maxHeartbeats 40000000 in
theorem rmOEx (l : Launch) (Z : State) (a0 : Array Value) (hw : ∀ d ∈ tables_1, d.before a0 Z = true) (ws : List Jvm.Cond) (u0 : Addr) (u1 : Addr) (u2 : Addr) (u3 : Addr) (u4 : Addr) (u5 : Addr) (u6 : Addr) (u7 : Addr) (u8 : Addr) (u9 : Addr) (u10 : Addr) (y0 : Addr) (y1 : Addr) (wV : Addr) (kV : ClassId) (G : Gh Z u0 u1 u2 u3 u4 u5 u6 u7 u8 u9 u10 y0 y1 wV kV) (an : Addr) (h0 : Heap) (n0 : Nat) (O0 : Old Z n0 h0) (hn0 : an ≠ u0) (hn1 : an ≠ u1) :
    MetFree l (⟨"com/example/meterline/meterline/protocol/SoapVersion", "ofEnvelope", "(Lcom/example/meterline/meterline/protocol/WireNamespace;)Lcom/example/meterline/meterline/protocol/SoapVersion;"⟩ : MethodName) (head1 (Jvm.Cond.code (⟨"com/example/meterline/meterline/protocol/SoapVersion", "ofEnvelope", "(Lcom/example/meterline/meterline/protocol/WireNamespace;)Lcom/example/meterline/meterline/protocol/SoapVersion;"⟩ : MethodName) prog_92_method_4_code 5 (some (.object "com/example/meterline/meterline/protocol/SoapVersion")) :: ws) ({ frames := 2, cells := 1, slots := 2, locals := 25 } : Room)) (fun aa' UU' => aa' = #[(.ref an)] ∧ Z.Warmed39 UU'.vm ∧ UU'.heap = h0) (fun _ _ _ _ _ => True) (fun _ UU' oo' VV' => ∃ v' L', oo' = .returned v' ∧ QrmOEx Z u0 u1 u2 u3 u4 u5 u6 u7 u8 u9 u10 y0 y1 wV kV an h0 n0 v' VV'.heap L' ∧ FrameEnd UU' oo' VV' L' ({ frames := 2, cells := 1, slots := 2, locals := 25 } : Room).cells ({ frames := 2, cells := 1, slots := 2, locals := 25 } : Room).slots) := by
  refine MetFree.of_bodySF (plainFor_of_name pn_2) hisR ?_
  intro p e s m args below meth c s₁ Bd hml0 hP hK
  obtain ⟨rfl, hZ, hh⟩ := hP
  have hx := Bd.exec
  have hby := Bd.bytes
  have hlk := Bd.notSynchronized
  have hml : c.maxLocals = 5 := hml0
  have hown : s.vm.findClass "com/example/meterline/meterline/protocol/SoapVersion" = some m.cls := findClass_of_methodNamed Bd.named
  have hnm := (name_of_methodNamed Bd.named Bd.method).1
  have hret := Bd.returns
  have X0 : Stand p l e ({ frames := 2, cells := 1, slots := 2, locals := 25 } : Room) s m #[(.ref an)] below meth c s₁ [] 0 0 := Stand.of_body Bd
  have e0 : s₁.heap = h0 := by rw [← hh, Bd.state]; rfl
  have N0 := Fr.nil n0
  have KC0 : Keep h0 h0 [] := Keep.refl _ _
  refine Go.body ?_
  obtain ⟨Pf, hPf⟩ : ∃ P, P = Fin' s below ({ frames := 2, cells := 1, slots := 2, locals := 25 } : Room).cells ({ frames := 2, cells := 1, slots := 2, locals := 25 } : Room).slots (QrmOEx Z u0 u1 u2 u3 u4 u5 u6 u7 u8 u9 u10 y0 y1 wV kV an h0 n0) := ⟨_, rfl⟩
  rw [← hPf]
  refine Go.cast (ef_rmOEx m) ?_
  have hw9 := (hw _ (List.mem_of_getElem? (i := 9) rfl))
  have hw14 := (hw _ (List.mem_of_getElem? (i := 14) rfl))
  have hw15 := (hw _ (List.mem_of_getElem? (i := 15) rfl))
  have hw16 := (hw _ (List.mem_of_getElem? (i := 16) rfl))
  have hw30 := (hw _ (List.mem_of_getElem? (i := 30) rfl))
  show Go p.tables e below Pf (s₁.setTop (mkF m 0 #[.val (.ref an), .unset, .unset, .unset, .unset] []))
  obtain ⟨_, _, ⟨T14, L14, k14, n14⟩, -, X14, ⟨Lc14, hQ14, l14, y14, z14⟩, st14⟩ := Jvm.LawKit.callS X0 hx (y := (⟨"com/example/meterline/meterline/protocol/SoapVersion", "values", "()[Lcom/example/meterline/meterline/protocol/SoapVersion;"⟩ : MethodName)) hown (mvT hZ hw14) (mvT hZ hw15) (mvT hZ hw9) (mvT hZ hw16) (by decide) (backOf (W := 0) (rmVals l Z a0 hw [] u0 u1 u2 u3 u4 u5 u6 u7 u8 u9 u10 y0 y1 wV kV G  h0 n0 O0 ) hZ hw16 hw9 (by decide) (by decide)) (g := (mkF m 0 #[.val (.ref an), .unset, .unset, .unset, .unset] [])) rfl (by rw [hml]; rfl) (argsL := []) (rest := []) (lenOf pd_0 rfl) rfl (by show 2 * 0 + _ ≤ _; exact Nat.le_of_eq rfl) (hb hby d2_0) (fun _ _ => ⟨rfl, e0, (by decide : 0 + 1 ≤ _), (by decide : 0 + 2 ≤ _)⟩)
  dsimp only [Pt.U, Pt.locs, Pt.cells, Pt.slots] at X14 l14 y14 z14 st14 hQ14
  subst l14 y14 z14
  obtain ⟨r_14, rfl, N14q, K14, f14_0, f14_1⟩ := hQ14
  have N14 := Fr.app N0 N14q
  refine Go.by' st14 ?_
  have g_r_14 : n0 ≤ r_14 := Nat.le_trans (own_le O0) f14_1
  have sz_r_14 : h0.size ≤ r_14 := Nat.le_trans KC0.1 f14_1
  have O14 := O0.keep K14 all0
  have KC14 : Keep h0 T14.heap [] := KC0.trans K14 all0
  show Go p.tables e below Pf (T14.setTop (mkF m 3 #[.val (.ref an), .unset, .unset, .unset, .unset] [(.ref r_14)]))
  refine Go.by' (fun t k => (XS.astoreN X14.here hx rfl (hb hby d2_3) rfl rfl (l' := #[.val (.ref an), .val (.ref r_14), .unset, .unset, .unset]) rfl (XS.aloadN X14.here hx rfl (hb hby d2_4) rfl rfl k))) ?_
  show Go p.tables e below Pf (T14.setTop (mkF m 5 #[.val (.ref an), .val (.ref r_14), .unset, .unset, .unset] [(.ref r_14)]))
  obtain ⟨cl15, Ar15, -, S15, P15, -, -⟩ := (id f14_0)
  refine Go.by' (fun t k => (X14.arraylength hx Ar15.1 (State.isArrayOf_alike hZ.alike Ar15.2.1) (g := (mkF m 5 #[.val (.ref an), .val (.ref r_14), .unset, .unset, .unset] [(.ref r_14)])) rfl rfl (hb hby d2_5) t k)) ?_
  rw [len_of S15 P15]
  show Go p.tables e below Pf (T14.setTop (mkF m 6 #[.val (.ref an), .val (.ref r_14), .unset, .unset, .unset] [(.int (2 : Int32))]))
  refine Go.by' (fun t k => (XS.istoreN X14.here hx rfl (hb hby d2_6) rfl (l' := #[.val (.ref an), .val (.ref r_14), .val (.int (2 : Int32)), .unset, .unset]) rfl (XS.iconst X14.here hx rfl (hb hby d2_7) (XS.istoreN X14.here hx rfl (hb hby d2_8) rfl (l' := #[.val (.ref an), .val (.ref r_14), .val (.int (2 : Int32)), .val (.int (0 : Int32)), .unset]) rfl (XS.iloadN X14.here hx rfl (hb hby d2_9) rfl (XS.iloadN X14.here hx rfl (hb hby d2_10) rfl (XS.icmpNo X14.here hx rfl (hb hby d2_11) rfl (tlt (by decide)).2.1 k))))))) ?_
  show Go p.tables e below Pf (T14.setTop (mkF m 14 #[.val (.ref an), .val (.ref r_14), .val (.int (2 : Int32)), .val (.int (0 : Int32)), .unset] []))
  refine Go.by' (fun t k => (XS.aloadN X14.here hx rfl (hb hby d2_14) rfl rfl (XS.iloadN X14.here hx rfl (hb hby d2_15) rfl k))) ?_
  show Go p.tables e below Pf (T14.setTop (mkF m 16 #[.val (.ref an), .val (.ref r_14), .val (.int (2 : Int32)), .val (.int (0 : Int32)), .unset] [(.int (0 : Int32)), (.ref r_14)]))
  obtain ⟨cl16, Ar16, q16, S16, P16, H16, G16⟩ := (id f14_0)
  have hin16 : ¬ ((0 : Int32) < 0 ∨ cl16.slots.size ≤ ((0 : Int32)).toNatClampNeg) := inb_of S16 ⟨by decide, by decide⟩
  refine Go.by' (fun t k => (X14.aaload hx (j := (0 : Int32)) (v := (.ref y0)) Ar16.1 (State.isArrayOf_alike hZ.alike Ar16.2.1) rfl Ar16.2.2 hin16 (H16.at hin16 rfl) (g := (mkF m 16 #[.val (.ref an), .val (.ref r_14), .val (.int (2 : Int32)), .val (.int (0 : Int32)), .unset] [(.int (0 : Int32)), (.ref r_14)])) rfl rfl (hb hby d2_16) t (XS.astore X14.here hx rfl (hb hby d2_17) rfl rfl (l' := #[.val (.ref an), .val (.ref r_14), .val (.int (2 : Int32)), .val (.int (0 : Int32)), .val (.ref y0)]) rfl (XS.aload X14.here hx rfl (hb hby d2_19) rfl rfl k)))) ?_
  show Go p.tables e below Pf (T14.setTop (mkF m 21 #[.val (.ref an), .val (.ref r_14), .val (.int (2 : Int32)), .val (.int (0 : Int32)), .val (.ref y0)] [(.ref y0)]))
  obtain ⟨T17, X17, e17, st17⟩ := getF X14 hx hZ hown (host := "") (Or.inl hw30) Via.refl rfl (G.2.2.2.2.2.2.2.2.2.2.2.2.2.2.2.2.2.2.2.2.2.2.2.2.2.2.2.2.2.2.2.2.2.2.2.2.2.2.2.2.2.2.2.2.2.2.2.2.1.ext O14.2) (g := (mkF m 21 #[.val (.ref an), .val (.ref r_14), .val (.int (2 : Int32)), .val (.int (0 : Int32)), .val (.ref y0)] [(.ref y0)])) rfl rfl (hb hby d2_21)
  refine Go.by' st17 ?_
  show Go p.tables e below Pf (T17.setTop (mkF m 24 #[.val (.ref an), .val (.ref r_14), .val (.int (2 : Int32)), .val (.int (0 : Int32)), .val (.ref y0)] [(.ref u0)]))
  refine Go.by' (fun t k => (XS.aloadN X17.here hx rfl (hb hby d2_24) rfl rfl k)) ?_
  show Go p.tables e below Pf (T17.setTop (mkF m 25 #[.val (.ref an), .val (.ref r_14), .val (.int (2 : Int32)), .val (.int (0 : Int32)), .val (.ref y0)] [(.ref an), (.ref u0)]))
  refine Go.by' (fun t k => Jvm.RoadKit.acmp (g := (mkF m 25 #[.val (.ref an), .val (.ref r_14), .val (.int (2 : Int32)), .val (.int (0 : Int32)), .val (.ref y0)] [(.ref an), (.ref u0)])) X17 hx rfl rfl rfl (pc0 := 25) (pc' := 31) (same := false) rfl (hb hby d2_25) rfl (decide_eq_false (fun q => (Ne.symm hn0) (Value.ref.inj q))) (by decide) (by decide) k) ?_
  show Go p.tables e below Pf (T17.setTop (mkF m 31 #[.val (.ref an), .val (.ref r_14), .val (.int (2 : Int32)), .val (.int (0 : Int32)), .val (.ref y0)] []))
  refine Go.by' (fun t k => (XS.iinc X17.here hx rfl (hb hby d2_31) rfl (l' := #[.val (.ref an), .val (.ref r_14), .val (.int (2 : Int32)), .val (.int ((0 : Int32) + (1 : Int32))), .val (.ref y0)]) rfl k)) ?_
  show Go p.tables e below Pf (T17.setTop (mkF m 34 #[.val (.ref an), .val (.ref r_14), .val (.int (2 : Int32)), .val (.int ((0 : Int32) + (1 : Int32))), .val (.ref y0)] []))
  refine Go.castF (fun z' => mkF m 34 #[.val (.ref an), .val (.ref r_14), .val (.int (2 : Int32)), .val (.int z'), .val (.ref y0)] []) (by decide : ((0 : Int32) + (1 : Int32)) = (1 : Int32)) ?_
  show Go p.tables e below Pf (T17.setTop (mkF m 34 #[.val (.ref an), .val (.ref r_14), .val (.int (2 : Int32)), .val (.int (1 : Int32)), .val (.ref y0)] []))
  refine Go.by' (fun t k => (XS.goto X17.here hx rfl (pc0 := 34) (pc' := 9) rfl (hb hby d2_34) (by decide) (by decide) (XS.iloadN X17.here hx rfl (hb hby d2_9) rfl (XS.iloadN X17.here hx rfl (hb hby d2_10) rfl (XS.icmpNo X17.here hx rfl (hb hby d2_11) rfl (tlt (by decide)).2.1 (XS.aloadN X17.here hx rfl (hb hby d2_14) rfl rfl (XS.iloadN X17.here hx rfl (hb hby d2_15) rfl k))))))) ?_
  show Go p.tables e below Pf (T17.setTop (mkF m 16 #[.val (.ref an), .val (.ref r_14), .val (.int (2 : Int32)), .val (.int (1 : Int32)), .val (.ref y0)] [(.int (1 : Int32)), (.ref r_14)]))
  obtain ⟨cl18, Ar18, q18, S18, P18, H18, G18⟩ := (id f14_0)
  have hin18 : ¬ ((1 : Int32) < 0 ∨ cl18.slots.size ≤ ((1 : Int32)).toNatClampNeg) := inb_of S18 ⟨by decide, by decide⟩
  refine Go.by' (fun t k => (X17.aaload hx (j := (1 : Int32)) (v := (.ref y1)) (by rw [e17]; exact Ar18.1) (State.isArrayOf_alike hZ.alike Ar18.2.1) rfl Ar18.2.2 hin18 (H18.at hin18 rfl) (g := (mkF m 16 #[.val (.ref an), .val (.ref r_14), .val (.int (2 : Int32)), .val (.int (1 : Int32)), .val (.ref y0)] [(.int (1 : Int32)), (.ref r_14)])) rfl rfl (hb hby d2_16) t (XS.astore X17.here hx rfl (hb hby d2_17) rfl rfl (l' := #[.val (.ref an), .val (.ref r_14), .val (.int (2 : Int32)), .val (.int (1 : Int32)), .val (.ref y1)]) rfl (XS.aload X17.here hx rfl (hb hby d2_19) rfl rfl k)))) ?_
  show Go p.tables e below Pf (T17.setTop (mkF m 21 #[.val (.ref an), .val (.ref r_14), .val (.int (2 : Int32)), .val (.int (1 : Int32)), .val (.ref y1)] [(.ref y1)]))
  obtain ⟨T19, X19, e19, st19⟩ := getF X17 hx hZ hown (host := "") (Or.inl hw30) Via.refl e17 (G.2.2.2.2.2.2.2.2.2.2.2.2.2.2.2.2.2.2.2.2.2.2.2.2.2.2.2.2.2.2.2.2.2.2.2.2.2.2.2.2.2.2.2.2.2.2.2.2.2.ext O14.2) (g := (mkF m 21 #[.val (.ref an), .val (.ref r_14), .val (.int (2 : Int32)), .val (.int (1 : Int32)), .val (.ref y1)] [(.ref y1)])) rfl rfl (hb hby d2_21)
  refine Go.by' st19 ?_
  show Go p.tables e below Pf (T19.setTop (mkF m 24 #[.val (.ref an), .val (.ref r_14), .val (.int (2 : Int32)), .val (.int (1 : Int32)), .val (.ref y1)] [(.ref u1)]))
  refine Go.by' (fun t k => (XS.aloadN X19.here hx rfl (hb hby d2_24) rfl rfl k)) ?_
  show Go p.tables e below Pf (T19.setTop (mkF m 25 #[.val (.ref an), .val (.ref r_14), .val (.int (2 : Int32)), .val (.int (1 : Int32)), .val (.ref y1)] [(.ref an), (.ref u1)]))
  refine Go.by' (fun t k => Jvm.RoadKit.acmp (g := (mkF m 25 #[.val (.ref an), .val (.ref r_14), .val (.int (2 : Int32)), .val (.int (1 : Int32)), .val (.ref y1)] [(.ref an), (.ref u1)])) X19 hx rfl rfl rfl (pc0 := 25) (pc' := 31) (same := false) rfl (hb hby d2_25) rfl (decide_eq_false (fun q => (Ne.symm hn1) (Value.ref.inj q))) (by decide) (by decide) k) ?_
  show Go p.tables e below Pf (T19.setTop (mkF m 31 #[.val (.ref an), .val (.ref r_14), .val (.int (2 : Int32)), .val (.int (1 : Int32)), .val (.ref y1)] []))
  refine Go.by' (fun t k => (XS.iinc X19.here hx rfl (hb hby d2_31) rfl (l' := #[.val (.ref an), .val (.ref r_14), .val (.int (2 : Int32)), .val (.int ((1 : Int32) + (1 : Int32))), .val (.ref y1)]) rfl k)) ?_
  show Go p.tables e below Pf (T19.setTop (mkF m 34 #[.val (.ref an), .val (.ref r_14), .val (.int (2 : Int32)), .val (.int ((1 : Int32) + (1 : Int32))), .val (.ref y1)] []))
  refine Go.castF (fun z' => mkF m 34 #[.val (.ref an), .val (.ref r_14), .val (.int (2 : Int32)), .val (.int z'), .val (.ref y1)] []) (by decide : ((1 : Int32) + (1 : Int32)) = (2 : Int32)) ?_
  show Go p.tables e below Pf (T19.setTop (mkF m 34 #[.val (.ref an), .val (.ref r_14), .val (.int (2 : Int32)), .val (.int (2 : Int32)), .val (.ref y1)] []))
  refine Go.by' (fun t k => (XS.goto X19.here hx rfl (pc0 := 34) (pc' := 9) rfl (hb hby d2_34) (by decide) (by decide) (XS.iloadN X19.here hx rfl (hb hby d2_9) rfl (XS.iloadN X19.here hx rfl (hb hby d2_10) rfl (XS.icmpYes X19.here hx rfl (pc0 := 11) (pc' := 37) rfl (hb hby d2_11) rfl (flt (by decide)).2.1 (by decide) (by decide) (XS.aconstNull X19.here hx rfl (hb hby d2_37) k)))))) ?_
  show Go p.tables e below Pf (T19.setTop (mkF m 38 #[.val (.ref an), .val (.ref r_14), .val (.int (2 : Int32)), .val (.int (2 : Int32)), .val (.ref y1)] [.null]))
  rw [hPf]
  exact Go.retA' X19 hx hret hlk rfl rfl (hb hby d2_38) (by decide) (by decide) ⟨rfl, N14, (by rw [e19]; exact KC14)⟩
set_option maxHeartbeats 4000000 in
theorem ef_rmOEn (m : MethodId)  : entryFrame m #[.null] 5 = mkF m 0 #[.val .null, .unset, .unset, .unset, .unset] [] := by first | (simp [entryFrame, mkF, argsToLocals, Value.category]; done) | rfl
def QrmOEn (Z : State) (u0 : Addr) (u1 : Addr) (u2 : Addr) (u3 : Addr) (u4 : Addr) (u5 : Addr) (u6 : Addr) (u7 : Addr) (u8 : Addr) (u9 : Addr) (u10 : Addr) (y0 : Addr) (y1 : Addr) (wV : Addr) (kV : ClassId)  (h0 : Heap) (n0 : Nat) (v : Option Value) (h : Heap) (L : List Loc) : Prop := (v = some .null) ∧ (Fr n0 L) ∧ (Keep h0 h [])
set_option maxRecDepth 65536 in
set_option maxHeartbeats 40000000 in
theorem rmOEn (l : Launch) (Z : State) (a0 : Array Value) (hw : ∀ d ∈ tables_1, d.before a0 Z = true) (ws : List Jvm.Cond) (u0 : Addr) (u1 : Addr) (u2 : Addr) (u3 : Addr) (u4 : Addr) (u5 : Addr) (u6 : Addr) (u7 : Addr) (u8 : Addr) (u9 : Addr) (u10 : Addr) (y0 : Addr) (y1 : Addr) (wV : Addr) (kV : ClassId) (G : Gh Z u0 u1 u2 u3 u4 u5 u6 u7 u8 u9 u10 y0 y1 wV kV)  (h0 : Heap) (n0 : Nat) (O0 : Old Z n0 h0) :
    MetFree l (⟨"com/example/meterline/meterline/protocol/SoapVersion", "ofEnvelope", "(Lcom/example/meterline/meterline/protocol/WireNamespace;)Lcom/example/meterline/meterline/protocol/SoapVersion;"⟩ : MethodName) (head1 (Jvm.Cond.code (⟨"com/example/meterline/meterline/protocol/SoapVersion", "ofEnvelope", "(Lcom/example/meterline/meterline/protocol/WireNamespace;)Lcom/example/meterline/meterline/protocol/SoapVersion;"⟩ : MethodName) prog_92_method_4_code 5 (some (.object "com/example/meterline/meterline/protocol/SoapVersion")) :: ws) ({ frames := 2, cells := 1, slots := 2, locals := 25 } : Room)) (fun aa' UU' => aa' = #[.null] ∧ Z.Warmed39 UU'.vm ∧ UU'.heap = h0) (fun _ _ _ _ _ => True) (fun _ UU' oo' VV' => ∃ v' L', oo' = .returned v' ∧ QrmOEn Z u0 u1 u2 u3 u4 u5 u6 u7 u8 u9 u10 y0 y1 wV kV  h0 n0 v' VV'.heap L' ∧ FrameEnd UU' oo' VV' L' ({ frames := 2, cells := 1, slots := 2, locals := 25 } : Room).cells ({ frames := 2, cells := 1, slots := 2, locals := 25 } : Room).slots) := by
  refine MetFree.of_bodySF (plainFor_of_name pn_2) hisR ?_
  intro p e s m args below meth c s₁ Bd hml0 hP hK
  obtain ⟨rfl, hZ, hh⟩ := hP
  have hx := Bd.exec
  have hby := Bd.bytes
  have hlk := Bd.notSynchronized
  have hml : c.maxLocals = 5 := hml0
  have hown : s.vm.findClass "com/example/meterline/meterline/protocol/SoapVersion" = some m.cls := findClass_of_methodNamed Bd.named
  have hnm := (name_of_methodNamed Bd.named Bd.method).1
  have hret := Bd.returns
  have X0 : Stand p l e ({ frames := 2, cells := 1, slots := 2, locals := 25 } : Room) s m #[.null] below meth c s₁ [] 0 0 := Stand.of_body Bd
  have e0 : s₁.heap = h0 := by rw [← hh, Bd.state]; rfl
  have N0 := Fr.nil n0
  have KC0 : Keep h0 h0 [] := Keep.refl _ _
  refine Go.body ?_
  obtain ⟨Pf, hPf⟩ : ∃ P, P = Fin' s below ({ frames := 2, cells := 1, slots := 2, locals := 25 } : Room).cells ({ frames := 2, cells := 1, slots := 2, locals := 25 } : Room).slots (QrmOEn Z u0 u1 u2 u3 u4 u5 u6 u7 u8 u9 u10 y0 y1 wV kV  h0 n0) := ⟨_, rfl⟩
  rw [← hPf]
  refine Go.cast (ef_rmOEn m) ?_
  have hw9 := (hw _ (List.mem_of_getElem? (i := 9) rfl))
  have hw14 := (hw _ (List.mem_of_getElem? (i := 14) rfl))
  have hw15 := (hw _ (List.mem_of_getElem? (i := 15) rfl))
  have hw16 := (hw _ (List.mem_of_getElem? (i := 16) rfl))
  have hw30 := (hw _ (List.mem_of_getElem? (i := 30) rfl))
  show Go p.tables e below Pf (s₁.setTop (mkF m 0 #[.val .null, .unset, .unset, .unset, .unset] []))
  obtain ⟨_, _, ⟨T20, L20, k20, n20⟩, -, X20, ⟨Lc20, hQ20, l20, y20, z20⟩, st20⟩ := Jvm.LawKit.callS X0 hx (y := (⟨"com/example/meterline/meterline/protocol/SoapVersion", "values", "()[Lcom/example/meterline/meterline/protocol/SoapVersion;"⟩ : MethodName)) hown (mvT hZ hw14) (mvT hZ hw15) (mvT hZ hw9) (mvT hZ hw16) (by decide) (backOf (W := 0) (rmVals l Z a0 hw [] u0 u1 u2 u3 u4 u5 u6 u7 u8 u9 u10 y0 y1 wV kV G  h0 n0 O0 ) hZ hw16 hw9 (by decide) (by decide)) (g := (mkF m 0 #[.val .null, .unset, .unset, .unset, .unset] [])) rfl (by rw [hml]; rfl) (argsL := []) (rest := []) (lenOf pd_0 rfl) rfl (by show 2 * 0 + _ ≤ _; exact Nat.le_of_eq rfl) (hb hby d2_0) (fun _ _ => ⟨rfl, e0, (by decide : 0 + 1 ≤ _), (by decide : 0 + 2 ≤ _)⟩)
  dsimp only [Pt.U, Pt.locs, Pt.cells, Pt.slots] at X20 l20 y20 z20 st20 hQ20
  subst l20 y20 z20
  obtain ⟨r_20, rfl, N20q, K20, f20_0, f20_1⟩ := hQ20
  have N20 := Fr.app N0 N20q
  refine Go.by' st20 ?_
  have g_r_20 : n0 ≤ r_20 := Nat.le_trans (own_le O0) f20_1
  have sz_r_20 : h0.size ≤ r_20 := Nat.le_trans KC0.1 f20_1
  have O20 := O0.keep K20 all0
  have KC20 : Keep h0 T20.heap [] := KC0.trans K20 all0
  show Go p.tables e below Pf (T20.setTop (mkF m 3 #[.val .null, .unset, .unset, .unset, .unset] [(.ref r_20)]))
  refine Go.by' (fun t k => (XS.astoreN X20.here hx rfl (hb hby d2_3) rfl rfl (l' := #[.val .null, .val (.ref r_20), .unset, .unset, .unset]) rfl (XS.aloadN X20.here hx rfl (hb hby d2_4) rfl rfl k))) ?_
  show Go p.tables e below Pf (T20.setTop (mkF m 5 #[.val .null, .val (.ref r_20), .unset, .unset, .unset] [(.ref r_20)]))
  obtain ⟨cl21, Ar21, -, S21, P21, -, -⟩ := (id f20_0)
  refine Go.by' (fun t k => (X20.arraylength hx Ar21.1 (State.isArrayOf_alike hZ.alike Ar21.2.1) (g := (mkF m 5 #[.val .null, .val (.ref r_20), .unset, .unset, .unset] [(.ref r_20)])) rfl rfl (hb hby d2_5) t k)) ?_
  rw [len_of S21 P21]
  show Go p.tables e below Pf (T20.setTop (mkF m 6 #[.val .null, .val (.ref r_20), .unset, .unset, .unset] [(.int (2 : Int32))]))
  refine Go.by' (fun t k => (XS.istoreN X20.here hx rfl (hb hby d2_6) rfl (l' := #[.val .null, .val (.ref r_20), .val (.int (2 : Int32)), .unset, .unset]) rfl (XS.iconst X20.here hx rfl (hb hby d2_7) (XS.istoreN X20.here hx rfl (hb hby d2_8) rfl (l' := #[.val .null, .val (.ref r_20), .val (.int (2 : Int32)), .val (.int (0 : Int32)), .unset]) rfl (XS.iloadN X20.here hx rfl (hb hby d2_9) rfl (XS.iloadN X20.here hx rfl (hb hby d2_10) rfl (XS.icmpNo X20.here hx rfl (hb hby d2_11) rfl (tlt (by decide)).2.1 k))))))) ?_
  show Go p.tables e below Pf (T20.setTop (mkF m 14 #[.val .null, .val (.ref r_20), .val (.int (2 : Int32)), .val (.int (0 : Int32)), .unset] []))
  refine Go.by' (fun t k => (XS.aloadN X20.here hx rfl (hb hby d2_14) rfl rfl (XS.iloadN X20.here hx rfl (hb hby d2_15) rfl k))) ?_
  show Go p.tables e below Pf (T20.setTop (mkF m 16 #[.val .null, .val (.ref r_20), .val (.int (2 : Int32)), .val (.int (0 : Int32)), .unset] [(.int (0 : Int32)), (.ref r_20)]))
  obtain ⟨cl22, Ar22, q22, S22, P22, H22, G22⟩ := (id f20_0)
  have hin22 : ¬ ((0 : Int32) < 0 ∨ cl22.slots.size ≤ ((0 : Int32)).toNatClampNeg) := inb_of S22 ⟨by decide, by decide⟩
  refine Go.by' (fun t k => (X20.aaload hx (j := (0 : Int32)) (v := (.ref y0)) Ar22.1 (State.isArrayOf_alike hZ.alike Ar22.2.1) rfl Ar22.2.2 hin22 (H22.at hin22 rfl) (g := (mkF m 16 #[.val .null, .val (.ref r_20), .val (.int (2 : Int32)), .val (.int (0 : Int32)), .unset] [(.int (0 : Int32)), (.ref r_20)])) rfl rfl (hb hby d2_16) t (XS.astore X20.here hx rfl (hb hby d2_17) rfl rfl (l' := #[.val .null, .val (.ref r_20), .val (.int (2 : Int32)), .val (.int (0 : Int32)), .val (.ref y0)]) rfl (XS.aload X20.here hx rfl (hb hby d2_19) rfl rfl k)))) ?_
  show Go p.tables e below Pf (T20.setTop (mkF m 21 #[.val .null, .val (.ref r_20), .val (.int (2 : Int32)), .val (.int (0 : Int32)), .val (.ref y0)] [(.ref y0)]))
  obtain ⟨T23, X23, e23, st23⟩ := getF X20 hx hZ hown (host := "") (Or.inl hw30) Via.refl rfl (G.2.2.2.2.2.2.2.2.2.2.2.2.2.2.2.2.2.2.2.2.2.2.2.2.2.2.2.2.2.2.2.2.2.2.2.2.2.2.2.2.2.2.2.2.2.2.2.2.1.ext O20.2) (g := (mkF m 21 #[.val .null, .val (.ref r_20), .val (.int (2 : Int32)), .val (.int (0 : Int32)), .val (.ref y0)] [(.ref y0)])) rfl rfl (hb hby d2_21)
  refine Go.by' st23 ?_
  show Go p.tables e below Pf (T23.setTop (mkF m 24 #[.val .null, .val (.ref r_20), .val (.int (2 : Int32)), .val (.int (0 : Int32)), .val (.ref y0)] [(.ref u0)]))
  refine Go.by' (fun t k => (XS.aloadN X23.here hx rfl (hb hby d2_24) rfl rfl k)) ?_
  show Go p.tables e below Pf (T23.setTop (mkF m 25 #[.val .null, .val (.ref r_20), .val (.int (2 : Int32)), .val (.int (0 : Int32)), .val (.ref y0)] [.null, (.ref u0)]))
  refine Go.by' (fun t k => Jvm.RoadKit.acmp (g := (mkF m 25 #[.val .null, .val (.ref r_20), .val (.int (2 : Int32)), .val (.int (0 : Int32)), .val (.ref y0)] [.null, (.ref u0)])) X23 hx rfl rfl rfl (pc0 := 25) (pc' := 31) (same := false) rfl (hb hby d2_25) rfl (decide_eq_false nofun) (by decide) (by decide) k) ?_
  show Go p.tables e below Pf (T23.setTop (mkF m 31 #[.val .null, .val (.ref r_20), .val (.int (2 : Int32)), .val (.int (0 : Int32)), .val (.ref y0)] []))
  refine Go.by' (fun t k => (XS.iinc X23.here hx rfl (hb hby d2_31) rfl (l' := #[.val .null, .val (.ref r_20), .val (.int (2 : Int32)), .val (.int ((0 : Int32) + (1 : Int32))), .val (.ref y0)]) rfl k)) ?_
  show Go p.tables e below Pf (T23.setTop (mkF m 34 #[.val .null, .val (.ref r_20), .val (.int (2 : Int32)), .val (.int ((0 : Int32) + (1 : Int32))), .val (.ref y0)] []))
  refine Go.castF (fun z' => mkF m 34 #[.val .null, .val (.ref r_20), .val (.int (2 : Int32)), .val (.int z'), .val (.ref y0)] []) (by decide : ((0 : Int32) + (1 : Int32)) = (1 : Int32)) ?_
  show Go p.tables e below Pf (T23.setTop (mkF m 34 #[.val .null, .val (.ref r_20), .val (.int (2 : Int32)), .val (.int (1 : Int32)), .val (.ref y0)] []))
  refine Go.by' (fun t k => (XS.goto X23.here hx rfl (pc0 := 34) (pc' := 9) rfl (hb hby d2_34) (by decide) (by decide) (XS.iloadN X23.here hx rfl (hb hby d2_9) rfl (XS.iloadN X23.here hx rfl (hb hby d2_10) rfl (XS.icmpNo X23.here hx rfl (hb hby d2_11) rfl (tlt (by decide)).2.1 (XS.aloadN X23.here hx rfl (hb hby d2_14) rfl rfl (XS.iloadN X23.here hx rfl (hb hby d2_15) rfl k))))))) ?_
  show Go p.tables e below Pf (T23.setTop (mkF m 16 #[.val .null, .val (.ref r_20), .val (.int (2 : Int32)), .val (.int (1 : Int32)), .val (.ref y0)] [(.int (1 : Int32)), (.ref r_20)]))
  obtain ⟨cl24, Ar24, q24, S24, P24, H24, G24⟩ := (id f20_0)
  have hin24 : ¬ ((1 : Int32) < 0 ∨ cl24.slots.size ≤ ((1 : Int32)).toNatClampNeg) := inb_of S24 ⟨by decide, by decide⟩
  refine Go.by' (fun t k => (X23.aaload hx (j := (1 : Int32)) (v := (.ref y1)) (by rw [e23]; exact Ar24.1) (State.isArrayOf_alike hZ.alike Ar24.2.1) rfl Ar24.2.2 hin24 (H24.at hin24 rfl) (g := (mkF m 16 #[.val .null, .val (.ref r_20), .val (.int (2 : Int32)), .val (.int (1 : Int32)), .val (.ref y0)] [(.int (1 : Int32)), (.ref r_20)])) rfl rfl (hb hby d2_16) t (XS.astore X23.here hx rfl (hb hby d2_17) rfl rfl (l' := #[.val .null, .val (.ref r_20), .val (.int (2 : Int32)), .val (.int (1 : Int32)), .val (.ref y1)]) rfl (XS.aload X23.here hx rfl (hb hby d2_19) rfl rfl k)))) ?_
  show Go p.tables e below Pf (T23.setTop (mkF m 21 #[.val .null, .val (.ref r_20), .val (.int (2 : Int32)), .val (.int (1 : Int32)), .val (.ref y1)] [(.ref y1)]))
  obtain ⟨T25, X25, e25, st25⟩ := getF X23 hx hZ hown (host := "") (Or.inl hw30) Via.refl e23 (G.2.2.2.2.2.2.2.2.2.2.2.2.2.2.2.2.2.2.2.2.2.2.2.2.2.2.2.2.2.2.2.2.2.2.2.2.2.2.2.2.2.2.2.2.2.2.2.2.2.ext O20.2) (g := (mkF m 21 #[.val .null, .val (.ref r_20), .val (.int (2 : Int32)), .val (.int (1 : Int32)), .val (.ref y1)] [(.ref y1)])) rfl rfl (hb hby d2_21)
  refine Go.by' st25 ?_
  show Go p.tables e below Pf (T25.setTop (mkF m 24 #[.val .null, .val (.ref r_20), .val (.int (2 : Int32)), .val (.int (1 : Int32)), .val (.ref y1)] [(.ref u1)]))
  refine Go.by' (fun t k => (XS.aloadN X25.here hx rfl (hb hby d2_24) rfl rfl k)) ?_
  show Go p.tables e below Pf (T25.setTop (mkF m 25 #[.val .null, .val (.ref r_20), .val (.int (2 : Int32)), .val (.int (1 : Int32)), .val (.ref y1)] [.null, (.ref u1)]))
  refine Go.by' (fun t k => Jvm.RoadKit.acmp (g := (mkF m 25 #[.val .null, .val (.ref r_20), .val (.int (2 : Int32)), .val (.int (1 : Int32)), .val (.ref y1)] [.null, (.ref u1)])) X25 hx rfl rfl rfl (pc0 := 25) (pc' := 31) (same := false) rfl (hb hby d2_25) rfl (decide_eq_false nofun) (by decide) (by decide) k) ?_
  show Go p.tables e below Pf (T25.setTop (mkF m 31 #[.val .null, .val (.ref r_20), .val (.int (2 : Int32)), .val (.int (1 : Int32)), .val (.ref y1)] []))
  refine Go.by' (fun t k => (XS.iinc X25.here hx rfl (hb hby d2_31) rfl (l' := #[.val .null, .val (.ref r_20), .val (.int (2 : Int32)), .val (.int ((1 : Int32) + (1 : Int32))), .val (.ref y1)]) rfl k)) ?_
  show Go p.tables e below Pf (T25.setTop (mkF m 34 #[.val .null, .val (.ref r_20), .val (.int (2 : Int32)), .val (.int ((1 : Int32) + (1 : Int32))), .val (.ref y1)] []))
  refine Go.castF (fun z' => mkF m 34 #[.val .null, .val (.ref r_20), .val (.int (2 : Int32)), .val (.int z'), .val (.ref y1)] []) (by decide : ((1 : Int32) + (1 : Int32)) = (2 : Int32)) ?_
  show Go p.tables e below Pf (T25.setTop (mkF m 34 #[.val .null, .val (.ref r_20), .val (.int (2 : Int32)), .val (.int (2 : Int32)), .val (.ref y1)] []))
  refine Go.by' (fun t k => (XS.goto X25.here hx rfl (pc0 := 34) (pc' := 9) rfl (hb hby d2_34) (by decide) (by decide) (XS.iloadN X25.here hx rfl (hb hby d2_9) rfl (XS.iloadN X25.here hx rfl (hb hby d2_10) rfl (XS.icmpYes X25.here hx rfl (pc0 := 11) (pc' := 37) rfl (hb hby d2_11) rfl (flt (by decide)).2.1 (by decide) (by decide) (XS.aconstNull X25.here hx rfl (hb hby d2_37) k)))))) ?_
  show Go p.tables e below Pf (T25.setTop (mkF m 38 #[.val .null, .val (.ref r_20), .val (.int (2 : Int32)), .val (.int (2 : Int32)), .val (.ref y1)] [.null]))
  rw [hPf]
  exact Go.retA' X25 hx hret hlk rfl rfl (hb hby d2_38) (by decide) (by decide) ⟨rfl, N20, (by rw [e25]; exact KC20)⟩
theorem d1_0 : decode method_2_code 0 = .ok (.iload_n 0, 1) := by decide +kernel
theorem d1_1 : decode method_2_code 1 = .ok (.ifCond .ne 7, 3) := by decide +kernel
theorem d1_4 : decode method_2_code 4 = .ok (.getstatic 7, 3) := by decide +kernel
theorem d1_7 : decode method_2_code 7 = .ok (.areturn, 1) := by decide +kernel
theorem pn_1 : plainName "com/example/meterline/meterline/protocol/SoapVersionOfEnvelopePinLaw" = true := by first | (simp [plainName, overriddenIn]; done) | decide +kernel
set_option maxHeartbeats 4000000 in
theorem ef_rmP0 (m : MethodId)  : entryFrame m #[(.int (0 : Int32))] 1 = mkF m 0 #[.val (.int (0 : Int32))] [] := by first | (simp [entryFrame, mkF, argsToLocals, Value.category]; done) | rfl
def QrmP0 (Z : State) (u0 : Addr) (u1 : Addr) (u2 : Addr) (u3 : Addr) (u4 : Addr) (u5 : Addr) (u6 : Addr) (u7 : Addr) (u8 : Addr) (u9 : Addr) (u10 : Addr) (y0 : Addr) (y1 : Addr) (wV : Addr) (kV : ClassId)  (h0 : Heap) (n0 : Nat) (v : Option Value) (h : Heap) (L : List Loc) : Prop := (v = some (.ref u0)) ∧ (L = []) ∧ (h = h0)
set_option maxRecDepth 65536 in
set_option maxHeartbeats 40000000 in
theorem rmP0 (l : Launch) (Z : State) (a0 : Array Value) (hw : ∀ d ∈ tables_1, d.before a0 Z = true) (ws : List Jvm.Cond) (u0 : Addr) (u1 : Addr) (u2 : Addr) (u3 : Addr) (u4 : Addr) (u5 : Addr) (u6 : Addr) (u7 : Addr) (u8 : Addr) (u9 : Addr) (u10 : Addr) (y0 : Addr) (y1 : Addr) (wV : Addr) (kV : ClassId) (G : Gh Z u0 u1 u2 u3 u4 u5 u6 u7 u8 u9 u10 y0 y1 wV kV)  (h0 : Heap) (n0 : Nat) (O0 : Old Z n0 h0) :
    MetFree l (⟨"com/example/meterline/meterline/protocol/SoapVersionOfEnvelopePinLaw", "pick", "(I)Lcom/example/meterline/meterline/protocol/WireNamespace;"⟩ : MethodName) (head1 (Jvm.Cond.code (⟨"com/example/meterline/meterline/protocol/SoapVersionOfEnvelopePinLaw", "pick", "(I)Lcom/example/meterline/meterline/protocol/WireNamespace;"⟩ : MethodName) method_2_code 1 (some (.object "com/example/meterline/meterline/protocol/WireNamespace")) :: ws) ({ frames := 0, cells := 0, slots := 0, locals := 0 } : Room)) (fun aa' UU' => aa' = #[(.int (0 : Int32))] ∧ Z.Warmed39 UU'.vm ∧ UU'.heap = h0) (fun _ _ _ _ _ => True) (fun _ UU' oo' VV' => ∃ v' L', oo' = .returned v' ∧ QrmP0 Z u0 u1 u2 u3 u4 u5 u6 u7 u8 u9 u10 y0 y1 wV kV  h0 n0 v' VV'.heap L' ∧ FrameEnd UU' oo' VV' L' ({ frames := 0, cells := 0, slots := 0, locals := 0 } : Room).cells ({ frames := 0, cells := 0, slots := 0, locals := 0 } : Room).slots) := by
  refine MetFree.of_bodySF (plainFor_of_name pn_1) hisR ?_
  intro p e s m args below meth c s₁ Bd hml0 hP hK
  obtain ⟨rfl, hZ, hh⟩ := hP
  have hx := Bd.exec
  have hby := Bd.bytes
  have hlk := Bd.notSynchronized
  have hml : c.maxLocals = 1 := hml0
  have hown : s.vm.findClass "com/example/meterline/meterline/protocol/SoapVersionOfEnvelopePinLaw" = some m.cls := findClass_of_methodNamed Bd.named
  have hnm := (name_of_methodNamed Bd.named Bd.method).1
  have hret := Bd.returns
  have X0 : Stand p l e ({ frames := 0, cells := 0, slots := 0, locals := 0 } : Room) s m #[(.int (0 : Int32))] below meth c s₁ [] 0 0 := Stand.of_body Bd
  have e0 : s₁.heap = h0 := by rw [← hh, Bd.state]; rfl
  have N0 := Fr.nil n0
  refine Go.body ?_
  obtain ⟨Pf, hPf⟩ : ∃ P, P = Fin' s below ({ frames := 0, cells := 0, slots := 0, locals := 0 } : Room).cells ({ frames := 0, cells := 0, slots := 0, locals := 0 } : Room).slots (QrmP0 Z u0 u1 u2 u3 u4 u5 u6 u7 u8 u9 u10 y0 y1 wV kV  h0 n0) := ⟨_, rfl⟩
  rw [← hPf]
  refine Go.cast (ef_rmP0 m) ?_
  have hw5 := (hw _ (List.mem_of_getElem? (i := 5) rfl))
  show Go p.tables e below Pf (s₁.setTop (mkF m 0 #[.val (.int (0 : Int32))] []))
  refine Go.by' (fun t k => (XS.iloadN X0.here hx rfl (hb hby d1_0) rfl (XS.ifNo X0.here hx rfl (hb hby d1_1) rfl ((if0 _ _).trans (teq (by decide)).2) k))) ?_
  show Go p.tables e below Pf (s₁.setTop (mkF m 4 #[.val (.int (0 : Int32))] []))
  obtain ⟨T26, X26, e26, st26⟩ := getS2 X0 hx hZ hown (host := "") (Or.inl hw5) Via.refl e0 (G.1.ext O0.2) (g := (mkF m 4 #[.val (.int (0 : Int32))] [])) rfl (hb hby d1_4)
  refine Go.by' st26 ?_
  show Go p.tables e below Pf (T26.setTop (mkF m 7 #[.val (.int (0 : Int32))] [(.ref u0)]))
  rw [hPf]
  exact Go.retA' X26 hx hret hlk rfl rfl (hb hby d1_7) (by decide) (by decide) ⟨rfl, rfl, e26⟩
theorem d1_8 : decode method_2_code 8 = .ok (.iload_n 0, 1) := by decide +kernel
theorem d1_9 : decode method_2_code 9 = .ok (.iconst 1, 1) := by decide +kernel
theorem d1_10 : decode method_2_code 10 = .ok (.if_icmp .ne 7, 3) := by decide +kernel
theorem d1_13 : decode method_2_code 13 = .ok (.getstatic 13, 3) := by decide +kernel
theorem d1_16 : decode method_2_code 16 = .ok (.areturn, 1) := by decide +kernel
set_option maxHeartbeats 4000000 in
theorem ef_rmP1 (m : MethodId)  : entryFrame m #[(.int (1 : Int32))] 1 = mkF m 0 #[.val (.int (1 : Int32))] [] := by first | (simp [entryFrame, mkF, argsToLocals, Value.category]; done) | rfl
def QrmP1 (Z : State) (u0 : Addr) (u1 : Addr) (u2 : Addr) (u3 : Addr) (u4 : Addr) (u5 : Addr) (u6 : Addr) (u7 : Addr) (u8 : Addr) (u9 : Addr) (u10 : Addr) (y0 : Addr) (y1 : Addr) (wV : Addr) (kV : ClassId)  (h0 : Heap) (n0 : Nat) (v : Option Value) (h : Heap) (L : List Loc) : Prop := (v = some (.ref u1)) ∧ (L = []) ∧ (h = h0)
set_option maxRecDepth 65536 in
set_option maxHeartbeats 40000000 in
theorem rmP1 (l : Launch) (Z : State) (a0 : Array Value) (hw : ∀ d ∈ tables_1, d.before a0 Z = true) (ws : List Jvm.Cond) (u0 : Addr) (u1 : Addr) (u2 : Addr) (u3 : Addr) (u4 : Addr) (u5 : Addr) (u6 : Addr) (u7 : Addr) (u8 : Addr) (u9 : Addr) (u10 : Addr) (y0 : Addr) (y1 : Addr) (wV : Addr) (kV : ClassId) (G : Gh Z u0 u1 u2 u3 u4 u5 u6 u7 u8 u9 u10 y0 y1 wV kV)  (h0 : Heap) (n0 : Nat) (O0 : Old Z n0 h0) :
    MetFree l (⟨"com/example/meterline/meterline/protocol/SoapVersionOfEnvelopePinLaw", "pick", "(I)Lcom/example/meterline/meterline/protocol/WireNamespace;"⟩ : MethodName) (head1 (Jvm.Cond.code (⟨"com/example/meterline/meterline/protocol/SoapVersionOfEnvelopePinLaw", "pick", "(I)Lcom/example/meterline/meterline/protocol/WireNamespace;"⟩ : MethodName) method_2_code 1 (some (.object "com/example/meterline/meterline/protocol/WireNamespace")) :: ws) ({ frames := 0, cells := 0, slots := 0, locals := 0 } : Room)) (fun aa' UU' => aa' = #[(.int (1 : Int32))] ∧ Z.Warmed39 UU'.vm ∧ UU'.heap = h0) (fun _ _ _ _ _ => True) (fun _ UU' oo' VV' => ∃ v' L', oo' = .returned v' ∧ QrmP1 Z u0 u1 u2 u3 u4 u5 u6 u7 u8 u9 u10 y0 y1 wV kV  h0 n0 v' VV'.heap L' ∧ FrameEnd UU' oo' VV' L' ({ frames := 0, cells := 0, slots := 0, locals := 0 } : Room).cells ({ frames := 0, cells := 0, slots := 0, locals := 0 } : Room).slots) := by
  refine MetFree.of_bodySF (plainFor_of_name pn_1) hisR ?_
  intro p e s m args below meth c s₁ Bd hml0 hP hK
  obtain ⟨rfl, hZ, hh⟩ := hP
  have hx := Bd.exec
  have hby := Bd.bytes
  have hlk := Bd.notSynchronized
  have hml : c.maxLocals = 1 := hml0
  have hown : s.vm.findClass "com/example/meterline/meterline/protocol/SoapVersionOfEnvelopePinLaw" = some m.cls := findClass_of_methodNamed Bd.named
  have hnm := (name_of_methodNamed Bd.named Bd.method).1
  have hret := Bd.returns
  have X0 : Stand p l e ({ frames := 0, cells := 0, slots := 0, locals := 0 } : Room) s m #[(.int (1 : Int32))] below meth c s₁ [] 0 0 := Stand.of_body Bd
  have e0 : s₁.heap = h0 := by rw [← hh, Bd.state]; rfl
  have N0 := Fr.nil n0
  refine Go.body ?_
  obtain ⟨Pf, hPf⟩ : ∃ P, P = Fin' s below ({ frames := 0, cells := 0, slots := 0, locals := 0 } : Room).cells ({ frames := 0, cells := 0, slots := 0, locals := 0 } : Room).slots (QrmP1 Z u0 u1 u2 u3 u4 u5 u6 u7 u8 u9 u10 y0 y1 wV kV  h0 n0) := ⟨_, rfl⟩
  rw [← hPf]
  refine Go.cast (ef_rmP1 m) ?_
  have hw43 := (hw _ (List.mem_of_getElem? (i := 43) rfl))
  show Go p.tables e below Pf (s₁.setTop (mkF m 0 #[.val (.int (1 : Int32))] []))
  refine Go.by' (fun t k => (XS.iloadN X0.here hx rfl (hb hby d1_0) rfl (XS.ifYes X0.here hx rfl (pc0 := 1) (pc' := 8) rfl (hb hby d1_1) rfl ((if0 _ _).trans (feq (by decide)).2) (by decide) (by decide) (XS.iloadN X0.here hx rfl (hb hby d1_8) rfl (XS.iconst X0.here hx rfl (hb hby d1_9) (XS.icmpNo X0.here hx rfl (hb hby d1_10) rfl (teq (by decide)).2 k)))))) ?_
  show Go p.tables e below Pf (s₁.setTop (mkF m 13 #[.val (.int (1 : Int32))] []))
  obtain ⟨T27, X27, e27, st27⟩ := getS2 X0 hx hZ hown (host := "") (Or.inl hw43) Via.refl e0 (G.2.2.1.ext O0.2) (g := (mkF m 13 #[.val (.int (1 : Int32))] [])) rfl (hb hby d1_13)
  refine Go.by' st27 ?_
  show Go p.tables e below Pf (T27.setTop (mkF m 16 #[.val (.int (1 : Int32))] [(.ref u1)]))
  rw [hPf]
  exact Go.retA' X27 hx hret hlk rfl rfl (hb hby d1_16) (by decide) (by decide) ⟨rfl, rfl, e27⟩
theorem d1_17 : decode method_2_code 17 = .ok (.iload_n 0, 1) := by decide +kernel
theorem d1_18 : decode method_2_code 18 = .ok (.iconst 2, 1) := by decide +kernel
theorem d1_19 : decode method_2_code 19 = .ok (.if_icmp .ne 7, 3) := by decide +kernel
theorem d1_22 : decode method_2_code 22 = .ok (.getstatic 16, 3) := by decide +kernel
theorem d1_25 : decode method_2_code 25 = .ok (.areturn, 1) := by decide +kernel
set_option maxHeartbeats 4000000 in
theorem ef_rmP2 (m : MethodId)  : entryFrame m #[(.int (2 : Int32))] 1 = mkF m 0 #[.val (.int (2 : Int32))] [] := by first | (simp [entryFrame, mkF, argsToLocals, Value.category]; done) | rfl
def QrmP2 (Z : State) (u0 : Addr) (u1 : Addr) (u2 : Addr) (u3 : Addr) (u4 : Addr) (u5 : Addr) (u6 : Addr) (u7 : Addr) (u8 : Addr) (u9 : Addr) (u10 : Addr) (y0 : Addr) (y1 : Addr) (wV : Addr) (kV : ClassId)  (h0 : Heap) (n0 : Nat) (v : Option Value) (h : Heap) (L : List Loc) : Prop := (v = some (.ref u2)) ∧ (L = []) ∧ (h = h0)
set_option maxRecDepth 65536 in
set_option maxHeartbeats 40000000 in
theorem rmP2 (l : Launch) (Z : State) (a0 : Array Value) (hw : ∀ d ∈ tables_1, d.before a0 Z = true) (ws : List Jvm.Cond) (u0 : Addr) (u1 : Addr) (u2 : Addr) (u3 : Addr) (u4 : Addr) (u5 : Addr) (u6 : Addr) (u7 : Addr) (u8 : Addr) (u9 : Addr) (u10 : Addr) (y0 : Addr) (y1 : Addr) (wV : Addr) (kV : ClassId) (G : Gh Z u0 u1 u2 u3 u4 u5 u6 u7 u8 u9 u10 y0 y1 wV kV)  (h0 : Heap) (n0 : Nat) (O0 : Old Z n0 h0) :
    MetFree l (⟨"com/example/meterline/meterline/protocol/SoapVersionOfEnvelopePinLaw", "pick", "(I)Lcom/example/meterline/meterline/protocol/WireNamespace;"⟩ : MethodName) (head1 (Jvm.Cond.code (⟨"com/example/meterline/meterline/protocol/SoapVersionOfEnvelopePinLaw", "pick", "(I)Lcom/example/meterline/meterline/protocol/WireNamespace;"⟩ : MethodName) method_2_code 1 (some (.object "com/example/meterline/meterline/protocol/WireNamespace")) :: ws) ({ frames := 0, cells := 0, slots := 0, locals := 0 } : Room)) (fun aa' UU' => aa' = #[(.int (2 : Int32))] ∧ Z.Warmed39 UU'.vm ∧ UU'.heap = h0) (fun _ _ _ _ _ => True) (fun _ UU' oo' VV' => ∃ v' L', oo' = .returned v' ∧ QrmP2 Z u0 u1 u2 u3 u4 u5 u6 u7 u8 u9 u10 y0 y1 wV kV  h0 n0 v' VV'.heap L' ∧ FrameEnd UU' oo' VV' L' ({ frames := 0, cells := 0, slots := 0, locals := 0 } : Room).cells ({ frames := 0, cells := 0, slots := 0, locals := 0 } : Room).slots) := by
  refine MetFree.of_bodySF (plainFor_of_name pn_1) hisR ?_
  intro p e s m args below meth c s₁ Bd hml0 hP hK
  obtain ⟨rfl, hZ, hh⟩ := hP
  have hx := Bd.exec
  have hby := Bd.bytes
  have hlk := Bd.notSynchronized
  have hml : c.maxLocals = 1 := hml0
  have hown : s.vm.findClass "com/example/meterline/meterline/protocol/SoapVersionOfEnvelopePinLaw" = some m.cls := findClass_of_methodNamed Bd.named
  have hnm := (name_of_methodNamed Bd.named Bd.method).1
  have hret := Bd.returns
  have X0 : Stand p l e ({ frames := 0, cells := 0, slots := 0, locals := 0 } : Room) s m #[(.int (2 : Int32))] below meth c s₁ [] 0 0 := Stand.of_body Bd
  have e0 : s₁.heap = h0 := by rw [← hh, Bd.state]; rfl
  have N0 := Fr.nil n0
  refine Go.body ?_
  obtain ⟨Pf, hPf⟩ : ∃ P, P = Fin' s below ({ frames := 0, cells := 0, slots := 0, locals := 0 } : Room).cells ({ frames := 0, cells := 0, slots := 0, locals := 0 } : Room).slots (QrmP2 Z u0 u1 u2 u3 u4 u5 u6 u7 u8 u9 u10 y0 y1 wV kV  h0 n0) := ⟨_, rfl⟩
  rw [← hPf]
  refine Go.cast (ef_rmP2 m) ?_
  have hw35 := (hw _ (List.mem_of_getElem? (i := 35) rfl))
  show Go p.tables e below Pf (s₁.setTop (mkF m 0 #[.val (.int (2 : Int32))] []))
  refine Go.by' (fun t k => (XS.iloadN X0.here hx rfl (hb hby d1_0) rfl (XS.ifYes X0.here hx rfl (pc0 := 1) (pc' := 8) rfl (hb hby d1_1) rfl ((if0 _ _).trans (feq (by decide)).2) (by decide) (by decide) (XS.iloadN X0.here hx rfl (hb hby d1_8) rfl (XS.iconst X0.here hx rfl (hb hby d1_9) (XS.icmpYes X0.here hx rfl (pc0 := 10) (pc' := 17) rfl (hb hby d1_10) rfl (feq (by decide)).2 (by decide) (by decide) (XS.iloadN X0.here hx rfl (hb hby d1_17) rfl k))))))) ?_
  show Go p.tables e below Pf (s₁.setTop (mkF m 18 #[.val (.int (2 : Int32))] [(.int (2 : Int32))]))
  refine Go.by' (fun t k => (XS.iconst X0.here hx rfl (hb hby d1_18) (XS.icmpNo X0.here hx rfl (hb hby d1_19) rfl (teq (by decide)).2 k))) ?_
  show Go p.tables e below Pf (s₁.setTop (mkF m 22 #[.val (.int (2 : Int32))] []))
  obtain ⟨T28, X28, e28, st28⟩ := getS2 X0 hx hZ hown (host := "") (Or.inl hw35) Via.refl e0 (G.2.2.2.2.1.ext O0.2) (g := (mkF m 22 #[.val (.int (2 : Int32))] [])) rfl (hb hby d1_22)
  refine Go.by' st28 ?_
  show Go p.tables e below Pf (T28.setTop (mkF m 25 #[.val (.int (2 : Int32))] [(.ref u2)]))
  rw [hPf]
  exact Go.retA' X28 hx hret hlk rfl rfl (hb hby d1_25) (by decide) (by decide) ⟨rfl, rfl, e28⟩
theorem d1_26 : decode method_2_code 26 = .ok (.iload_n 0, 1) := by decide +kernel
theorem d1_27 : decode method_2_code 27 = .ok (.iconst 3, 1) := by decide +kernel
theorem d1_28 : decode method_2_code 28 = .ok (.if_icmp .ne 7, 3) := by decide +kernel
theorem d1_31 : decode method_2_code 31 = .ok (.getstatic 19, 3) := by decide +kernel
theorem d1_34 : decode method_2_code 34 = .ok (.areturn, 1) := by decide +kernel
set_option maxHeartbeats 4000000 in
theorem ef_rmP3 (m : MethodId)  : entryFrame m #[(.int (3 : Int32))] 1 = mkF m 0 #[.val (.int (3 : Int32))] [] := by first | (simp [entryFrame, mkF, argsToLocals, Value.category]; done) | rfl
def QrmP3 (Z : State) (u0 : Addr) (u1 : Addr) (u2 : Addr) (u3 : Addr) (u4 : Addr) (u5 : Addr) (u6 : Addr) (u7 : Addr) (u8 : Addr) (u9 : Addr) (u10 : Addr) (y0 : Addr) (y1 : Addr) (wV : Addr) (kV : ClassId)  (h0 : Heap) (n0 : Nat) (v : Option Value) (h : Heap) (L : List Loc) : Prop := (v = some (.ref u3)) ∧ (L = []) ∧ (h = h0)
set_option maxRecDepth 65536 in
set_option maxHeartbeats 40000000 in
theorem rmP3 (l : Launch) (Z : State) (a0 : Array Value) (hw : ∀ d ∈ tables_1, d.before a0 Z = true) (ws : List Jvm.Cond) (u0 : Addr) (u1 : Addr) (u2 : Addr) (u3 : Addr) (u4 : Addr) (u5 : Addr) (u6 : Addr) (u7 : Addr) (u8 : Addr) (u9 : Addr) (u10 : Addr) (y0 : Addr) (y1 : Addr) (wV : Addr) (kV : ClassId) (G : Gh Z u0 u1 u2 u3 u4 u5 u6 u7 u8 u9 u10 y0 y1 wV kV)  (h0 : Heap) (n0 : Nat) (O0 : Old Z n0 h0) :
    MetFree l (⟨"com/example/meterline/meterline/protocol/SoapVersionOfEnvelopePinLaw", "pick", "(I)Lcom/example/meterline/meterline/protocol/WireNamespace;"⟩ : MethodName) (head1 (Jvm.Cond.code (⟨"com/example/meterline/meterline/protocol/SoapVersionOfEnvelopePinLaw", "pick", "(I)Lcom/example/meterline/meterline/protocol/WireNamespace;"⟩ : MethodName) method_2_code 1 (some (.object "com/example/meterline/meterline/protocol/WireNamespace")) :: ws) ({ frames := 0, cells := 0, slots := 0, locals := 0 } : Room)) (fun aa' UU' => aa' = #[(.int (3 : Int32))] ∧ Z.Warmed39 UU'.vm ∧ UU'.heap = h0) (fun _ _ _ _ _ => True) (fun _ UU' oo' VV' => ∃ v' L', oo' = .returned v' ∧ QrmP3 Z u0 u1 u2 u3 u4 u5 u6 u7 u8 u9 u10 y0 y1 wV kV  h0 n0 v' VV'.heap L' ∧ FrameEnd UU' oo' VV' L' ({ frames := 0, cells := 0, slots := 0, locals := 0 } : Room).cells ({ frames := 0, cells := 0, slots := 0, locals := 0 } : Room).slots) := by
  refine MetFree.of_bodySF (plainFor_of_name pn_1) hisR ?_
  intro p e s m args below meth c s₁ Bd hml0 hP hK
  obtain ⟨rfl, hZ, hh⟩ := hP
  have hx := Bd.exec
  have hby := Bd.bytes
  have hlk := Bd.notSynchronized
  have hml : c.maxLocals = 1 := hml0
  have hown : s.vm.findClass "com/example/meterline/meterline/protocol/SoapVersionOfEnvelopePinLaw" = some m.cls := findClass_of_methodNamed Bd.named
  have hnm := (name_of_methodNamed Bd.named Bd.method).1
  have hret := Bd.returns
  have X0 : Stand p l e ({ frames := 0, cells := 0, slots := 0, locals := 0 } : Room) s m #[(.int (3 : Int32))] below meth c s₁ [] 0 0 := Stand.of_body Bd
  have e0 : s₁.heap = h0 := by rw [← hh, Bd.state]; rfl
  have N0 := Fr.nil n0
  refine Go.body ?_
  obtain ⟨Pf, hPf⟩ : ∃ P, P = Fin' s below ({ frames := 0, cells := 0, slots := 0, locals := 0 } : Room).cells ({ frames := 0, cells := 0, slots := 0, locals := 0 } : Room).slots (QrmP3 Z u0 u1 u2 u3 u4 u5 u6 u7 u8 u9 u10 y0 y1 wV kV  h0 n0) := ⟨_, rfl⟩
  rw [← hPf]
  refine Go.cast (ef_rmP3 m) ?_
  have hw32 := (hw _ (List.mem_of_getElem? (i := 32) rfl))
  show Go p.tables e below Pf (s₁.setTop (mkF m 0 #[.val (.int (3 : Int32))] []))
  refine Go.by' (fun t k => (XS.iloadN X0.here hx rfl (hb hby d1_0) rfl (XS.ifYes X0.here hx rfl (pc0 := 1) (pc' := 8) rfl (hb hby d1_1) rfl ((if0 _ _).trans (feq (by decide)).2) (by decide) (by decide) (XS.iloadN X0.here hx rfl (hb hby d1_8) rfl (XS.iconst X0.here hx rfl (hb hby d1_9) (XS.icmpYes X0.here hx rfl (pc0 := 10) (pc' := 17) rfl (hb hby d1_10) rfl (feq (by decide)).2 (by decide) (by decide) (XS.iloadN X0.here hx rfl (hb hby d1_17) rfl k))))))) ?_
  show Go p.tables e below Pf (s₁.setTop (mkF m 18 #[.val (.int (3 : Int32))] [(.int (3 : Int32))]))
  refine Go.by' (fun t k => (XS.iconst X0.here hx rfl (hb hby d1_18) (XS.icmpYes X0.here hx rfl (pc0 := 19) (pc' := 26) rfl (hb hby d1_19) rfl (feq (by decide)).2 (by decide) (by decide) (XS.iloadN X0.here hx rfl (hb hby d1_26) rfl (XS.iconst X0.here hx rfl (hb hby d1_27) (XS.icmpNo X0.here hx rfl (hb hby d1_28) rfl (teq (by decide)).2 k)))))) ?_
  show Go p.tables e below Pf (s₁.setTop (mkF m 31 #[.val (.int (3 : Int32))] []))
  obtain ⟨T29, X29, e29, st29⟩ := getS2 X0 hx hZ hown (host := "") (Or.inl hw32) Via.refl e0 (G.2.2.2.2.2.2.1.ext O0.2) (g := (mkF m 31 #[.val (.int (3 : Int32))] [])) rfl (hb hby d1_31)
  refine Go.by' st29 ?_
  show Go p.tables e below Pf (T29.setTop (mkF m 34 #[.val (.int (3 : Int32))] [(.ref u3)]))
  rw [hPf]
  exact Go.retA' X29 hx hret hlk rfl rfl (hb hby d1_34) (by decide) (by decide) ⟨rfl, rfl, e29⟩
theorem d1_35 : decode method_2_code 35 = .ok (.iload_n 0, 1) := by decide +kernel
theorem d1_36 : decode method_2_code 36 = .ok (.iconst 4, 1) := by decide +kernel
theorem d1_37 : decode method_2_code 37 = .ok (.if_icmp .ne 7, 3) := by decide +kernel
theorem d1_40 : decode method_2_code 40 = .ok (.getstatic 22, 3) := by decide +kernel
theorem d1_43 : decode method_2_code 43 = .ok (.areturn, 1) := by decide +kernel
set_option maxHeartbeats 4000000 in
theorem ef_rmP4 (m : MethodId)  : entryFrame m #[(.int (4 : Int32))] 1 = mkF m 0 #[.val (.int (4 : Int32))] [] := by first | (simp [entryFrame, mkF, argsToLocals, Value.category]; done) | rfl
def QrmP4 (Z : State) (u0 : Addr) (u1 : Addr) (u2 : Addr) (u3 : Addr) (u4 : Addr) (u5 : Addr) (u6 : Addr) (u7 : Addr) (u8 : Addr) (u9 : Addr) (u10 : Addr) (y0 : Addr) (y1 : Addr) (wV : Addr) (kV : ClassId)  (h0 : Heap) (n0 : Nat) (v : Option Value) (h : Heap) (L : List Loc) : Prop := (v = some (.ref u4)) ∧ (L = []) ∧ (h = h0)
set_option maxRecDepth 65536 in
set_option maxHeartbeats 40000000 in
theorem rmP4 (l : Launch) (Z : State) (a0 : Array Value) (hw : ∀ d ∈ tables_1, d.before a0 Z = true) (ws : List Jvm.Cond) (u0 : Addr) (u1 : Addr) (u2 : Addr) (u3 : Addr) (u4 : Addr) (u5 : Addr) (u6 : Addr) (u7 : Addr) (u8 : Addr) (u9 : Addr) (u10 : Addr) (y0 : Addr) (y1 : Addr) (wV : Addr) (kV : ClassId) (G : Gh Z u0 u1 u2 u3 u4 u5 u6 u7 u8 u9 u10 y0 y1 wV kV)  (h0 : Heap) (n0 : Nat) (O0 : Old Z n0 h0) :
    MetFree l (⟨"com/example/meterline/meterline/protocol/SoapVersionOfEnvelopePinLaw", "pick", "(I)Lcom/example/meterline/meterline/protocol/WireNamespace;"⟩ : MethodName) (head1 (Jvm.Cond.code (⟨"com/example/meterline/meterline/protocol/SoapVersionOfEnvelopePinLaw", "pick", "(I)Lcom/example/meterline/meterline/protocol/WireNamespace;"⟩ : MethodName) method_2_code 1 (some (.object "com/example/meterline/meterline/protocol/WireNamespace")) :: ws) ({ frames := 0, cells := 0, slots := 0, locals := 0 } : Room)) (fun aa' UU' => aa' = #[(.int (4 : Int32))] ∧ Z.Warmed39 UU'.vm ∧ UU'.heap = h0) (fun _ _ _ _ _ => True) (fun _ UU' oo' VV' => ∃ v' L', oo' = .returned v' ∧ QrmP4 Z u0 u1 u2 u3 u4 u5 u6 u7 u8 u9 u10 y0 y1 wV kV  h0 n0 v' VV'.heap L' ∧ FrameEnd UU' oo' VV' L' ({ frames := 0, cells := 0, slots := 0, locals := 0 } : Room).cells ({ frames := 0, cells := 0, slots := 0, locals := 0 } : Room).slots) := by
  refine MetFree.of_bodySF (plainFor_of_name pn_1) hisR ?_
  intro p e s m args below meth c s₁ Bd hml0 hP hK
  obtain ⟨rfl, hZ, hh⟩ := hP
  have hx := Bd.exec
  have hby := Bd.bytes
  have hlk := Bd.notSynchronized
  have hml : c.maxLocals = 1 := hml0
  have hown : s.vm.findClass "com/example/meterline/meterline/protocol/SoapVersionOfEnvelopePinLaw" = some m.cls := findClass_of_methodNamed Bd.named
  have hnm := (name_of_methodNamed Bd.named Bd.method).1
  have hret := Bd.returns
  have X0 : Stand p l e ({ frames := 0, cells := 0, slots := 0, locals := 0 } : Room) s m #[(.int (4 : Int32))] below meth c s₁ [] 0 0 := Stand.of_body Bd
  have e0 : s₁.heap = h0 := by rw [← hh, Bd.state]; rfl
  have N0 := Fr.nil n0
  refine Go.body ?_
  obtain ⟨Pf, hPf⟩ : ∃ P, P = Fin' s below ({ frames := 0, cells := 0, slots := 0, locals := 0 } : Room).cells ({ frames := 0, cells := 0, slots := 0, locals := 0 } : Room).slots (QrmP4 Z u0 u1 u2 u3 u4 u5 u6 u7 u8 u9 u10 y0 y1 wV kV  h0 n0) := ⟨_, rfl⟩
  rw [← hPf]
  refine Go.cast (ef_rmP4 m) ?_
  have hw39 := (hw _ (List.mem_of_getElem? (i := 39) rfl))
  show Go p.tables e below Pf (s₁.setTop (mkF m 0 #[.val (.int (4 : Int32))] []))
  refine Go.by' (fun t k => (XS.iloadN X0.here hx rfl (hb hby d1_0) rfl (XS.ifYes X0.here hx rfl (pc0 := 1) (pc' := 8) rfl (hb hby d1_1) rfl ((if0 _ _).trans (feq (by decide)).2) (by decide) (by decide) (XS.iloadN X0.here hx rfl (hb hby d1_8) rfl (XS.iconst X0.here hx rfl (hb hby d1_9) (XS.icmpYes X0.here hx rfl (pc0 := 10) (pc' := 17) rfl (hb hby d1_10) rfl (feq (by decide)).2 (by decide) (by decide) (XS.iloadN X0.here hx rfl (hb hby d1_17) rfl k))))))) ?_
  show Go p.tables e below Pf (s₁.setTop (mkF m 18 #[.val (.int (4 : Int32))] [(.int (4 : Int32))]))
  refine Go.by' (fun t k => (XS.iconst X0.here hx rfl (hb hby d1_18) (XS.icmpYes X0.here hx rfl (pc0 := 19) (pc' := 26) rfl (hb hby d1_19) rfl (feq (by decide)).2 (by decide) (by decide) (XS.iloadN X0.here hx rfl (hb hby d1_26) rfl (XS.iconst X0.here hx rfl (hb hby d1_27) (XS.icmpYes X0.here hx rfl (pc0 := 28) (pc' := 35) rfl (hb hby d1_28) rfl (feq (by decide)).2 (by decide) (by decide) (XS.iloadN X0.here hx rfl (hb hby d1_35) rfl k))))))) ?_
  show Go p.tables e below Pf (s₁.setTop (mkF m 36 #[.val (.int (4 : Int32))] [(.int (4 : Int32))]))
  refine Go.by' (fun t k => (XS.iconst X0.here hx rfl (hb hby d1_36) (XS.icmpNo X0.here hx rfl (hb hby d1_37) rfl (teq (by decide)).2 k))) ?_
  show Go p.tables e below Pf (s₁.setTop (mkF m 40 #[.val (.int (4 : Int32))] []))
  obtain ⟨T30, X30, e30, st30⟩ := getS2 X0 hx hZ hown (host := "") (Or.inl hw39) Via.refl e0 (G.2.2.2.2.2.2.2.2.1.ext O0.2) (g := (mkF m 40 #[.val (.int (4 : Int32))] [])) rfl (hb hby d1_40)
  refine Go.by' st30 ?_
  show Go p.tables e below Pf (T30.setTop (mkF m 43 #[.val (.int (4 : Int32))] [(.ref u4)]))
  rw [hPf]
  exact Go.retA' X30 hx hret hlk rfl rfl (hb hby d1_43) (by decide) (by decide) ⟨rfl, rfl, e30⟩
theorem d1_44 : decode method_2_code 44 = .ok (.iload_n 0, 1) := by decide +kernel
theorem d1_45 : decode method_2_code 45 = .ok (.iconst 5, 1) := by decide +kernel
theorem d1_46 : decode method_2_code 46 = .ok (.if_icmp .ne 7, 3) := by decide +kernel
theorem d1_49 : decode method_2_code 49 = .ok (.getstatic 25, 3) := by decide +kernel
theorem d1_52 : decode method_2_code 52 = .ok (.areturn, 1) := by decide +kernel
set_option maxHeartbeats 4000000 in
theorem ef_rmP5 (m : MethodId)  : entryFrame m #[(.int (5 : Int32))] 1 = mkF m 0 #[.val (.int (5 : Int32))] [] := by first | (simp [entryFrame, mkF, argsToLocals, Value.category]; done) | rfl
def QrmP5 (Z : State) (u0 : Addr) (u1 : Addr) (u2 : Addr) (u3 : Addr) (u4 : Addr) (u5 : Addr) (u6 : Addr) (u7 : Addr) (u8 : Addr) (u9 : Addr) (u10 : Addr) (y0 : Addr) (y1 : Addr) (wV : Addr) (kV : ClassId)  (h0 : Heap) (n0 : Nat) (v : Option Value) (h : Heap) (L : List Loc) : Prop := (v = some (.ref u5)) ∧ (L = []) ∧ (h = h0)
set_option maxRecDepth 65536 in
set_option maxHeartbeats 40000000 in
theorem rmP5 (l : Launch) (Z : State) (a0 : Array Value) (hw : ∀ d ∈ tables_1, d.before a0 Z = true) (ws : List Jvm.Cond) (u0 : Addr) (u1 : Addr) (u2 : Addr) (u3 : Addr) (u4 : Addr) (u5 : Addr) (u6 : Addr) (u7 : Addr) (u8 : Addr) (u9 : Addr) (u10 : Addr) (y0 : Addr) (y1 : Addr) (wV : Addr) (kV : ClassId) (G : Gh Z u0 u1 u2 u3 u4 u5 u6 u7 u8 u9 u10 y0 y1 wV kV)  (h0 : Heap) (n0 : Nat) (O0 : Old Z n0 h0) :
    MetFree l (⟨"com/example/meterline/meterline/protocol/SoapVersionOfEnvelopePinLaw", "pick", "(I)Lcom/example/meterline/meterline/protocol/WireNamespace;"⟩ : MethodName) (head1 (Jvm.Cond.code (⟨"com/example/meterline/meterline/protocol/SoapVersionOfEnvelopePinLaw", "pick", "(I)Lcom/example/meterline/meterline/protocol/WireNamespace;"⟩ : MethodName) method_2_code 1 (some (.object "com/example/meterline/meterline/protocol/WireNamespace")) :: ws) ({ frames := 0, cells := 0, slots := 0, locals := 0 } : Room)) (fun aa' UU' => aa' = #[(.int (5 : Int32))] ∧ Z.Warmed39 UU'.vm ∧ UU'.heap = h0) (fun _ _ _ _ _ => True) (fun _ UU' oo' VV' => ∃ v' L', oo' = .returned v' ∧ QrmP5 Z u0 u1 u2 u3 u4 u5 u6 u7 u8 u9 u10 y0 y1 wV kV  h0 n0 v' VV'.heap L' ∧ FrameEnd UU' oo' VV' L' ({ frames := 0, cells := 0, slots := 0, locals := 0 } : Room).cells ({ frames := 0, cells := 0, slots := 0, locals := 0 } : Room).slots) := by
  refine MetFree.of_bodySF (plainFor_of_name pn_1) hisR ?_
  intro p e s m args below meth c s₁ Bd hml0 hP hK
  obtain ⟨rfl, hZ, hh⟩ := hP
  have hx := Bd.exec
  have hby := Bd.bytes
  have hlk := Bd.notSynchronized
  have hml : c.maxLocals = 1 := hml0
  have hown : s.vm.findClass "com/example/meterline/meterline/protocol/SoapVersionOfEnvelopePinLaw" = some m.cls := findClass_of_methodNamed Bd.named
  have hnm := (name_of_methodNamed Bd.named Bd.method).1
  have hret := Bd.returns
  have X0 : Stand p l e ({ frames := 0, cells := 0, slots := 0, locals := 0 } : Room) s m #[(.int (5 : Int32))] below meth c s₁ [] 0 0 := Stand.of_body Bd
  have e0 : s₁.heap = h0 := by rw [← hh, Bd.state]; rfl
  have N0 := Fr.nil n0
  refine Go.body ?_
  obtain ⟨Pf, hPf⟩ : ∃ P, P = Fin' s below ({ frames := 0, cells := 0, slots := 0, locals := 0 } : Room).cells ({ frames := 0, cells := 0, slots := 0, locals := 0 } : Room).slots (QrmP5 Z u0 u1 u2 u3 u4 u5 u6 u7 u8 u9 u10 y0 y1 wV kV  h0 n0) := ⟨_, rfl⟩
  rw [← hPf]
  refine Go.cast (ef_rmP5 m) ?_
  have hw51 := (hw _ (List.mem_of_getElem? (i := 51) rfl))
  show Go p.tables e below Pf (s₁.setTop (mkF m 0 #[.val (.int (5 : Int32))] []))
  refine Go.by' (fun t k => (XS.iloadN X0.here hx rfl (hb hby d1_0) rfl (XS.ifYes X0.here hx rfl (pc0 := 1) (pc' := 8) rfl (hb hby d1_1) rfl ((if0 _ _).trans (feq (by decide)).2) (by decide) (by decide) (XS.iloadN X0.here hx rfl (hb hby d1_8) rfl (XS.iconst X0.here hx rfl (hb hby d1_9) (XS.icmpYes X0.here hx rfl (pc0 := 10) (pc' := 17) rfl (hb hby d1_10) rfl (feq (by decide)).2 (by decide) (by decide) (XS.iloadN X0.here hx rfl (hb hby d1_17) rfl k))))))) ?_
  show Go p.tables e below Pf (s₁.setTop (mkF m 18 #[.val (.int (5 : Int32))] [(.int (5 : Int32))]))
  refine Go.by' (fun t k => (XS.iconst X0.here hx rfl (hb hby d1_18) (XS.icmpYes X0.here hx rfl (pc0 := 19) (pc' := 26) rfl (hb hby d1_19) rfl (feq (by decide)).2 (by decide) (by decide) (XS.iloadN X0.here hx rfl (hb hby d1_26) rfl (XS.iconst X0.here hx rfl (hb hby d1_27) (XS.icmpYes X0.here hx rfl (pc0 := 28) (pc' := 35) rfl (hb hby d1_28) rfl (feq (by decide)).2 (by decide) (by decide) (XS.iloadN X0.here hx rfl (hb hby d1_35) rfl k))))))) ?_
  show Go p.tables e below Pf (s₁.setTop (mkF m 36 #[.val (.int (5 : Int32))] [(.int (5 : Int32))]))
  refine Go.by' (fun t k => (XS.iconst X0.here hx rfl (hb hby d1_36) (XS.icmpYes X0.here hx rfl (pc0 := 37) (pc' := 44) rfl (hb hby d1_37) rfl (feq (by decide)).2 (by decide) (by decide) (XS.iloadN X0.here hx rfl (hb hby d1_44) rfl (XS.iconst X0.here hx rfl (hb hby d1_45) (XS.icmpNo X0.here hx rfl (hb hby d1_46) rfl (teq (by decide)).2 k)))))) ?_
  show Go p.tables e below Pf (s₁.setTop (mkF m 49 #[.val (.int (5 : Int32))] []))
  obtain ⟨T31, X31, e31, st31⟩ := getS2 X0 hx hZ hown (host := "") (Or.inl hw51) Via.refl e0 (G.2.2.2.2.2.2.2.2.2.2.1.ext O0.2) (g := (mkF m 49 #[.val (.int (5 : Int32))] [])) rfl (hb hby d1_49)
  refine Go.by' st31 ?_
  show Go p.tables e below Pf (T31.setTop (mkF m 52 #[.val (.int (5 : Int32))] [(.ref u5)]))
  rw [hPf]
  exact Go.retA' X31 hx hret hlk rfl rfl (hb hby d1_52) (by decide) (by decide) ⟨rfl, rfl, e31⟩
theorem d1_53 : decode method_2_code 53 = .ok (.iload_n 0, 1) := by decide +kernel
theorem d1_54 : decode method_2_code 54 = .ok (.bipush 6, 2) := by decide +kernel
theorem d1_56 : decode method_2_code 56 = .ok (.if_icmp .ne 7, 3) := by decide +kernel
theorem d1_59 : decode method_2_code 59 = .ok (.getstatic 28, 3) := by decide +kernel
theorem d1_62 : decode method_2_code 62 = .ok (.areturn, 1) := by decide +kernel
set_option maxHeartbeats 4000000 in
theorem ef_rmP6 (m : MethodId)  : entryFrame m #[(.int (6 : Int32))] 1 = mkF m 0 #[.val (.int (6 : Int32))] [] := by first | (simp [entryFrame, mkF, argsToLocals, Value.category]; done) | rfl
def QrmP6 (Z : State) (u0 : Addr) (u1 : Addr) (u2 : Addr) (u3 : Addr) (u4 : Addr) (u5 : Addr) (u6 : Addr) (u7 : Addr) (u8 : Addr) (u9 : Addr) (u10 : Addr) (y0 : Addr) (y1 : Addr) (wV : Addr) (kV : ClassId)  (h0 : Heap) (n0 : Nat) (v : Option Value) (h : Heap) (L : List Loc) : Prop := (v = some (.ref u6)) ∧ (L = []) ∧ (h = h0)
set_option maxRecDepth 65536 in
set_option maxHeartbeats 40000000 in
theorem rmP6 (l : Launch) (Z : State) (a0 : Array Value) (hw : ∀ d ∈ tables_1, d.before a0 Z = true) (ws : List Jvm.Cond) (u0 : Addr) (u1 : Addr) (u2 : Addr) (u3 : Addr) (u4 : Addr) (u5 : Addr) (u6 : Addr) (u7 : Addr) (u8 : Addr) (u9 : Addr) (u10 : Addr) (y0 : Addr) (y1 : Addr) (wV : Addr) (kV : ClassId) (G : Gh Z u0 u1 u2 u3 u4 u5 u6 u7 u8 u9 u10 y0 y1 wV kV)  (h0 : Heap) (n0 : Nat) (O0 : Old Z n0 h0) :
    MetFree l (⟨"com/example/meterline/meterline/protocol/SoapVersionOfEnvelopePinLaw", "pick", "(I)Lcom/example/meterline/meterline/protocol/WireNamespace;"⟩ : MethodName) (head1 (Jvm.Cond.code (⟨"com/example/meterline/meterline/protocol/SoapVersionOfEnvelopePinLaw", "pick", "(I)Lcom/example/meterline/meterline/protocol/WireNamespace;"⟩ : MethodName) method_2_code 1 (some (.object "com/example/meterline/meterline/protocol/WireNamespace")) :: ws) ({ frames := 0, cells := 0, slots := 0, locals := 0 } : Room)) (fun aa' UU' => aa' = #[(.int (6 : Int32))] ∧ Z.Warmed39 UU'.vm ∧ UU'.heap = h0) (fun _ _ _ _ _ => True) (fun _ UU' oo' VV' => ∃ v' L', oo' = .returned v' ∧ QrmP6 Z u0 u1 u2 u3 u4 u5 u6 u7 u8 u9 u10 y0 y1 wV kV  h0 n0 v' VV'.heap L' ∧ FrameEnd UU' oo' VV' L' ({ frames := 0, cells := 0, slots := 0, locals := 0 } : Room).cells ({ frames := 0, cells := 0, slots := 0, locals := 0 } : Room).slots) := by
  refine MetFree.of_bodySF (plainFor_of_name pn_1) hisR ?_
  intro p e s m args below meth c s₁ Bd hml0 hP hK
  obtain ⟨rfl, hZ, hh⟩ := hP
  have hx := Bd.exec
  have hby := Bd.bytes
  have hlk := Bd.notSynchronized
  have hml : c.maxLocals = 1 := hml0
  have hown : s.vm.findClass "com/example/meterline/meterline/protocol/SoapVersionOfEnvelopePinLaw" = some m.cls := findClass_of_methodNamed Bd.named
  have hnm := (name_of_methodNamed Bd.named Bd.method).1
  have hret := Bd.returns
  have X0 : Stand p l e ({ frames := 0, cells := 0, slots := 0, locals := 0 } : Room) s m #[(.int (6 : Int32))] below meth c s₁ [] 0 0 := Stand.of_body Bd
  have e0 : s₁.heap = h0 := by rw [← hh, Bd.state]; rfl
  have N0 := Fr.nil n0
  refine Go.body ?_
  obtain ⟨Pf, hPf⟩ : ∃ P, P = Fin' s below ({ frames := 0, cells := 0, slots := 0, locals := 0 } : Room).cells ({ frames := 0, cells := 0, slots := 0, locals := 0 } : Room).slots (QrmP6 Z u0 u1 u2 u3 u4 u5 u6 u7 u8 u9 u10 y0 y1 wV kV  h0 n0) := ⟨_, rfl⟩
  rw [← hPf]
  refine Go.cast (ef_rmP6 m) ?_
  have hw49 := (hw _ (List.mem_of_getElem? (i := 49) rfl))
  show Go p.tables e below Pf (s₁.setTop (mkF m 0 #[.val (.int (6 : Int32))] []))
  refine Go.by' (fun t k => (XS.iloadN X0.here hx rfl (hb hby d1_0) rfl (XS.ifYes X0.here hx rfl (pc0 := 1) (pc' := 8) rfl (hb hby d1_1) rfl ((if0 _ _).trans (feq (by decide)).2) (by decide) (by decide) (XS.iloadN X0.here hx rfl (hb hby d1_8) rfl (XS.iconst X0.here hx rfl (hb hby d1_9) (XS.icmpYes X0.here hx rfl (pc0 := 10) (pc' := 17) rfl (hb hby d1_10) rfl (feq (by decide)).2 (by decide) (by decide) (XS.iloadN X0.here hx rfl (hb hby d1_17) rfl k))))))) ?_
  show Go p.tables e below Pf (s₁.setTop (mkF m 18 #[.val (.int (6 : Int32))] [(.int (6 : Int32))]))
  refine Go.by' (fun t k => (XS.iconst X0.here hx rfl (hb hby d1_18) (XS.icmpYes X0.here hx rfl (pc0 := 19) (pc' := 26) rfl (hb hby d1_19) rfl (feq (by decide)).2 (by decide) (by decide) (XS.iloadN X0.here hx rfl (hb hby d1_26) rfl (XS.iconst X0.here hx rfl (hb hby d1_27) (XS.icmpYes X0.here hx rfl (pc0 := 28) (pc' := 35) rfl (hb hby d1_28) rfl (feq (by decide)).2 (by decide) (by decide) (XS.iloadN X0.here hx rfl (hb hby d1_35) rfl k))))))) ?_
  show Go p.tables e below Pf (s₁.setTop (mkF m 36 #[.val (.int (6 : Int32))] [(.int (6 : Int32))]))
  refine Go.by' (fun t k => (XS.iconst X0.here hx rfl (hb hby d1_36) (XS.icmpYes X0.here hx rfl (pc0 := 37) (pc' := 44) rfl (hb hby d1_37) rfl (feq (by decide)).2 (by decide) (by decide) (XS.iloadN X0.here hx rfl (hb hby d1_44) rfl (XS.iconst X0.here hx rfl (hb hby d1_45) (XS.icmpYes X0.here hx rfl (pc0 := 46) (pc' := 53) rfl (hb hby d1_46) rfl (feq (by decide)).2 (by decide) (by decide) (XS.iloadN X0.here hx rfl (hb hby d1_53) rfl k))))))) ?_
  show Go p.tables e below Pf (s₁.setTop (mkF m 54 #[.val (.int (6 : Int32))] [(.int (6 : Int32))]))
  refine Go.by' (fun t k => (XS.bipush X0.here hx rfl (hb hby d1_54) (XS.icmpNo X0.here hx rfl (hb hby d1_56) rfl (teq (by decide)).2 k))) ?_
  show Go p.tables e below Pf (s₁.setTop (mkF m 59 #[.val (.int (6 : Int32))] []))
  obtain ⟨T32, X32, e32, st32⟩ := getS2 X0 hx hZ hown (host := "") (Or.inl hw49) Via.refl e0 (G.2.2.2.2.2.2.2.2.2.2.2.2.1.ext O0.2) (g := (mkF m 59 #[.val (.int (6 : Int32))] [])) rfl (hb hby d1_59)
  refine Go.by' st32 ?_
  show Go p.tables e below Pf (T32.setTop (mkF m 62 #[.val (.int (6 : Int32))] [(.ref u6)]))
  rw [hPf]
  exact Go.retA' X32 hx hret hlk rfl rfl (hb hby d1_62) (by decide) (by decide) ⟨rfl, rfl, e32⟩
theorem d1_63 : decode method_2_code 63 = .ok (.iload_n 0, 1) := by decide +kernel
theorem d1_64 : decode method_2_code 64 = .ok (.bipush 7, 2) := by decide +kernel
theorem d1_66 : decode method_2_code 66 = .ok (.if_icmp .ne 7, 3) := by decide +kernel
theorem d1_69 : decode method_2_code 69 = .ok (.getstatic 31, 3) := by decide +kernel
theorem d1_72 : decode method_2_code 72 = .ok (.areturn, 1) := by decide +kernel
set_option maxHeartbeats 4000000 in
theorem ef_rmP7 (m : MethodId)  : entryFrame m #[(.int (7 : Int32))] 1 = mkF m 0 #[.val (.int (7 : Int32))] [] := by first | (simp [entryFrame, mkF, argsToLocals, Value.category]; done) | rfl
def QrmP7 (Z : State) (u0 : Addr) (u1 : Addr) (u2 : Addr) (u3 : Addr) (u4 : Addr) (u5 : Addr) (u6 : Addr) (u7 : Addr) (u8 : Addr) (u9 : Addr) (u10 : Addr) (y0 : Addr) (y1 : Addr) (wV : Addr) (kV : ClassId)  (h0 : Heap) (n0 : Nat) (v : Option Value) (h : Heap) (L : List Loc) : Prop := (v = some (.ref u7)) ∧ (L = []) ∧ (h = h0)
set_option maxRecDepth 65536 in
set_option maxHeartbeats 40000000 in
theorem rmP7 (l : Launch) (Z : State) (a0 : Array Value) (hw : ∀ d ∈ tables_1, d.before a0 Z = true) (ws : List Jvm.Cond) (u0 : Addr) (u1 : Addr) (u2 : Addr) (u3 : Addr) (u4 : Addr) (u5 : Addr) (u6 : Addr) (u7 : Addr) (u8 : Addr) (u9 : Addr) (u10 : Addr) (y0 : Addr) (y1 : Addr) (wV : Addr) (kV : ClassId) (G : Gh Z u0 u1 u2 u3 u4 u5 u6 u7 u8 u9 u10 y0 y1 wV kV)  (h0 : Heap) (n0 : Nat) (O0 : Old Z n0 h0) :
    MetFree l (⟨"com/example/meterline/meterline/protocol/SoapVersionOfEnvelopePinLaw", "pick", "(I)Lcom/example/meterline/meterline/protocol/WireNamespace;"⟩ : MethodName) (head1 (Jvm.Cond.code (⟨"com/example/meterline/meterline/protocol/SoapVersionOfEnvelopePinLaw", "pick", "(I)Lcom/example/meterline/meterline/protocol/WireNamespace;"⟩ : MethodName) method_2_code 1 (some (.object "com/example/meterline/meterline/protocol/WireNamespace")) :: ws) ({ frames := 0, cells := 0, slots := 0, locals := 0 } : Room)) (fun aa' UU' => aa' = #[(.int (7 : Int32))] ∧ Z.Warmed39 UU'.vm ∧ UU'.heap = h0) (fun _ _ _ _ _ => True) (fun _ UU' oo' VV' => ∃ v' L', oo' = .returned v' ∧ QrmP7 Z u0 u1 u2 u3 u4 u5 u6 u7 u8 u9 u10 y0 y1 wV kV  h0 n0 v' VV'.heap L' ∧ FrameEnd UU' oo' VV' L' ({ frames := 0, cells := 0, slots := 0, locals := 0 } : Room).cells ({ frames := 0, cells := 0, slots := 0, locals := 0 } : Room).slots) := by
  refine MetFree.of_bodySF (plainFor_of_name pn_1) hisR ?_
  intro p e s m args below meth c s₁ Bd hml0 hP hK
  obtain ⟨rfl, hZ, hh⟩ := hP
  have hx := Bd.exec
  have hby := Bd.bytes
  have hlk := Bd.notSynchronized
  have hml : c.maxLocals = 1 := hml0
  have hown : s.vm.findClass "com/example/meterline/meterline/protocol/SoapVersionOfEnvelopePinLaw" = some m.cls := findClass_of_methodNamed Bd.named
  have hnm := (name_of_methodNamed Bd.named Bd.method).1
  have hret := Bd.returns
  have X0 : Stand p l e ({ frames := 0, cells := 0, slots := 0, locals := 0 } : Room) s m #[(.int (7 : Int32))] below meth c s₁ [] 0 0 := Stand.of_body Bd
  have e0 : s₁.heap = h0 := by rw [← hh, Bd.state]; rfl
  have N0 := Fr.nil n0
  refine Go.body ?_
  obtain ⟨Pf, hPf⟩ : ∃ P, P = Fin' s below ({ frames := 0, cells := 0, slots := 0, locals := 0 } : Room).cells ({ frames := 0, cells := 0, slots := 0, locals := 0 } : Room).slots (QrmP7 Z u0 u1 u2 u3 u4 u5 u6 u7 u8 u9 u10 y0 y1 wV kV  h0 n0) := ⟨_, rfl⟩
  rw [← hPf]
  refine Go.cast (ef_rmP7 m) ?_
  have hw37 := (hw _ (List.mem_of_getElem? (i := 37) rfl))
  show Go p.tables e below Pf (s₁.setTop (mkF m 0 #[.val (.int (7 : Int32))] []))
  refine Go.by' (fun t k => (XS.iloadN X0.here hx rfl (hb hby d1_0) rfl (XS.ifYes X0.here hx rfl (pc0 := 1) (pc' := 8) rfl (hb hby d1_1) rfl ((if0 _ _).trans (feq (by decide)).2) (by decide) (by decide) (XS.iloadN X0.here hx rfl (hb hby d1_8) rfl (XS.iconst X0.here hx rfl (hb hby d1_9) (XS.icmpYes X0.here hx rfl (pc0 := 10) (pc' := 17) rfl (hb hby d1_10) rfl (feq (by decide)).2 (by decide) (by decide) (XS.iloadN X0.here hx rfl (hb hby d1_17) rfl k))))))) ?_
  show Go p.tables e below Pf (s₁.setTop (mkF m 18 #[.val (.int (7 : Int32))] [(.int (7 : Int32))]))
  refine Go.by' (fun t k => (XS.iconst X0.here hx rfl (hb hby d1_18) (XS.icmpYes X0.here hx rfl (pc0 := 19) (pc' := 26) rfl (hb hby d1_19) rfl (feq (by decide)).2 (by decide) (by decide) (XS.iloadN X0.here hx rfl (hb hby d1_26) rfl (XS.iconst X0.here hx rfl (hb hby d1_27) (XS.icmpYes X0.here hx rfl (pc0 := 28) (pc' := 35) rfl (hb hby d1_28) rfl (feq (by decide)).2 (by decide) (by decide) (XS.iloadN X0.here hx rfl (hb hby d1_35) rfl k))))))) ?_
  show Go p.tables e below Pf (s₁.setTop (mkF m 36 #[.val (.int (7 : Int32))] [(.int (7 : Int32))]))
  refine Go.by' (fun t k => (XS.iconst X0.here hx rfl (hb hby d1_36) (XS.icmpYes X0.here hx rfl (pc0 := 37) (pc' := 44) rfl (hb hby d1_37) rfl (feq (by decide)).2 (by decide) (by decide) (XS.iloadN X0.here hx rfl (hb hby d1_44) rfl (XS.iconst X0.here hx rfl (hb hby d1_45) (XS.icmpYes X0.here hx rfl (pc0 := 46) (pc' := 53) rfl (hb hby d1_46) rfl (feq (by decide)).2 (by decide) (by decide) (XS.iloadN X0.here hx rfl (hb hby d1_53) rfl k))))))) ?_
  show Go p.tables e below Pf (s₁.setTop (mkF m 54 #[.val (.int (7 : Int32))] [(.int (7 : Int32))]))
  refine Go.by' (fun t k => (XS.bipush X0.here hx rfl (hb hby d1_54) (XS.icmpYes X0.here hx rfl (pc0 := 56) (pc' := 63) rfl (hb hby d1_56) rfl (feq (by decide)).2 (by decide) (by decide) (XS.iloadN X0.here hx rfl (hb hby d1_63) rfl (XS.bipush X0.here hx rfl (hb hby d1_64) (XS.icmpNo X0.here hx rfl (hb hby d1_66) rfl (teq (by decide)).2 k)))))) ?_
  show Go p.tables e below Pf (s₁.setTop (mkF m 69 #[.val (.int (7 : Int32))] []))
  obtain ⟨T33, X33, e33, st33⟩ := getS2 X0 hx hZ hown (host := "") (Or.inl hw37) Via.refl e0 (G.2.2.2.2.2.2.2.2.2.2.2.2.2.2.1.ext O0.2) (g := (mkF m 69 #[.val (.int (7 : Int32))] [])) rfl (hb hby d1_69)
  refine Go.by' st33 ?_
  show Go p.tables e below Pf (T33.setTop (mkF m 72 #[.val (.int (7 : Int32))] [(.ref u7)]))
  rw [hPf]
  exact Go.retA' X33 hx hret hlk rfl rfl (hb hby d1_72) (by decide) (by decide) ⟨rfl, rfl, e33⟩
theorem d1_73 : decode method_2_code 73 = .ok (.iload_n 0, 1) := by decide +kernel
theorem d1_74 : decode method_2_code 74 = .ok (.bipush 8, 2) := by decide +kernel
theorem d1_76 : decode method_2_code 76 = .ok (.if_icmp .ne 7, 3) := by decide +kernel
theorem d1_79 : decode method_2_code 79 = .ok (.getstatic 34, 3) := by decide +kernel
theorem d1_82 : decode method_2_code 82 = .ok (.areturn, 1) := by decide +kernel
set_option maxHeartbeats 4000000 in
theorem ef_rmP8 (m : MethodId)  : entryFrame m #[(.int (8 : Int32))] 1 = mkF m 0 #[.val (.int (8 : Int32))] [] := by first | (simp [entryFrame, mkF, argsToLocals, Value.category]; done) | rfl
def QrmP8 (Z : State) (u0 : Addr) (u1 : Addr) (u2 : Addr) (u3 : Addr) (u4 : Addr) (u5 : Addr) (u6 : Addr) (u7 : Addr) (u8 : Addr) (u9 : Addr) (u10 : Addr) (y0 : Addr) (y1 : Addr) (wV : Addr) (kV : ClassId)  (h0 : Heap) (n0 : Nat) (v : Option Value) (h : Heap) (L : List Loc) : Prop := (v = some (.ref u8)) ∧ (L = []) ∧ (h = h0)
set_option maxRecDepth 65536 in
set_option maxHeartbeats 40000000 in
theorem rmP8 (l : Launch) (Z : State) (a0 : Array Value) (hw : ∀ d ∈ tables_1, d.before a0 Z = true) (ws : List Jvm.Cond) (u0 : Addr) (u1 : Addr) (u2 : Addr) (u3 : Addr) (u4 : Addr) (u5 : Addr) (u6 : Addr) (u7 : Addr) (u8 : Addr) (u9 : Addr) (u10 : Addr) (y0 : Addr) (y1 : Addr) (wV : Addr) (kV : ClassId) (G : Gh Z u0 u1 u2 u3 u4 u5 u6 u7 u8 u9 u10 y0 y1 wV kV)  (h0 : Heap) (n0 : Nat) (O0 : Old Z n0 h0) :
    MetFree l (⟨"com/example/meterline/meterline/protocol/SoapVersionOfEnvelopePinLaw", "pick", "(I)Lcom/example/meterline/meterline/protocol/WireNamespace;"⟩ : MethodName) (head1 (Jvm.Cond.code (⟨"com/example/meterline/meterline/protocol/SoapVersionOfEnvelopePinLaw", "pick", "(I)Lcom/example/meterline/meterline/protocol/WireNamespace;"⟩ : MethodName) method_2_code 1 (some (.object "com/example/meterline/meterline/protocol/WireNamespace")) :: ws) ({ frames := 0, cells := 0, slots := 0, locals := 0 } : Room)) (fun aa' UU' => aa' = #[(.int (8 : Int32))] ∧ Z.Warmed39 UU'.vm ∧ UU'.heap = h0) (fun _ _ _ _ _ => True) (fun _ UU' oo' VV' => ∃ v' L', oo' = .returned v' ∧ QrmP8 Z u0 u1 u2 u3 u4 u5 u6 u7 u8 u9 u10 y0 y1 wV kV  h0 n0 v' VV'.heap L' ∧ FrameEnd UU' oo' VV' L' ({ frames := 0, cells := 0, slots := 0, locals := 0 } : Room).cells ({ frames := 0, cells := 0, slots := 0, locals := 0 } : Room).slots) := by
  refine MetFree.of_bodySF (plainFor_of_name pn_1) hisR ?_
  intro p e s m args below meth c s₁ Bd hml0 hP hK
  obtain ⟨rfl, hZ, hh⟩ := hP
  have hx := Bd.exec
  have hby := Bd.bytes
  have hlk := Bd.notSynchronized
  have hml : c.maxLocals = 1 := hml0
  have hown : s.vm.findClass "com/example/meterline/meterline/protocol/SoapVersionOfEnvelopePinLaw" = some m.cls := findClass_of_methodNamed Bd.named
  have hnm := (name_of_methodNamed Bd.named Bd.method).1
  have hret := Bd.returns
  have X0 : Stand p l e ({ frames := 0, cells := 0, slots := 0, locals := 0 } : Room) s m #[(.int (8 : Int32))] below meth c s₁ [] 0 0 := Stand.of_body Bd
  have e0 : s₁.heap = h0 := by rw [← hh, Bd.state]; rfl
  have N0 := Fr.nil n0
  refine Go.body ?_
  obtain ⟨Pf, hPf⟩ : ∃ P, P = Fin' s below ({ frames := 0, cells := 0, slots := 0, locals := 0 } : Room).cells ({ frames := 0, cells := 0, slots := 0, locals := 0 } : Room).slots (QrmP8 Z u0 u1 u2 u3 u4 u5 u6 u7 u8 u9 u10 y0 y1 wV kV  h0 n0) := ⟨_, rfl⟩
  rw [← hPf]
  refine Go.cast (ef_rmP8 m) ?_
  have hw41 := (hw _ (List.mem_of_getElem? (i := 41) rfl))
  show Go p.tables e below Pf (s₁.setTop (mkF m 0 #[.val (.int (8 : Int32))] []))
  refine Go.by' (fun t k => (XS.iloadN X0.here hx rfl (hb hby d1_0) rfl (XS.ifYes X0.here hx rfl (pc0 := 1) (pc' := 8) rfl (hb hby d1_1) rfl ((if0 _ _).trans (feq (by decide)).2) (by decide) (by decide) (XS.iloadN X0.here hx rfl (hb hby d1_8) rfl (XS.iconst X0.here hx rfl (hb hby d1_9) (XS.icmpYes X0.here hx rfl (pc0 := 10) (pc' := 17) rfl (hb hby d1_10) rfl (feq (by decide)).2 (by decide) (by decide) (XS.iloadN X0.here hx rfl (hb hby d1_17) rfl k))))))) ?_
  show Go p.tables e below Pf (s₁.setTop (mkF m 18 #[.val (.int (8 : Int32))] [(.int (8 : Int32))]))
  refine Go.by' (fun t k => (XS.iconst X0.here hx rfl (hb hby d1_18) (XS.icmpYes X0.here hx rfl (pc0 := 19) (pc' := 26) rfl (hb hby d1_19) rfl (feq (by decide)).2 (by decide) (by decide) (XS.iloadN X0.here hx rfl (hb hby d1_26) rfl (XS.iconst X0.here hx rfl (hb hby d1_27) (XS.icmpYes X0.here hx rfl (pc0 := 28) (pc' := 35) rfl (hb hby d1_28) rfl (feq (by decide)).2 (by decide) (by decide) (XS.iloadN X0.here hx rfl (hb hby d1_35) rfl k))))))) ?_
  show Go p.tables e below Pf (s₁.setTop (mkF m 36 #[.val (.int (8 : Int32))] [(.int (8 : Int32))]))
  refine Go.by' (fun t k => (XS.iconst X0.here hx rfl (hb hby d1_36) (XS.icmpYes X0.here hx rfl (pc0 := 37) (pc' := 44) rfl (hb hby d1_37) rfl (feq (by decide)).2 (by decide) (by decide) (XS.iloadN X0.here hx rfl (hb hby d1_44) rfl (XS.iconst X0.here hx rfl (hb hby d1_45) (XS.icmpYes X0.here hx rfl (pc0 := 46) (pc' := 53) rfl (hb hby d1_46) rfl (feq (by decide)).2 (by decide) (by decide) (XS.iloadN X0.here hx rfl (hb hby d1_53) rfl k))))))) ?_
  show Go p.tables e below Pf (s₁.setTop (mkF m 54 #[.val (.int (8 : Int32))] [(.int (8 : Int32))]))
  refine Go.by' (fun t k => (XS.bipush X0.here hx rfl (hb hby d1_54) (XS.icmpYes X0.here hx rfl (pc0 := 56) (pc' := 63) rfl (hb hby d1_56) rfl (feq (by decide)).2 (by decide) (by decide) (XS.iloadN X0.here hx rfl (hb hby d1_63) rfl (XS.bipush X0.here hx rfl (hb hby d1_64) (XS.icmpYes X0.here hx rfl (pc0 := 66) (pc' := 73) rfl (hb hby d1_66) rfl (feq (by decide)).2 (by decide) (by decide) (XS.iloadN X0.here hx rfl (hb hby d1_73) rfl k))))))) ?_
  show Go p.tables e below Pf (s₁.setTop (mkF m 74 #[.val (.int (8 : Int32))] [(.int (8 : Int32))]))
  refine Go.by' (fun t k => (XS.bipush X0.here hx rfl (hb hby d1_74) (XS.icmpNo X0.here hx rfl (hb hby d1_76) rfl (teq (by decide)).2 k))) ?_
  show Go p.tables e below Pf (s₁.setTop (mkF m 79 #[.val (.int (8 : Int32))] []))
  obtain ⟨T34, X34, e34, st34⟩ := getS2 X0 hx hZ hown (host := "") (Or.inl hw41) Via.refl e0 (G.2.2.2.2.2.2.2.2.2.2.2.2.2.2.2.2.1.ext O0.2) (g := (mkF m 79 #[.val (.int (8 : Int32))] [])) rfl (hb hby d1_79)
  refine Go.by' st34 ?_
  show Go p.tables e below Pf (T34.setTop (mkF m 82 #[.val (.int (8 : Int32))] [(.ref u8)]))
  rw [hPf]
  exact Go.retA' X34 hx hret hlk rfl rfl (hb hby d1_82) (by decide) (by decide) ⟨rfl, rfl, e34⟩
theorem d1_83 : decode method_2_code 83 = .ok (.iload_n 0, 1) := by decide +kernel
theorem d1_84 : decode method_2_code 84 = .ok (.bipush 9, 2) := by decide +kernel
theorem d1_86 : decode method_2_code 86 = .ok (.if_icmp .ne 7, 3) := by decide +kernel
theorem d1_89 : decode method_2_code 89 = .ok (.getstatic 37, 3) := by decide +kernel
theorem d1_92 : decode method_2_code 92 = .ok (.areturn, 1) := by decide +kernel
set_option maxHeartbeats 4000000 in
theorem ef_rmP9 (m : MethodId)  : entryFrame m #[(.int (9 : Int32))] 1 = mkF m 0 #[.val (.int (9 : Int32))] [] := by first | (simp [entryFrame, mkF, argsToLocals, Value.category]; done) | rfl
def QrmP9 (Z : State) (u0 : Addr) (u1 : Addr) (u2 : Addr) (u3 : Addr) (u4 : Addr) (u5 : Addr) (u6 : Addr) (u7 : Addr) (u8 : Addr) (u9 : Addr) (u10 : Addr) (y0 : Addr) (y1 : Addr) (wV : Addr) (kV : ClassId)  (h0 : Heap) (n0 : Nat) (v : Option Value) (h : Heap) (L : List Loc) : Prop := (v = some (.ref u9)) ∧ (L = []) ∧ (h = h0)
set_option maxRecDepth 65536 in
set_option maxHeartbeats 40000000 in
theorem rmP9 (l : Launch) (Z : State) (a0 : Array Value) (hw : ∀ d ∈ tables_1, d.before a0 Z = true) (ws : List Jvm.Cond) (u0 : Addr) (u1 : Addr) (u2 : Addr) (u3 : Addr) (u4 : Addr) (u5 : Addr) (u6 : Addr) (u7 : Addr) (u8 : Addr) (u9 : Addr) (u10 : Addr) (y0 : Addr) (y1 : Addr) (wV : Addr) (kV : ClassId) (G : Gh Z u0 u1 u2 u3 u4 u5 u6 u7 u8 u9 u10 y0 y1 wV kV)  (h0 : Heap) (n0 : Nat) (O0 : Old Z n0 h0) :
    MetFree l (⟨"com/example/meterline/meterline/protocol/SoapVersionOfEnvelopePinLaw", "pick", "(I)Lcom/example/meterline/meterline/protocol/WireNamespace;"⟩ : MethodName) (head1 (Jvm.Cond.code (⟨"com/example/meterline/meterline/protocol/SoapVersionOfEnvelopePinLaw", "pick", "(I)Lcom/example/meterline/meterline/protocol/WireNamespace;"⟩ : MethodName) method_2_code 1 (some (.object "com/example/meterline/meterline/protocol/WireNamespace")) :: ws) ({ frames := 0, cells := 0, slots := 0, locals := 0 } : Room)) (fun aa' UU' => aa' = #[(.int (9 : Int32))] ∧ Z.Warmed39 UU'.vm ∧ UU'.heap = h0) (fun _ _ _ _ _ => True) (fun _ UU' oo' VV' => ∃ v' L', oo' = .returned v' ∧ QrmP9 Z u0 u1 u2 u3 u4 u5 u6 u7 u8 u9 u10 y0 y1 wV kV  h0 n0 v' VV'.heap L' ∧ FrameEnd UU' oo' VV' L' ({ frames := 0, cells := 0, slots := 0, locals := 0 } : Room).cells ({ frames := 0, cells := 0, slots := 0, locals := 0 } : Room).slots) := by
  refine MetFree.of_bodySF (plainFor_of_name pn_1) hisR ?_
  intro p e s m args below meth c s₁ Bd hml0 hP hK
  obtain ⟨rfl, hZ, hh⟩ := hP
  have hx := Bd.exec
  have hby := Bd.bytes
  have hlk := Bd.notSynchronized
  have hml : c.maxLocals = 1 := hml0
  have hown : s.vm.findClass "com/example/meterline/meterline/protocol/SoapVersionOfEnvelopePinLaw" = some m.cls := findClass_of_methodNamed Bd.named
  have hnm := (name_of_methodNamed Bd.named Bd.method).1
  have hret := Bd.returns
  have X0 : Stand p l e ({ frames := 0, cells := 0, slots := 0, locals := 0 } : Room) s m #[(.int (9 : Int32))] below meth c s₁ [] 0 0 := Stand.of_body Bd
  have e0 : s₁.heap = h0 := by rw [← hh, Bd.state]; rfl
  have N0 := Fr.nil n0
  refine Go.body ?_
  obtain ⟨Pf, hPf⟩ : ∃ P, P = Fin' s below ({ frames := 0, cells := 0, slots := 0, locals := 0 } : Room).cells ({ frames := 0, cells := 0, slots := 0, locals := 0 } : Room).slots (QrmP9 Z u0 u1 u2 u3 u4 u5 u6 u7 u8 u9 u10 y0 y1 wV kV  h0 n0) := ⟨_, rfl⟩
  rw [← hPf]
  refine Go.cast (ef_rmP9 m) ?_
  have hw47 := (hw _ (List.mem_of_getElem? (i := 47) rfl))
  show Go p.tables e below Pf (s₁.setTop (mkF m 0 #[.val (.int (9 : Int32))] []))
  refine Go.by' (fun t k => (XS.iloadN X0.here hx rfl (hb hby d1_0) rfl (XS.ifYes X0.here hx rfl (pc0 := 1) (pc' := 8) rfl (hb hby d1_1) rfl ((if0 _ _).trans (feq (by decide)).2) (by decide) (by decide) (XS.iloadN X0.here hx rfl (hb hby d1_8) rfl (XS.iconst X0.here hx rfl (hb hby d1_9) (XS.icmpYes X0.here hx rfl (pc0 := 10) (pc' := 17) rfl (hb hby d1_10) rfl (feq (by decide)).2 (by decide) (by decide) (XS.iloadN X0.here hx rfl (hb hby d1_17) rfl k))))))) ?_
  show Go p.tables e below Pf (s₁.setTop (mkF m 18 #[.val (.int (9 : Int32))] [(.int (9 : Int32))]))
  refine Go.by' (fun t k => (XS.iconst X0.here hx rfl (hb hby d1_18) (XS.icmpYes X0.here hx rfl (pc0 := 19) (pc' := 26) rfl (hb hby d1_19) rfl (feq (by decide)).2 (by decide) (by decide) (XS.iloadN X0.here hx rfl (hb hby d1_26) rfl (XS.iconst X0.here hx rfl (hb hby d1_27) (XS.icmpYes X0.here hx rfl (pc0 := 28) (pc' := 35) rfl (hb hby d1_28) rfl (feq (by decide)).2 (by decide) (by decide) (XS.iloadN X0.here hx rfl (hb hby d1_35) rfl k))))))) ?_
  show Go p.tables e below Pf (s₁.setTop (mkF m 36 #[.val (.int (9 : Int32))] [(.int (9 : Int32))]))
  refine Go.by' (fun t k => (XS.iconst X0.here hx rfl (hb hby d1_36) (XS.icmpYes X0.here hx rfl (pc0 := 37) (pc' := 44) rfl (hb hby d1_37) rfl (feq (by decide)).2 (by decide) (by decide) (XS.iloadN X0.here hx rfl (hb hby d1_44) rfl (XS.iconst X0.here hx rfl (hb hby d1_45) (XS.icmpYes X0.here hx rfl (pc0 := 46) (pc' := 53) rfl (hb hby d1_46) rfl (feq (by decide)).2 (by decide) (by decide) (XS.iloadN X0.here hx rfl (hb hby d1_53) rfl k))))))) ?_
  show Go p.tables e below Pf (s₁.setTop (mkF m 54 #[.val (.int (9 : Int32))] [(.int (9 : Int32))]))
  refine Go.by' (fun t k => (XS.bipush X0.here hx rfl (hb hby d1_54) (XS.icmpYes X0.here hx rfl (pc0 := 56) (pc' := 63) rfl (hb hby d1_56) rfl (feq (by decide)).2 (by decide) (by decide) (XS.iloadN X0.here hx rfl (hb hby d1_63) rfl (XS.bipush X0.here hx rfl (hb hby d1_64) (XS.icmpYes X0.here hx rfl (pc0 := 66) (pc' := 73) rfl (hb hby d1_66) rfl (feq (by decide)).2 (by decide) (by decide) (XS.iloadN X0.here hx rfl (hb hby d1_73) rfl k))))))) ?_
  show Go p.tables e below Pf (s₁.setTop (mkF m 74 #[.val (.int (9 : Int32))] [(.int (9 : Int32))]))
  refine Go.by' (fun t k => (XS.bipush X0.here hx rfl (hb hby d1_74) (XS.icmpYes X0.here hx rfl (pc0 := 76) (pc' := 83) rfl (hb hby d1_76) rfl (feq (by decide)).2 (by decide) (by decide) (XS.iloadN X0.here hx rfl (hb hby d1_83) rfl (XS.bipush X0.here hx rfl (hb hby d1_84) (XS.icmpNo X0.here hx rfl (hb hby d1_86) rfl (teq (by decide)).2 k)))))) ?_
  show Go p.tables e below Pf (s₁.setTop (mkF m 89 #[.val (.int (9 : Int32))] []))
  obtain ⟨T35, X35, e35, st35⟩ := getS2 X0 hx hZ hown (host := "") (Or.inl hw47) Via.refl e0 (G.2.2.2.2.2.2.2.2.2.2.2.2.2.2.2.2.2.2.1.ext O0.2) (g := (mkF m 89 #[.val (.int (9 : Int32))] [])) rfl (hb hby d1_89)
  refine Go.by' st35 ?_
  show Go p.tables e below Pf (T35.setTop (mkF m 92 #[.val (.int (9 : Int32))] [(.ref u9)]))
  rw [hPf]
  exact Go.retA' X35 hx hret hlk rfl rfl (hb hby d1_92) (by decide) (by decide) ⟨rfl, rfl, e35⟩
theorem d1_93 : decode method_2_code 93 = .ok (.iload_n 0, 1) := by decide +kernel
theorem d1_94 : decode method_2_code 94 = .ok (.bipush 10, 2) := by decide +kernel
theorem d1_96 : decode method_2_code 96 = .ok (.if_icmp .ne 7, 3) := by decide +kernel
theorem d1_99 : decode method_2_code 99 = .ok (.getstatic 40, 3) := by decide +kernel
theorem d1_102 : decode method_2_code 102 = .ok (.areturn, 1) := by decide +kernel
set_option maxHeartbeats 4000000 in
theorem ef_rmP10 (m : MethodId)  : entryFrame m #[(.int (10 : Int32))] 1 = mkF m 0 #[.val (.int (10 : Int32))] [] := by first | (simp [entryFrame, mkF, argsToLocals, Value.category]; done) | rfl
def QrmP10 (Z : State) (u0 : Addr) (u1 : Addr) (u2 : Addr) (u3 : Addr) (u4 : Addr) (u5 : Addr) (u6 : Addr) (u7 : Addr) (u8 : Addr) (u9 : Addr) (u10 : Addr) (y0 : Addr) (y1 : Addr) (wV : Addr) (kV : ClassId)  (h0 : Heap) (n0 : Nat) (v : Option Value) (h : Heap) (L : List Loc) : Prop := (v = some (.ref u10)) ∧ (L = []) ∧ (h = h0)
set_option maxRecDepth 65536 in
set_option maxHeartbeats 40000000 in
theorem rmP10 (l : Launch) (Z : State) (a0 : Array Value) (hw : ∀ d ∈ tables_1, d.before a0 Z = true) (ws : List Jvm.Cond) (u0 : Addr) (u1 : Addr) (u2 : Addr) (u3 : Addr) (u4 : Addr) (u5 : Addr) (u6 : Addr) (u7 : Addr) (u8 : Addr) (u9 : Addr) (u10 : Addr) (y0 : Addr) (y1 : Addr) (wV : Addr) (kV : ClassId) (G : Gh Z u0 u1 u2 u3 u4 u5 u6 u7 u8 u9 u10 y0 y1 wV kV)  (h0 : Heap) (n0 : Nat) (O0 : Old Z n0 h0) :
    MetFree l (⟨"com/example/meterline/meterline/protocol/SoapVersionOfEnvelopePinLaw", "pick", "(I)Lcom/example/meterline/meterline/protocol/WireNamespace;"⟩ : MethodName) (head1 (Jvm.Cond.code (⟨"com/example/meterline/meterline/protocol/SoapVersionOfEnvelopePinLaw", "pick", "(I)Lcom/example/meterline/meterline/protocol/WireNamespace;"⟩ : MethodName) method_2_code 1 (some (.object "com/example/meterline/meterline/protocol/WireNamespace")) :: ws) ({ frames := 0, cells := 0, slots := 0, locals := 0 } : Room)) (fun aa' UU' => aa' = #[(.int (10 : Int32))] ∧ Z.Warmed39 UU'.vm ∧ UU'.heap = h0) (fun _ _ _ _ _ => True) (fun _ UU' oo' VV' => ∃ v' L', oo' = .returned v' ∧ QrmP10 Z u0 u1 u2 u3 u4 u5 u6 u7 u8 u9 u10 y0 y1 wV kV  h0 n0 v' VV'.heap L' ∧ FrameEnd UU' oo' VV' L' ({ frames := 0, cells := 0, slots := 0, locals := 0 } : Room).cells ({ frames := 0, cells := 0, slots := 0, locals := 0 } : Room).slots) := by
  refine MetFree.of_bodySF (plainFor_of_name pn_1) hisR ?_
  intro p e s m args below meth c s₁ Bd hml0 hP hK
  obtain ⟨rfl, hZ, hh⟩ := hP
  have hx := Bd.exec
  have hby := Bd.bytes
  have hlk := Bd.notSynchronized
  have hml : c.maxLocals = 1 := hml0
  have hown : s.vm.findClass "com/example/meterline/meterline/protocol/SoapVersionOfEnvelopePinLaw" = some m.cls := findClass_of_methodNamed Bd.named
  have hnm := (name_of_methodNamed Bd.named Bd.method).1
  have hret := Bd.returns
  have X0 : Stand p l e ({ frames := 0, cells := 0, slots := 0, locals := 0 } : Room) s m #[(.int (10 : Int32))] below meth c s₁ [] 0 0 := Stand.of_body Bd
  have e0 : s₁.heap = h0 := by rw [← hh, Bd.state]; rfl
  have N0 := Fr.nil n0
  refine Go.body ?_
  obtain ⟨Pf, hPf⟩ : ∃ P, P = Fin' s below ({ frames := 0, cells := 0, slots := 0, locals := 0 } : Room).cells ({ frames := 0, cells := 0, slots := 0, locals := 0 } : Room).slots (QrmP10 Z u0 u1 u2 u3 u4 u5 u6 u7 u8 u9 u10 y0 y1 wV kV  h0 n0) := ⟨_, rfl⟩
  rw [← hPf]
  refine Go.cast (ef_rmP10 m) ?_
  have hw45 := (hw _ (List.mem_of_getElem? (i := 45) rfl))
  show Go p.tables e below Pf (s₁.setTop (mkF m 0 #[.val (.int (10 : Int32))] []))
  refine Go.by' (fun t k => (XS.iloadN X0.here hx rfl (hb hby d1_0) rfl (XS.ifYes X0.here hx rfl (pc0 := 1) (pc' := 8) rfl (hb hby d1_1) rfl ((if0 _ _).trans (feq (by decide)).2) (by decide) (by decide) (XS.iloadN X0.here hx rfl (hb hby d1_8) rfl (XS.iconst X0.here hx rfl (hb hby d1_9) (XS.icmpYes X0.here hx rfl (pc0 := 10) (pc' := 17) rfl (hb hby d1_10) rfl (feq (by decide)).2 (by decide) (by decide) (XS.iloadN X0.here hx rfl (hb hby d1_17) rfl k))))))) ?_
  show Go p.tables e below Pf (s₁.setTop (mkF m 18 #[.val (.int (10 : Int32))] [(.int (10 : Int32))]))
  refine Go.by' (fun t k => (XS.iconst X0.here hx rfl (hb hby d1_18) (XS.icmpYes X0.here hx rfl (pc0 := 19) (pc' := 26) rfl (hb hby d1_19) rfl (feq (by decide)).2 (by decide) (by decide) (XS.iloadN X0.here hx rfl (hb hby d1_26) rfl (XS.iconst X0.here hx rfl (hb hby d1_27) (XS.icmpYes X0.here hx rfl (pc0 := 28) (pc' := 35) rfl (hb hby d1_28) rfl (feq (by decide)).2 (by decide) (by decide) (XS.iloadN X0.here hx rfl (hb hby d1_35) rfl k))))))) ?_
  show Go p.tables e below Pf (s₁.setTop (mkF m 36 #[.val (.int (10 : Int32))] [(.int (10 : Int32))]))
  refine Go.by' (fun t k => (XS.iconst X0.here hx rfl (hb hby d1_36) (XS.icmpYes X0.here hx rfl (pc0 := 37) (pc' := 44) rfl (hb hby d1_37) rfl (feq (by decide)).2 (by decide) (by decide) (XS.iloadN X0.here hx rfl (hb hby d1_44) rfl (XS.iconst X0.here hx rfl (hb hby d1_45) (XS.icmpYes X0.here hx rfl (pc0 := 46) (pc' := 53) rfl (hb hby d1_46) rfl (feq (by decide)).2 (by decide) (by decide) (XS.iloadN X0.here hx rfl (hb hby d1_53) rfl k))))))) ?_
  show Go p.tables e below Pf (s₁.setTop (mkF m 54 #[.val (.int (10 : Int32))] [(.int (10 : Int32))]))
  refine Go.by' (fun t k => (XS.bipush X0.here hx rfl (hb hby d1_54) (XS.icmpYes X0.here hx rfl (pc0 := 56) (pc' := 63) rfl (hb hby d1_56) rfl (feq (by decide)).2 (by decide) (by decide) (XS.iloadN X0.here hx rfl (hb hby d1_63) rfl (XS.bipush X0.here hx rfl (hb hby d1_64) (XS.icmpYes X0.here hx rfl (pc0 := 66) (pc' := 73) rfl (hb hby d1_66) rfl (feq (by decide)).2 (by decide) (by decide) (XS.iloadN X0.here hx rfl (hb hby d1_73) rfl k))))))) ?_
  show Go p.tables e below Pf (s₁.setTop (mkF m 74 #[.val (.int (10 : Int32))] [(.int (10 : Int32))]))
  refine Go.by' (fun t k => (XS.bipush X0.here hx rfl (hb hby d1_74) (XS.icmpYes X0.here hx rfl (pc0 := 76) (pc' := 83) rfl (hb hby d1_76) rfl (feq (by decide)).2 (by decide) (by decide) (XS.iloadN X0.here hx rfl (hb hby d1_83) rfl (XS.bipush X0.here hx rfl (hb hby d1_84) (XS.icmpYes X0.here hx rfl (pc0 := 86) (pc' := 93) rfl (hb hby d1_86) rfl (feq (by decide)).2 (by decide) (by decide) (XS.iloadN X0.here hx rfl (hb hby d1_93) rfl k))))))) ?_
  show Go p.tables e below Pf (s₁.setTop (mkF m 94 #[.val (.int (10 : Int32))] [(.int (10 : Int32))]))
  refine Go.by' (fun t k => (XS.bipush X0.here hx rfl (hb hby d1_94) (XS.icmpNo X0.here hx rfl (hb hby d1_96) rfl (teq (by decide)).2 k))) ?_
  show Go p.tables e below Pf (s₁.setTop (mkF m 99 #[.val (.int (10 : Int32))] []))
  obtain ⟨T36, X36, e36, st36⟩ := getS2 X0 hx hZ hown (host := "") (Or.inl hw45) Via.refl e0 (G.2.2.2.2.2.2.2.2.2.2.2.2.2.2.2.2.2.2.2.2.1.ext O0.2) (g := (mkF m 99 #[.val (.int (10 : Int32))] [])) rfl (hb hby d1_99)
  refine Go.by' st36 ?_
  show Go p.tables e below Pf (T36.setTop (mkF m 102 #[.val (.int (10 : Int32))] [(.ref u10)]))
  rw [hPf]
  exact Go.retA' X36 hx hret hlk rfl rfl (hb hby d1_102) (by decide) (by decide) ⟨rfl, rfl, e36⟩
theorem d1_103 : decode method_2_code 103 = .ok (.aconst_null, 1) := by decide +kernel
theorem d1_104 : decode method_2_code 104 = .ok (.areturn, 1) := by decide +kernel
set_option maxHeartbeats 4000000 in
theorem ef_rmP11 (m : MethodId)  : entryFrame m #[(.int (11 : Int32))] 1 = mkF m 0 #[.val (.int (11 : Int32))] [] := by first | (simp [entryFrame, mkF, argsToLocals, Value.category]; done) | rfl
def QrmP11 (Z : State) (u0 : Addr) (u1 : Addr) (u2 : Addr) (u3 : Addr) (u4 : Addr) (u5 : Addr) (u6 : Addr) (u7 : Addr) (u8 : Addr) (u9 : Addr) (u10 : Addr) (y0 : Addr) (y1 : Addr) (wV : Addr) (kV : ClassId)  (h0 : Heap) (n0 : Nat) (v : Option Value) (h : Heap) (L : List Loc) : Prop := (v = some .null) ∧ (L = []) ∧ (h = h0)
set_option maxRecDepth 65536 in
set_option maxHeartbeats 40000000 in
theorem rmP11 (l : Launch) (Z : State) (a0 : Array Value) (hw : ∀ d ∈ tables_1, d.before a0 Z = true) (ws : List Jvm.Cond) (u0 : Addr) (u1 : Addr) (u2 : Addr) (u3 : Addr) (u4 : Addr) (u5 : Addr) (u6 : Addr) (u7 : Addr) (u8 : Addr) (u9 : Addr) (u10 : Addr) (y0 : Addr) (y1 : Addr) (wV : Addr) (kV : ClassId) (G : Gh Z u0 u1 u2 u3 u4 u5 u6 u7 u8 u9 u10 y0 y1 wV kV)  (h0 : Heap) (n0 : Nat) (O0 : Old Z n0 h0) :
    MetFree l (⟨"com/example/meterline/meterline/protocol/SoapVersionOfEnvelopePinLaw", "pick", "(I)Lcom/example/meterline/meterline/protocol/WireNamespace;"⟩ : MethodName) (head1 (Jvm.Cond.code (⟨"com/example/meterline/meterline/protocol/SoapVersionOfEnvelopePinLaw", "pick", "(I)Lcom/example/meterline/meterline/protocol/WireNamespace;"⟩ : MethodName) method_2_code 1 (some (.object "com/example/meterline/meterline/protocol/WireNamespace")) :: ws) ({ frames := 0, cells := 0, slots := 0, locals := 0 } : Room)) (fun aa' UU' => aa' = #[(.int (11 : Int32))] ∧ Z.Warmed39 UU'.vm ∧ UU'.heap = h0) (fun _ _ _ _ _ => True) (fun _ UU' oo' VV' => ∃ v' L', oo' = .returned v' ∧ QrmP11 Z u0 u1 u2 u3 u4 u5 u6 u7 u8 u9 u10 y0 y1 wV kV  h0 n0 v' VV'.heap L' ∧ FrameEnd UU' oo' VV' L' ({ frames := 0, cells := 0, slots := 0, locals := 0 } : Room).cells ({ frames := 0, cells := 0, slots := 0, locals := 0 } : Room).slots) := by
  refine MetFree.of_bodySF (plainFor_of_name pn_1) hisR ?_
  intro p e s m args below meth c s₁ Bd hml0 hP hK
  obtain ⟨rfl, hZ, hh⟩ := hP
  have hx := Bd.exec
  have hby := Bd.bytes
  have hlk := Bd.notSynchronized
  have hml : c.maxLocals = 1 := hml0
  have hown : s.vm.findClass "com/example/meterline/meterline/protocol/SoapVersionOfEnvelopePinLaw" = some m.cls := findClass_of_methodNamed Bd.named
  have hnm := (name_of_methodNamed Bd.named Bd.method).1
  have hret := Bd.returns
  have X0 : Stand p l e ({ frames := 0, cells := 0, slots := 0, locals := 0 } : Room) s m #[(.int (11 : Int32))] below meth c s₁ [] 0 0 := Stand.of_body Bd
  have e0 : s₁.heap = h0 := by rw [← hh, Bd.state]; rfl
  have N0 := Fr.nil n0
  refine Go.body ?_
  obtain ⟨Pf, hPf⟩ : ∃ P, P = Fin' s below ({ frames := 0, cells := 0, slots := 0, locals := 0 } : Room).cells ({ frames := 0, cells := 0, slots := 0, locals := 0 } : Room).slots (QrmP11 Z u0 u1 u2 u3 u4 u5 u6 u7 u8 u9 u10 y0 y1 wV kV  h0 n0) := ⟨_, rfl⟩
  rw [← hPf]
  refine Go.cast (ef_rmP11 m) ?_
  show Go p.tables e below Pf (s₁.setTop (mkF m 0 #[.val (.int (11 : Int32))] []))
  refine Go.by' (fun t k => (XS.iloadN X0.here hx rfl (hb hby d1_0) rfl (XS.ifYes X0.here hx rfl (pc0 := 1) (pc' := 8) rfl (hb hby d1_1) rfl ((if0 _ _).trans (feq (by decide)).2) (by decide) (by decide) (XS.iloadN X0.here hx rfl (hb hby d1_8) rfl (XS.iconst X0.here hx rfl (hb hby d1_9) (XS.icmpYes X0.here hx rfl (pc0 := 10) (pc' := 17) rfl (hb hby d1_10) rfl (feq (by decide)).2 (by decide) (by decide) (XS.iloadN X0.here hx rfl (hb hby d1_17) rfl k))))))) ?_
  show Go p.tables e below Pf (s₁.setTop (mkF m 18 #[.val (.int (11 : Int32))] [(.int (11 : Int32))]))
  refine Go.by' (fun t k => (XS.iconst X0.here hx rfl (hb hby d1_18) (XS.icmpYes X0.here hx rfl (pc0 := 19) (pc' := 26) rfl (hb hby d1_19) rfl (feq (by decide)).2 (by decide) (by decide) (XS.iloadN X0.here hx rfl (hb hby d1_26) rfl (XS.iconst X0.here hx rfl (hb hby d1_27) (XS.icmpYes X0.here hx rfl (pc0 := 28) (pc' := 35) rfl (hb hby d1_28) rfl (feq (by decide)).2 (by decide) (by decide) (XS.iloadN X0.here hx rfl (hb hby d1_35) rfl k))))))) ?_
  show Go p.tables e below Pf (s₁.setTop (mkF m 36 #[.val (.int (11 : Int32))] [(.int (11 : Int32))]))
  refine Go.by' (fun t k => (XS.iconst X0.here hx rfl (hb hby d1_36) (XS.icmpYes X0.here hx rfl (pc0 := 37) (pc' := 44) rfl (hb hby d1_37) rfl (feq (by decide)).2 (by decide) (by decide) (XS.iloadN X0.here hx rfl (hb hby d1_44) rfl (XS.iconst X0.here hx rfl (hb hby d1_45) (XS.icmpYes X0.here hx rfl (pc0 := 46) (pc' := 53) rfl (hb hby d1_46) rfl (feq (by decide)).2 (by decide) (by decide) (XS.iloadN X0.here hx rfl (hb hby d1_53) rfl k))))))) ?_
  show Go p.tables e below Pf (s₁.setTop (mkF m 54 #[.val (.int (11 : Int32))] [(.int (11 : Int32))]))
  refine Go.by' (fun t k => (XS.bipush X0.here hx rfl (hb hby d1_54) (XS.icmpYes X0.here hx rfl (pc0 := 56) (pc' := 63) rfl (hb hby d1_56) rfl (feq (by decide)).2 (by decide) (by decide) (XS.iloadN X0.here hx rfl (hb hby d1_63) rfl (XS.bipush X0.here hx rfl (hb hby d1_64) (XS.icmpYes X0.here hx rfl (pc0 := 66) (pc' := 73) rfl (hb hby d1_66) rfl (feq (by decide)).2 (by decide) (by decide) (XS.iloadN X0.here hx rfl (hb hby d1_73) rfl k))))))) ?_
  show Go p.tables e below Pf (s₁.setTop (mkF m 74 #[.val (.int (11 : Int32))] [(.int (11 : Int32))]))
  refine Go.by' (fun t k => (XS.bipush X0.here hx rfl (hb hby d1_74) (XS.icmpYes X0.here hx rfl (pc0 := 76) (pc' := 83) rfl (hb hby d1_76) rfl (feq (by decide)).2 (by decide) (by decide) (XS.iloadN X0.here hx rfl (hb hby d1_83) rfl (XS.bipush X0.here hx rfl (hb hby d1_84) (XS.icmpYes X0.here hx rfl (pc0 := 86) (pc' := 93) rfl (hb hby d1_86) rfl (feq (by decide)).2 (by decide) (by decide) (XS.iloadN X0.here hx rfl (hb hby d1_93) rfl k))))))) ?_
  show Go p.tables e below Pf (s₁.setTop (mkF m 94 #[.val (.int (11 : Int32))] [(.int (11 : Int32))]))
  refine Go.by' (fun t k => (XS.bipush X0.here hx rfl (hb hby d1_94) (XS.icmpYes X0.here hx rfl (pc0 := 96) (pc' := 103) rfl (hb hby d1_96) rfl (feq (by decide)).2 (by decide) (by decide) (XS.aconstNull X0.here hx rfl (hb hby d1_103) k)))) ?_
  show Go p.tables e below Pf (s₁.setTop (mkF m 104 #[.val (.int (11 : Int32))] [.null]))
  rw [hPf]
  exact Go.retA' X0 hx hret hlk rfl rfl (hb hby d1_104) (by decide) (by decide) ⟨rfl, rfl, e0⟩
theorem own_k_n : ∀ n : Nat, n < 12 → (n.toInt32 = (0 : Int32) ∨ n.toInt32 = (1 : Int32) ∨ n.toInt32 = (2 : Int32) ∨ n.toInt32 = (3 : Int32) ∨ n.toInt32 = (4 : Int32) ∨ n.toInt32 = (5 : Int32) ∨ n.toInt32 = (6 : Int32) ∨ n.toInt32 = (7 : Int32) ∨ n.toInt32 = (8 : Int32) ∨ n.toInt32 = (9 : Int32) ∨ n.toInt32 = (10 : Int32) ∨ n.toInt32 = (11 : Int32)) := by decide +kernel
theorem own_k (x : Int32) : ((x &&& (2147483647 : Int32)) % (12 : Int32)) = (0 : Int32) ∨ ((x &&& (2147483647 : Int32)) % (12 : Int32)) = (1 : Int32) ∨ ((x &&& (2147483647 : Int32)) % (12 : Int32)) = (2 : Int32) ∨ ((x &&& (2147483647 : Int32)) % (12 : Int32)) = (3 : Int32) ∨ ((x &&& (2147483647 : Int32)) % (12 : Int32)) = (4 : Int32) ∨ ((x &&& (2147483647 : Int32)) % (12 : Int32)) = (5 : Int32) ∨ ((x &&& (2147483647 : Int32)) % (12 : Int32)) = (6 : Int32) ∨ ((x &&& (2147483647 : Int32)) % (12 : Int32)) = (7 : Int32) ∨ ((x &&& (2147483647 : Int32)) % (12 : Int32)) = (8 : Int32) ∨ ((x &&& (2147483647 : Int32)) % (12 : Int32)) = (9 : Int32) ∨ ((x &&& (2147483647 : Int32)) % (12 : Int32)) = (10 : Int32) ∨ ((x &&& (2147483647 : Int32)) % (12 : Int32)) = (11 : Int32) := by
  have h := c_mask x 2147483647 31 (by decide) (by decide)
  have h2 := (c_irem (x &&& 2147483647) 12 12 rfl).1 (by omega)
  obtain ⟨n, hn⟩ : ∃ n : Nat, (((x &&& (2147483647 : Int32)) % (12 : Int32))).toInt = n := ⟨_, (Int.toNat_of_nonneg (by omega)).symm⟩
  have hx : ((x &&& (2147483647 : Int32)) % (12 : Int32)) = n.toInt32 := by rw [← Int32.toInt_inj, hn, len_toInt (by omega)]
  rw [hx]
  exact own_k_n n (by omega)
theorem pd_1 : parseMethodDescriptor "(I)Lcom/example/meterline/meterline/protocol/WireNamespace;" = some ⟨[.int], some (.object "com/example/meterline/meterline/protocol/WireNamespace")⟩ := by decide +kernel
theorem pd_2 : parseMethodDescriptor "(Lcom/example/meterline/meterline/protocol/WireNamespace;)Lcom/example/meterline/meterline/protocol/SoapVersion;" = some ⟨[(.object "com/example/meterline/meterline/protocol/WireNamespace")], some (.object "com/example/meterline/meterline/protocol/SoapVersion")⟩ := by decide +kernel
theorem pn_0 : plainName "com/example/meterline/meterline/protocol/SoapVersionOfEnvelopePinLaw" = true := by first | (simp [plainName, overriddenIn]; done) | decide +kernel
set_option maxHeartbeats 4000000 in
theorem ef_rm0 (m : MethodId) {ip : Int32} : entryFrame m #[(.int ip)] maxLocals = mkF m 0 #[.val (.int ip), .unset, .unset, .unset, .unset] [] := by first | (simp [entryFrame, mkF, argsToLocals, Value.category, maxLocals]; done) | rfl
def Qrm0 (Z : State) (u0 : Addr) (u1 : Addr) (u2 : Addr) (u3 : Addr) (u4 : Addr) (u5 : Addr) (u6 : Addr) (u7 : Addr) (u8 : Addr) (u9 : Addr) (u10 : Addr) (y0 : Addr) (y1 : Addr) (wV : Addr) (kV : ClassId) (ip : Int32) (h0 : Heap) (n0 : Nat) (v : Option Value) (h : Heap) (L : List Loc) : Prop := (v = some (.int (1 : Int32))) ∧ (Fr n0 L) ∧ (Keep h0 h [])
set_option maxRecDepth 65536 in
set_option maxHeartbeats 40000000 in
theorem rm0 (l : Launch) (Z : State) (a0 : Array Value) (hw : ∀ d ∈ tables_1, d.before a0 Z = true) (ws : List Jvm.Cond) (u0 : Addr) (u1 : Addr) (u2 : Addr) (u3 : Addr) (u4 : Addr) (u5 : Addr) (u6 : Addr) (u7 : Addr) (u8 : Addr) (u9 : Addr) (u10 : Addr) (y0 : Addr) (y1 : Addr) (wV : Addr) (kV : ClassId) (G : Gh Z u0 u1 u2 u3 u4 u5 u6 u7 u8 u9 u10 y0 y1 wV kV) (ip : Int32) (h0 : Heap) (n0 : Nat) (O0 : Old Z n0 h0) :
    MetFree l x (head1 (Jvm.Cond.code x code maxLocals ret :: ws) room_1) (fun aa' UU' => aa' = #[(.int ip)] ∧ Z.Warmed39 UU'.vm ∧ UU'.heap = h0) (fun _ _ _ _ _ => True) (fun _ UU' oo' VV' => ∃ v' L', oo' = .returned v' ∧ Qrm0 Z u0 u1 u2 u3 u4 u5 u6 u7 u8 u9 u10 y0 y1 wV kV ip h0 n0 v' VV'.heap L' ∧ FrameEnd UU' oo' VV' L' 1 2) := by
  refine MetFree.of_bodySF (plainFor_of_name pn_0) hisR ?_
  intro p e s m args below meth c s₁ Bd hml0 hP hK
  obtain ⟨rfl, hZ, hh⟩ := hP
  have hx := Bd.exec
  have hby := Bd.bytes
  have hlk := Bd.notSynchronized
  have hml : c.maxLocals = 5 := hml0
  have hown : s.vm.findClass "com/example/meterline/meterline/protocol/SoapVersionOfEnvelopePinLaw" = some m.cls := findClass_of_methodNamed Bd.named
  have hnm := (name_of_methodNamed Bd.named Bd.method).1
  have hret := Bd.returns
  have X0 : Stand p l e room_1 s m #[(.int ip)] below meth c s₁ [] 0 0 := Stand.of_body Bd
  have e0 : s₁.heap = h0 := by rw [← hh, Bd.state]; rfl
  have N0 := Fr.nil n0
  have KC0 : Keep h0 h0 [] := Keep.refl _ _
  refine Go.body ?_
  obtain ⟨Pf, hPf⟩ : ∃ P, P = Fin' s below 1 2 (Qrm0 Z u0 u1 u2 u3 u4 u5 u6 u7 u8 u9 u10 y0 y1 wV kV ip h0 n0) := ⟨_, rfl⟩
  rw [← hPf]
  refine Go.cast (ef_rm0 m) ?_
  have hw0 := (hw _ (List.mem_of_getElem? (i := 0) rfl))
  have hw1 := (hw _ (List.mem_of_getElem? (i := 1) rfl))
  have hw2 := (hw _ (List.mem_of_getElem? (i := 2) rfl))
  have hw3 := (hw _ (List.mem_of_getElem? (i := 3) rfl))
  have hw4 := (hw _ (List.mem_of_getElem? (i := 4) rfl))
  have hw8 := (hw _ (List.mem_of_getElem? (i := 8) rfl))
  have hw9 := (hw _ (List.mem_of_getElem? (i := 9) rfl))
  have hw11 := (hw _ (List.mem_of_getElem? (i := 11) rfl))
  have hw12 := (hw _ (List.mem_of_getElem? (i := 12) rfl))
  have hw13 := (hw _ (List.mem_of_getElem? (i := 13) rfl))
  have hw44 := (hw _ (List.mem_of_getElem? (i := 44) rfl))
  show Go p.tables e below Pf (s₁.setTop (mkF m 0 #[.val (.int ip), .unset, .unset, .unset, .unset] []))
  refine Go.by' (fun t k => (XS.iloadN X0.here hx rfl (hb hby at_0) rfl (X0.ldcInt hx hown (mvT hZ hw0) (g := (mkF m 1 #[.val (.int ip), .unset, .unset, .unset, .unset] [(.int ip)])) rfl (hb hby at_1) t (XS.iand X0.here hx rfl (hb hby at_3) rfl (XS.bipush X0.here hx rfl (hb hby at_4) k))))) ?_
  show Go p.tables e below Pf (s₁.setTop (mkF m 6 #[.val (.int ip), .unset, .unset, .unset, .unset] [(.int (12 : Int32)), (.int (ip &&& (2147483647 : Int32)))]))
  refine Go.by' (fun t k => iremM (g := (mkF m 6 #[.val (.int ip), .unset, .unset, .unset, .unset] [(.int (12 : Int32)), (.int (ip &&& (2147483647 : Int32)))])) X0 hx rfl (hb hby at_6) rfl (by decide) k) ?_
  show Go p.tables e below Pf (s₁.setTop (mkF m 7 #[.val (.int ip), .unset, .unset, .unset, .unset] [(.int ((ip &&& (2147483647 : Int32)) % (12 : Int32)))]))
  refine Go.by' (fun t k => (XS.istoreN X0.here hx rfl (hb hby at_7) rfl (l' := #[.val (.int ip), .val (.int ((ip &&& (2147483647 : Int32)) % (12 : Int32))), .unset, .unset, .unset]) rfl k)) ?_
  show Go p.tables e below Pf (s₁.setTop (mkF m 8 #[.val (.int ip), .val (.int ((ip &&& (2147483647 : Int32)) % (12 : Int32))), .unset, .unset, .unset] []))
  rcases own_k ip with hk | hk | hk | hk | hk | hk | hk | hk | hk | hk | hk | hk
  · refine Go.castF (fun z' => mkF m 8 #[.val (.int ip), .val (.int z'), .unset, .unset, .unset] []) (hk : ((ip &&& (2147483647 : Int32)) % (12 : Int32)) = (0 : Int32)) ?_
    show Go p.tables e below Pf (s₁.setTop (mkF m 8 #[.val (.int ip), .val (.int (0 : Int32)), .unset, .unset, .unset] []))
    refine Go.by' (fun t k => (XS.iloadN X0.here hx rfl (hb hby at_8) rfl k)) ?_
    show Go p.tables e below Pf (s₁.setTop (mkF m 9 #[.val (.int ip), .val (.int (0 : Int32)), .unset, .unset, .unset] [(.int (0 : Int32))]))
    obtain ⟨_, _, ⟨T37, L37, k37, n37⟩, -, X37, ⟨Lc37, hQ37, l37, y37, z37⟩, st37⟩ := Jvm.LawKit.callS X0 hx (y := (⟨"com/example/meterline/meterline/protocol/SoapVersionOfEnvelopePinLaw", "pick", "(I)Lcom/example/meterline/meterline/protocol/WireNamespace;"⟩ : MethodName)) hown (mvT hZ hw1) (mvT hZ hw2) (mvT hZ hw3) (mvT hZ hw4) (by decide) (backOf (W := 0) (rmP0 l Z a0 hw [] u0 u1 u2 u3 u4 u5 u6 u7 u8 u9 u10 y0 y1 wV kV G  h0 n0 O0 ) hZ hw4 hw3 (by decide) (by decide)) (g := (mkF m 9 #[.val (.int ip), .val (.int (0 : Int32)), .unset, .unset, .unset] [(.int (0 : Int32))])) rfl (by rw [hml]; rfl) (argsL := [(.int (0 : Int32))]) (rest := []) (lenOf pd_1 rfl) rfl (by show 2 * 0 + _ ≤ _; exact Nat.le_of_eq rfl) (hb hby at_9) (fun _ _ => ⟨rfl, e0, (by decide : 0 + 0 ≤ _), (by decide : 0 + 0 ≤ _)⟩)
    dsimp only [Pt.U, Pt.locs, Pt.cells, Pt.slots] at X37 l37 y37 z37 st37 hQ37
    subst l37 y37 z37
    obtain ⟨rfl, rfl, e37⟩ := hQ37
    try rw [List.append_nil] at X37
    refine Go.by' st37 ?_
    show Go p.tables e below Pf (T37.setTop (mkF m 12 #[.val (.int ip), .val (.int (0 : Int32)), .unset, .unset, .unset] [(.ref u0)]))
    refine Go.by' (fun t k => (XS.astoreN X37.here hx rfl (hb hby at_12) rfl rfl (l' := #[.val (.int ip), .val (.int (0 : Int32)), .val (.ref u0), .unset, .unset]) rfl (XS.iloadN X37.here hx rfl (hb hby at_13) rfl (XS.ifNo X37.here hx rfl (hb hby at_14) rfl ((if0 _ _).trans (teq (by decide)).2) k)))) ?_
    show Go p.tables e below Pf (T37.setTop (mkF m 17 #[.val (.int ip), .val (.int (0 : Int32)), .val (.ref u0), .unset, .unset] []))
    obtain ⟨T38, X38, e38, st38⟩ := getS2 X37 hx hZ hown (host := "") (Or.inl hw8) Via.refl e37 (G.2.2.2.2.2.2.2.2.2.2.2.2.2.2.2.2.2.2.2.2.2.2.1.ext O0.2) (g := (mkF m 17 #[.val (.int ip), .val (.int (0 : Int32)), .val (.ref u0), .unset, .unset] [])) rfl (hb hby at_17)
    refine Go.by' st38 ?_
    show Go p.tables e below Pf (T38.setTop (mkF m 20 #[.val (.int ip), .val (.int (0 : Int32)), .val (.ref u0), .unset, .unset] [(.ref y0)]))
    refine Go.by' (fun t k => (XS.astoreN X38.here hx rfl (hb hby at_20) rfl rfl (l' := #[.val (.int ip), .val (.int (0 : Int32)), .val (.ref u0), .val (.ref y0), .unset]) rfl (XS.goto X38.here hx rfl (pc0 := 21) (pc' := 38) rfl (hb hby at_21) (by decide) (by decide) (XS.aloadN X38.here hx rfl (hb hby at_38) rfl rfl k)))) ?_
    show Go p.tables e below Pf (T38.setTop (mkF m 39 #[.val (.int ip), .val (.int (0 : Int32)), .val (.ref u0), .val (.ref y0), .unset] [(.ref u0)]))
    obtain ⟨_, _, ⟨T39, L39, k39, n39⟩, -, X39, ⟨Lc39, hQ39, l39, y39, z39⟩, st39⟩ := Jvm.LawKit.callS X38 hx (y := (⟨"com/example/meterline/meterline/protocol/SoapVersion", "ofEnvelope", "(Lcom/example/meterline/meterline/protocol/WireNamespace;)Lcom/example/meterline/meterline/protocol/SoapVersion;"⟩ : MethodName)) hown (mvT hZ hw11) (mvT hZ hw12) (mvT hZ hw9) (mvT hZ hw13) (by decide) (backOf (W := 0) (rmOE0 l Z a0 hw [] u0 u1 u2 u3 u4 u5 u6 u7 u8 u9 u10 y0 y1 wV kV G  h0 n0 O0 ) hZ hw13 hw9 (by decide) (by decide)) (g := (mkF m 39 #[.val (.int ip), .val (.int (0 : Int32)), .val (.ref u0), .val (.ref y0), .unset] [(.ref u0)])) rfl (by rw [hml]; rfl) (argsL := [(.ref u0)]) (rest := []) (lenOf pd_2 rfl) rfl (by show 2 * 0 + _ ≤ _; exact Nat.le_of_eq rfl) (hb hby at_39) (fun _ _ => ⟨rfl, e38, (by decide : 0 + 1 ≤ _), (by decide : 0 + 2 ≤ _)⟩)
    dsimp only [Pt.U, Pt.locs, Pt.cells, Pt.slots] at X39 l39 y39 z39 st39 hQ39
    subst l39 y39 z39
    obtain ⟨rfl, N39q, K39⟩ := hQ39
    have N39 := Fr.app N0 N39q
    refine Go.by' st39 ?_
    have O39 := O0.keep K39 all0
    have KC39 : Keep h0 T39.heap [] := KC0.trans K39 all0
    show Go p.tables e below Pf (T39.setTop (mkF m 42 #[.val (.int ip), .val (.int (0 : Int32)), .val (.ref u0), .val (.ref y0), .unset] [(.ref y0)]))
    refine Go.by' (fun t k => (XS.astore X39.here hx rfl (hb hby at_42) rfl rfl (l' := #[.val (.int ip), .val (.int (0 : Int32)), .val (.ref u0), .val (.ref y0), .val (.ref y0)]) rfl (XS.aload X39.here hx rfl (hb hby at_44) rfl rfl (XS.aloadN X39.here hx rfl (hb hby at_46) rfl rfl k)))) ?_
    show Go p.tables e below Pf (T39.setTop (mkF m 47 #[.val (.int ip), .val (.int (0 : Int32)), .val (.ref u0), .val (.ref y0), .val (.ref y0)] [(.ref y0), (.ref y0)]))
    refine Go.by' (fun t k => Jvm.RoadKit.acmp (g := (mkF m 47 #[.val (.int ip), .val (.int (0 : Int32)), .val (.ref u0), .val (.ref y0), .val (.ref y0)] [(.ref y0), (.ref y0)])) X39 hx rfl rfl rfl (pc0 := 47) (pc' := 50) (same := true) rfl (hb hby at_47) rfl (decide_eq_true rfl) (by decide) (by decide) k) ?_
    show Go p.tables e below Pf (T39.setTop (mkF m 50 #[.val (.int ip), .val (.int (0 : Int32)), .val (.ref u0), .val (.ref y0), .val (.ref y0)] []))
    refine Go.by' (fun t k => (XS.iconst X39.here hx rfl (hb hby at_50) (XS.goto X39.here hx rfl (pc0 := 51) (pc' := 55) rfl (hb hby at_51) (by decide) (by decide) k))) ?_
    show Go p.tables e below Pf (T39.setTop (mkF m 55 #[.val (.int ip), .val (.int (0 : Int32)), .val (.ref u0), .val (.ref y0), .val (.ref y0)] [(.int (1 : Int32))]))
    rw [hPf]
    exact Go.retI' X39 hx hret hlk (by simp) rfl (hb hby at_55) (by decide) (by decide) ⟨rfl, N39, KC39⟩
  · refine Go.castF (fun z' => mkF m 8 #[.val (.int ip), .val (.int z'), .unset, .unset, .unset] []) (hk : ((ip &&& (2147483647 : Int32)) % (12 : Int32)) = (1 : Int32)) ?_
    show Go p.tables e below Pf (s₁.setTop (mkF m 8 #[.val (.int ip), .val (.int (1 : Int32)), .unset, .unset, .unset] []))
    refine Go.by' (fun t k => (XS.iloadN X0.here hx rfl (hb hby at_8) rfl k)) ?_
    show Go p.tables e below Pf (s₁.setTop (mkF m 9 #[.val (.int ip), .val (.int (1 : Int32)), .unset, .unset, .unset] [(.int (1 : Int32))]))
    obtain ⟨_, _, ⟨T40, L40, k40, n40⟩, -, X40, ⟨Lc40, hQ40, l40, y40, z40⟩, st40⟩ := Jvm.LawKit.callS X0 hx (y := (⟨"com/example/meterline/meterline/protocol/SoapVersionOfEnvelopePinLaw", "pick", "(I)Lcom/example/meterline/meterline/protocol/WireNamespace;"⟩ : MethodName)) hown (mvT hZ hw1) (mvT hZ hw2) (mvT hZ hw3) (mvT hZ hw4) (by decide) (backOf (W := 0) (rmP1 l Z a0 hw [] u0 u1 u2 u3 u4 u5 u6 u7 u8 u9 u10 y0 y1 wV kV G  h0 n0 O0 ) hZ hw4 hw3 (by decide) (by decide)) (g := (mkF m 9 #[.val (.int ip), .val (.int (1 : Int32)), .unset, .unset, .unset] [(.int (1 : Int32))])) rfl (by rw [hml]; rfl) (argsL := [(.int (1 : Int32))]) (rest := []) (lenOf pd_1 rfl) rfl (by show 2 * 0 + _ ≤ _; exact Nat.le_of_eq rfl) (hb hby at_9) (fun _ _ => ⟨rfl, e0, (by decide : 0 + 0 ≤ _), (by decide : 0 + 0 ≤ _)⟩)
    dsimp only [Pt.U, Pt.locs, Pt.cells, Pt.slots] at X40 l40 y40 z40 st40 hQ40
    subst l40 y40 z40
    obtain ⟨rfl, rfl, e40⟩ := hQ40
    try rw [List.append_nil] at X40
    refine Go.by' st40 ?_
    show Go p.tables e below Pf (T40.setTop (mkF m 12 #[.val (.int ip), .val (.int (1 : Int32)), .unset, .unset, .unset] [(.ref u1)]))
    refine Go.by' (fun t k => (XS.astoreN X40.here hx rfl (hb hby at_12) rfl rfl (l' := #[.val (.int ip), .val (.int (1 : Int32)), .val (.ref u1), .unset, .unset]) rfl (XS.iloadN X40.here hx rfl (hb hby at_13) rfl (XS.ifYes X40.here hx rfl (pc0 := 14) (pc' := 24) rfl (hb hby at_14) rfl ((if0 _ _).trans (feq (by decide)).2) (by decide) (by decide) (XS.iloadN X40.here hx rfl (hb hby at_24) rfl (XS.iconst X40.here hx rfl (hb hby at_25) (XS.icmpNo X40.here hx rfl (hb hby at_26) rfl (teq (by decide)).2 k))))))) ?_
    show Go p.tables e below Pf (T40.setTop (mkF m 29 #[.val (.int ip), .val (.int (1 : Int32)), .val (.ref u1), .unset, .unset] []))
    obtain ⟨T41, X41, e41, st41⟩ := getS2 X40 hx hZ hown (host := "") (Or.inl hw44) Via.refl e40 (G.2.2.2.2.2.2.2.2.2.2.2.2.2.2.2.2.2.2.2.2.2.2.2.2.1.ext O0.2) (g := (mkF m 29 #[.val (.int ip), .val (.int (1 : Int32)), .val (.ref u1), .unset, .unset] [])) rfl (hb hby at_29)
    refine Go.by' st41 ?_
    show Go p.tables e below Pf (T41.setTop (mkF m 32 #[.val (.int ip), .val (.int (1 : Int32)), .val (.ref u1), .unset, .unset] [(.ref y1)]))
    refine Go.by' (fun t k => (XS.astoreN X41.here hx rfl (hb hby at_32) rfl rfl (l' := #[.val (.int ip), .val (.int (1 : Int32)), .val (.ref u1), .val (.ref y1), .unset]) rfl (XS.goto X41.here hx rfl (pc0 := 33) (pc' := 38) rfl (hb hby at_33) (by decide) (by decide) (XS.aloadN X41.here hx rfl (hb hby at_38) rfl rfl k)))) ?_
    show Go p.tables e below Pf (T41.setTop (mkF m 39 #[.val (.int ip), .val (.int (1 : Int32)), .val (.ref u1), .val (.ref y1), .unset] [(.ref u1)]))
    obtain ⟨_, _, ⟨T42, L42, k42, n42⟩, -, X42, ⟨Lc42, hQ42, l42, y42, z42⟩, st42⟩ := Jvm.LawKit.callS X41 hx (y := (⟨"com/example/meterline/meterline/protocol/SoapVersion", "ofEnvelope", "(Lcom/example/meterline/meterline/protocol/WireNamespace;)Lcom/example/meterline/meterline/protocol/SoapVersion;"⟩ : MethodName)) hown (mvT hZ hw11) (mvT hZ hw12) (mvT hZ hw9) (mvT hZ hw13) (by decide) (backOf (W := 0) (rmOE1 l Z a0 hw [] u0 u1 u2 u3 u4 u5 u6 u7 u8 u9 u10 y0 y1 wV kV G  h0 n0 O0 ) hZ hw13 hw9 (by decide) (by decide)) (g := (mkF m 39 #[.val (.int ip), .val (.int (1 : Int32)), .val (.ref u1), .val (.ref y1), .unset] [(.ref u1)])) rfl (by rw [hml]; rfl) (argsL := [(.ref u1)]) (rest := []) (lenOf pd_2 rfl) rfl (by show 2 * 0 + _ ≤ _; exact Nat.le_of_eq rfl) (hb hby at_39) (fun _ _ => ⟨rfl, e41, (by decide : 0 + 1 ≤ _), (by decide : 0 + 2 ≤ _)⟩)
    dsimp only [Pt.U, Pt.locs, Pt.cells, Pt.slots] at X42 l42 y42 z42 st42 hQ42
    subst l42 y42 z42
    obtain ⟨rfl, N42q, K42⟩ := hQ42
    have N42 := Fr.app N0 N42q
    refine Go.by' st42 ?_
    have O42 := O0.keep K42 all0
    have KC42 : Keep h0 T42.heap [] := KC0.trans K42 all0
    show Go p.tables e below Pf (T42.setTop (mkF m 42 #[.val (.int ip), .val (.int (1 : Int32)), .val (.ref u1), .val (.ref y1), .unset] [(.ref y1)]))
    refine Go.by' (fun t k => (XS.astore X42.here hx rfl (hb hby at_42) rfl rfl (l' := #[.val (.int ip), .val (.int (1 : Int32)), .val (.ref u1), .val (.ref y1), .val (.ref y1)]) rfl (XS.aload X42.here hx rfl (hb hby at_44) rfl rfl (XS.aloadN X42.here hx rfl (hb hby at_46) rfl rfl k)))) ?_
    show Go p.tables e below Pf (T42.setTop (mkF m 47 #[.val (.int ip), .val (.int (1 : Int32)), .val (.ref u1), .val (.ref y1), .val (.ref y1)] [(.ref y1), (.ref y1)]))
    refine Go.by' (fun t k => Jvm.RoadKit.acmp (g := (mkF m 47 #[.val (.int ip), .val (.int (1 : Int32)), .val (.ref u1), .val (.ref y1), .val (.ref y1)] [(.ref y1), (.ref y1)])) X42 hx rfl rfl rfl (pc0 := 47) (pc' := 50) (same := true) rfl (hb hby at_47) rfl (decide_eq_true rfl) (by decide) (by decide) k) ?_
    show Go p.tables e below Pf (T42.setTop (mkF m 50 #[.val (.int ip), .val (.int (1 : Int32)), .val (.ref u1), .val (.ref y1), .val (.ref y1)] []))
    refine Go.by' (fun t k => (XS.iconst X42.here hx rfl (hb hby at_50) (XS.goto X42.here hx rfl (pc0 := 51) (pc' := 55) rfl (hb hby at_51) (by decide) (by decide) k))) ?_
    show Go p.tables e below Pf (T42.setTop (mkF m 55 #[.val (.int ip), .val (.int (1 : Int32)), .val (.ref u1), .val (.ref y1), .val (.ref y1)] [(.int (1 : Int32))]))
    rw [hPf]
    exact Go.retI' X42 hx hret hlk (by simp) rfl (hb hby at_55) (by decide) (by decide) ⟨rfl, N42, KC42⟩
  · refine Go.castF (fun z' => mkF m 8 #[.val (.int ip), .val (.int z'), .unset, .unset, .unset] []) (hk : ((ip &&& (2147483647 : Int32)) % (12 : Int32)) = (2 : Int32)) ?_
    show Go p.tables e below Pf (s₁.setTop (mkF m 8 #[.val (.int ip), .val (.int (2 : Int32)), .unset, .unset, .unset] []))
    refine Go.by' (fun t k => (XS.iloadN X0.here hx rfl (hb hby at_8) rfl k)) ?_
    show Go p.tables e below Pf (s₁.setTop (mkF m 9 #[.val (.int ip), .val (.int (2 : Int32)), .unset, .unset, .unset] [(.int (2 : Int32))]))
    obtain ⟨_, _, ⟨T43, L43, k43, n43⟩, -, X43, ⟨Lc43, hQ43, l43, y43, z43⟩, st43⟩ := Jvm.LawKit.callS X0 hx (y := (⟨"com/example/meterline/meterline/protocol/SoapVersionOfEnvelopePinLaw", "pick", "(I)Lcom/example/meterline/meterline/protocol/WireNamespace;"⟩ : MethodName)) hown (mvT hZ hw1) (mvT hZ hw2) (mvT hZ hw3) (mvT hZ hw4) (by decide) (backOf (W := 0) (rmP2 l Z a0 hw [] u0 u1 u2 u3 u4 u5 u6 u7 u8 u9 u10 y0 y1 wV kV G  h0 n0 O0 ) hZ hw4 hw3 (by decide) (by decide)) (g := (mkF m 9 #[.val (.int ip), .val (.int (2 : Int32)), .unset, .unset, .unset] [(.int (2 : Int32))])) rfl (by rw [hml]; rfl) (argsL := [(.int (2 : Int32))]) (rest := []) (lenOf pd_1 rfl) rfl (by show 2 * 0 + _ ≤ _; exact Nat.le_of_eq rfl) (hb hby at_9) (fun _ _ => ⟨rfl, e0, (by decide : 0 + 0 ≤ _), (by decide : 0 + 0 ≤ _)⟩)
    dsimp only [Pt.U, Pt.locs, Pt.cells, Pt.slots] at X43 l43 y43 z43 st43 hQ43
    subst l43 y43 z43
    obtain ⟨rfl, rfl, e43⟩ := hQ43
    try rw [List.append_nil] at X43
    refine Go.by' st43 ?_
    show Go p.tables e below Pf (T43.setTop (mkF m 12 #[.val (.int ip), .val (.int (2 : Int32)), .unset, .unset, .unset] [(.ref u2)]))
    refine Go.by' (fun t k => (XS.astoreN X43.here hx rfl (hb hby at_12) rfl rfl (l' := #[.val (.int ip), .val (.int (2 : Int32)), .val (.ref u2), .unset, .unset]) rfl (XS.iloadN X43.here hx rfl (hb hby at_13) rfl (XS.ifYes X43.here hx rfl (pc0 := 14) (pc' := 24) rfl (hb hby at_14) rfl ((if0 _ _).trans (feq (by decide)).2) (by decide) (by decide) (XS.iloadN X43.here hx rfl (hb hby at_24) rfl (XS.iconst X43.here hx rfl (hb hby at_25) (XS.icmpYes X43.here hx rfl (pc0 := 26) (pc' := 36) rfl (hb hby at_26) rfl (feq (by decide)).2 (by decide) (by decide) k))))))) ?_
    show Go p.tables e below Pf (T43.setTop (mkF m 36 #[.val (.int ip), .val (.int (2 : Int32)), .val (.ref u2), .unset, .unset] []))
    refine Go.by' (fun t k => (XS.aconstNull X43.here hx rfl (hb hby at_36) (XS.astoreN X43.here hx rfl (hb hby at_37) rfl rfl (l' := #[.val (.int ip), .val (.int (2 : Int32)), .val (.ref u2), .val .null, .unset]) rfl (XS.aloadN X43.here hx rfl (hb hby at_38) rfl rfl k)))) ?_
    show Go p.tables e below Pf (T43.setTop (mkF m 39 #[.val (.int ip), .val (.int (2 : Int32)), .val (.ref u2), .val .null, .unset] [(.ref u2)]))
    obtain ⟨_, _, ⟨T44, L44, k44, n44⟩, -, X44, ⟨Lc44, hQ44, l44, y44, z44⟩, st44⟩ := Jvm.LawKit.callS X43 hx (y := (⟨"com/example/meterline/meterline/protocol/SoapVersion", "ofEnvelope", "(Lcom/example/meterline/meterline/protocol/WireNamespace;)Lcom/example/meterline/meterline/protocol/SoapVersion;"⟩ : MethodName)) hown (mvT hZ hw11) (mvT hZ hw12) (mvT hZ hw9) (mvT hZ hw13) (by decide) (backOf (W := 0) (rmOEx l Z a0 hw [] u0 u1 u2 u3 u4 u5 u6 u7 u8 u9 u10 y0 y1 wV kV G u2 h0 n0 O0 G.2.2.2.2.2.2.2.2.2.2.2.2.2.2.2.2.2.2.2.2.2.2.2.2.2.2.2.1 G.2.2.2.2.2.2.2.2.2.2.2.2.2.2.2.2.2.2.2.2.2.2.2.2.2.2.2.2.2.2.2.2.2.2.2.2.1) hZ hw13 hw9 (by decide) (by decide)) (g := (mkF m 39 #[.val (.int ip), .val (.int (2 : Int32)), .val (.ref u2), .val .null, .unset] [(.ref u2)])) rfl (by rw [hml]; rfl) (argsL := [(.ref u2)]) (rest := []) (lenOf pd_2 rfl) rfl (by show 2 * 0 + _ ≤ _; exact Nat.le_of_eq rfl) (hb hby at_39) (fun _ _ => ⟨rfl, e43, (by decide : 0 + 1 ≤ _), (by decide : 0 + 2 ≤ _)⟩)
    dsimp only [Pt.U, Pt.locs, Pt.cells, Pt.slots] at X44 l44 y44 z44 st44 hQ44
    subst l44 y44 z44
    obtain ⟨rfl, N44q, K44⟩ := hQ44
    have N44 := Fr.app N0 N44q
    refine Go.by' st44 ?_
    have O44 := O0.keep K44 all0
    have KC44 : Keep h0 T44.heap [] := KC0.trans K44 all0
    show Go p.tables e below Pf (T44.setTop (mkF m 42 #[.val (.int ip), .val (.int (2 : Int32)), .val (.ref u2), .val .null, .unset] [.null]))
    refine Go.by' (fun t k => (XS.astore X44.here hx rfl (hb hby at_42) rfl rfl (l' := #[.val (.int ip), .val (.int (2 : Int32)), .val (.ref u2), .val .null, .val .null]) rfl (XS.aload X44.here hx rfl (hb hby at_44) rfl rfl (XS.aloadN X44.here hx rfl (hb hby at_46) rfl rfl k)))) ?_
    show Go p.tables e below Pf (T44.setTop (mkF m 47 #[.val (.int ip), .val (.int (2 : Int32)), .val (.ref u2), .val .null, .val .null] [.null, .null]))
    refine Go.by' (fun t k => Jvm.RoadKit.acmp (g := (mkF m 47 #[.val (.int ip), .val (.int (2 : Int32)), .val (.ref u2), .val .null, .val .null] [.null, .null])) X44 hx rfl rfl rfl (pc0 := 47) (pc' := 50) (same := true) rfl (hb hby at_47) rfl (decide_eq_true rfl) (by decide) (by decide) k) ?_
    show Go p.tables e below Pf (T44.setTop (mkF m 50 #[.val (.int ip), .val (.int (2 : Int32)), .val (.ref u2), .val .null, .val .null] []))
    refine Go.by' (fun t k => (XS.iconst X44.here hx rfl (hb hby at_50) (XS.goto X44.here hx rfl (pc0 := 51) (pc' := 55) rfl (hb hby at_51) (by decide) (by decide) k))) ?_
    show Go p.tables e below Pf (T44.setTop (mkF m 55 #[.val (.int ip), .val (.int (2 : Int32)), .val (.ref u2), .val .null, .val .null] [(.int (1 : Int32))]))
    rw [hPf]
    exact Go.retI' X44 hx hret hlk (by simp) rfl (hb hby at_55) (by decide) (by decide) ⟨rfl, N44, KC44⟩
  · refine Go.castF (fun z' => mkF m 8 #[.val (.int ip), .val (.int z'), .unset, .unset, .unset] []) (hk : ((ip &&& (2147483647 : Int32)) % (12 : Int32)) = (3 : Int32)) ?_
    show Go p.tables e below Pf (s₁.setTop (mkF m 8 #[.val (.int ip), .val (.int (3 : Int32)), .unset, .unset, .unset] []))
    refine Go.by' (fun t k => (XS.iloadN X0.here hx rfl (hb hby at_8) rfl k)) ?_
    show Go p.tables e below Pf (s₁.setTop (mkF m 9 #[.val (.int ip), .val (.int (3 : Int32)), .unset, .unset, .unset] [(.int (3 : Int32))]))
    obtain ⟨_, _, ⟨T45, L45, k45, n45⟩, -, X45, ⟨Lc45, hQ45, l45, y45, z45⟩, st45⟩ := Jvm.LawKit.callS X0 hx (y := (⟨"com/example/meterline/meterline/protocol/SoapVersionOfEnvelopePinLaw", "pick", "(I)Lcom/example/meterline/meterline/protocol/WireNamespace;"⟩ : MethodName)) hown (mvT hZ hw1) (mvT hZ hw2) (mvT hZ hw3) (mvT hZ hw4) (by decide) (backOf (W := 0) (rmP3 l Z a0 hw [] u0 u1 u2 u3 u4 u5 u6 u7 u8 u9 u10 y0 y1 wV kV G  h0 n0 O0 ) hZ hw4 hw3 (by decide) (by decide)) (g := (mkF m 9 #[.val (.int ip), .val (.int (3 : Int32)), .unset, .unset, .unset] [(.int (3 : Int32))])) rfl (by rw [hml]; rfl) (argsL := [(.int (3 : Int32))]) (rest := []) (lenOf pd_1 rfl) rfl (by show 2 * 0 + _ ≤ _; exact Nat.le_of_eq rfl) (hb hby at_9) (fun _ _ => ⟨rfl, e0, (by decide : 0 + 0 ≤ _), (by decide : 0 + 0 ≤ _)⟩)
    dsimp only [Pt.U, Pt.locs, Pt.cells, Pt.slots] at X45 l45 y45 z45 st45 hQ45
    subst l45 y45 z45
    obtain ⟨rfl, rfl, e45⟩ := hQ45
    try rw [List.append_nil] at X45
    refine Go.by' st45 ?_
    show Go p.tables e below Pf (T45.setTop (mkF m 12 #[.val (.int ip), .val (.int (3 : Int32)), .unset, .unset, .unset] [(.ref u3)]))
    refine Go.by' (fun t k => (XS.astoreN X45.here hx rfl (hb hby at_12) rfl rfl (l' := #[.val (.int ip), .val (.int (3 : Int32)), .val (.ref u3), .unset, .unset]) rfl (XS.iloadN X45.here hx rfl (hb hby at_13) rfl (XS.ifYes X45.here hx rfl (pc0 := 14) (pc' := 24) rfl (hb hby at_14) rfl ((if0 _ _).trans (feq (by decide)).2) (by decide) (by decide) (XS.iloadN X45.here hx rfl (hb hby at_24) rfl (XS.iconst X45.here hx rfl (hb hby at_25) (XS.icmpYes X45.here hx rfl (pc0 := 26) (pc' := 36) rfl (hb hby at_26) rfl (feq (by decide)).2 (by decide) (by decide) k))))))) ?_
    show Go p.tables e below Pf (T45.setTop (mkF m 36 #[.val (.int ip), .val (.int (3 : Int32)), .val (.ref u3), .unset, .unset] []))
    refine Go.by' (fun t k => (XS.aconstNull X45.here hx rfl (hb hby at_36) (XS.astoreN X45.here hx rfl (hb hby at_37) rfl rfl (l' := #[.val (.int ip), .val (.int (3 : Int32)), .val (.ref u3), .val .null, .unset]) rfl (XS.aloadN X45.here hx rfl (hb hby at_38) rfl rfl k)))) ?_
    show Go p.tables e below Pf (T45.setTop (mkF m 39 #[.val (.int ip), .val (.int (3 : Int32)), .val (.ref u3), .val .null, .unset] [(.ref u3)]))
    obtain ⟨_, _, ⟨T46, L46, k46, n46⟩, -, X46, ⟨Lc46, hQ46, l46, y46, z46⟩, st46⟩ := Jvm.LawKit.callS X45 hx (y := (⟨"com/example/meterline/meterline/protocol/SoapVersion", "ofEnvelope", "(Lcom/example/meterline/meterline/protocol/WireNamespace;)Lcom/example/meterline/meterline/protocol/SoapVersion;"⟩ : MethodName)) hown (mvT hZ hw11) (mvT hZ hw12) (mvT hZ hw9) (mvT hZ hw13) (by decide) (backOf (W := 0) (rmOEx l Z a0 hw [] u0 u1 u2 u3 u4 u5 u6 u7 u8 u9 u10 y0 y1 wV kV G u3 h0 n0 O0 G.2.2.2.2.2.2.2.2.2.2.2.2.2.2.2.2.2.2.2.2.2.2.2.2.2.2.2.2.1 G.2.2.2.2.2.2.2.2.2.2.2.2.2.2.2.2.2.2.2.2.2.2.2.2.2.2.2.2.2.2.2.2.2.2.2.2.2.1) hZ hw13 hw9 (by decide) (by decide)) (g := (mkF m 39 #[.val (.int ip), .val (.int (3 : Int32)), .val (.ref u3), .val .null, .unset] [(.ref u3)])) rfl (by rw [hml]; rfl) (argsL := [(.ref u3)]) (rest := []) (lenOf pd_2 rfl) rfl (by show 2 * 0 + _ ≤ _; exact Nat.le_of_eq rfl) (hb hby at_39) (fun _ _ => ⟨rfl, e45, (by decide : 0 + 1 ≤ _), (by decide : 0 + 2 ≤ _)⟩)
    dsimp only [Pt.U, Pt.locs, Pt.cells, Pt.slots] at X46 l46 y46 z46 st46 hQ46
    subst l46 y46 z46
    obtain ⟨rfl, N46q, K46⟩ := hQ46
    have N46 := Fr.app N0 N46q
    refine Go.by' st46 ?_
    have O46 := O0.keep K46 all0
    have KC46 : Keep h0 T46.heap [] := KC0.trans K46 all0
    show Go p.tables e below Pf (T46.setTop (mkF m 42 #[.val (.int ip), .val (.int (3 : Int32)), .val (.ref u3), .val .null, .unset] [.null]))
    refine Go.by' (fun t k => (XS.astore X46.here hx rfl (hb hby at_42) rfl rfl (l' := #[.val (.int ip), .val (.int (3 : Int32)), .val (.ref u3), .val .null, .val .null]) rfl (XS.aload X46.here hx rfl (hb hby at_44) rfl rfl (XS.aloadN X46.here hx rfl (hb hby at_46) rfl rfl k)))) ?_
    show Go p.tables e below Pf (T46.setTop (mkF m 47 #[.val (.int ip), .val (.int (3 : Int32)), .val (.ref u3), .val .null, .val .null] [.null, .null]))
    refine Go.by' (fun t k => Jvm.RoadKit.acmp (g := (mkF m 47 #[.val (.int ip), .val (.int (3 : Int32)), .val (.ref u3), .val .null, .val .null] [.null, .null])) X46 hx rfl rfl rfl (pc0 := 47) (pc' := 50) (same := true) rfl (hb hby at_47) rfl (decide_eq_true rfl) (by decide) (by decide) k) ?_
    show Go p.tables e below Pf (T46.setTop (mkF m 50 #[.val (.int ip), .val (.int (3 : Int32)), .val (.ref u3), .val .null, .val .null] []))
    refine Go.by' (fun t k => (XS.iconst X46.here hx rfl (hb hby at_50) (XS.goto X46.here hx rfl (pc0 := 51) (pc' := 55) rfl (hb hby at_51) (by decide) (by decide) k))) ?_
    show Go p.tables e below Pf (T46.setTop (mkF m 55 #[.val (.int ip), .val (.int (3 : Int32)), .val (.ref u3), .val .null, .val .null] [(.int (1 : Int32))]))
    rw [hPf]
    exact Go.retI' X46 hx hret hlk (by simp) rfl (hb hby at_55) (by decide) (by decide) ⟨rfl, N46, KC46⟩
  · refine Go.castF (fun z' => mkF m 8 #[.val (.int ip), .val (.int z'), .unset, .unset, .unset] []) (hk : ((ip &&& (2147483647 : Int32)) % (12 : Int32)) = (4 : Int32)) ?_
    show Go p.tables e below Pf (s₁.setTop (mkF m 8 #[.val (.int ip), .val (.int (4 : Int32)), .unset, .unset, .unset] []))
    refine Go.by' (fun t k => (XS.iloadN X0.here hx rfl (hb hby at_8) rfl k)) ?_
    show Go p.tables e below Pf (s₁.setTop (mkF m 9 #[.val (.int ip), .val (.int (4 : Int32)), .unset, .unset, .unset] [(.int (4 : Int32))]))
    obtain ⟨_, _, ⟨T47, L47, k47, n47⟩, -, X47, ⟨Lc47, hQ47, l47, y47, z47⟩, st47⟩ := Jvm.LawKit.callS X0 hx (y := (⟨"com/example/meterline/meterline/protocol/SoapVersionOfEnvelopePinLaw", "pick", "(I)Lcom/example/meterline/meterline/protocol/WireNamespace;"⟩ : MethodName)) hown (mvT hZ hw1) (mvT hZ hw2) (mvT hZ hw3) (mvT hZ hw4) (by decide) (backOf (W := 0) (rmP4 l Z a0 hw [] u0 u1 u2 u3 u4 u5 u6 u7 u8 u9 u10 y0 y1 wV kV G  h0 n0 O0 ) hZ hw4 hw3 (by decide) (by decide)) (g := (mkF m 9 #[.val (.int ip), .val (.int (4 : Int32)), .unset, .unset, .unset] [(.int (4 : Int32))])) rfl (by rw [hml]; rfl) (argsL := [(.int (4 : Int32))]) (rest := []) (lenOf pd_1 rfl) rfl (by show 2 * 0 + _ ≤ _; exact Nat.le_of_eq rfl) (hb hby at_9) (fun _ _ => ⟨rfl, e0, (by decide : 0 + 0 ≤ _), (by decide : 0 + 0 ≤ _)⟩)
    dsimp only [Pt.U, Pt.locs, Pt.cells, Pt.slots] at X47 l47 y47 z47 st47 hQ47
    subst l47 y47 z47
    obtain ⟨rfl, rfl, e47⟩ := hQ47
    try rw [List.append_nil] at X47
    refine Go.by' st47 ?_
    show Go p.tables e below Pf (T47.setTop (mkF m 12 #[.val (.int ip), .val (.int (4 : Int32)), .unset, .unset, .unset] [(.ref u4)]))
    refine Go.by' (fun t k => (XS.astoreN X47.here hx rfl (hb hby at_12) rfl rfl (l' := #[.val (.int ip), .val (.int (4 : Int32)), .val (.ref u4), .unset, .unset]) rfl (XS.iloadN X47.here hx rfl (hb hby at_13) rfl (XS.ifYes X47.here hx rfl (pc0 := 14) (pc' := 24) rfl (hb hby at_14) rfl ((if0 _ _).trans (feq (by decide)).2) (by decide) (by decide) (XS.iloadN X47.here hx rfl (hb hby at_24) rfl (XS.iconst X47.here hx rfl (hb hby at_25) (XS.icmpYes X47.here hx rfl (pc0 := 26) (pc' := 36) rfl (hb hby at_26) rfl (feq (by decide)).2 (by decide) (by decide) k))))))) ?_
    show Go p.tables e below Pf (T47.setTop (mkF m 36 #[.val (.int ip), .val (.int (4 : Int32)), .val (.ref u4), .unset, .unset] []))
    refine Go.by' (fun t k => (XS.aconstNull X47.here hx rfl (hb hby at_36) (XS.astoreN X47.here hx rfl (hb hby at_37) rfl rfl (l' := #[.val (.int ip), .val (.int (4 : Int32)), .val (.ref u4), .val .null, .unset]) rfl (XS.aloadN X47.here hx rfl (hb hby at_38) rfl rfl k)))) ?_
    show Go p.tables e below Pf (T47.setTop (mkF m 39 #[.val (.int ip), .val (.int (4 : Int32)), .val (.ref u4), .val .null, .unset] [(.ref u4)]))
    obtain ⟨_, _, ⟨T48, L48, k48, n48⟩, -, X48, ⟨Lc48, hQ48, l48, y48, z48⟩, st48⟩ := Jvm.LawKit.callS X47 hx (y := (⟨"com/example/meterline/meterline/protocol/SoapVersion", "ofEnvelope", "(Lcom/example/meterline/meterline/protocol/WireNamespace;)Lcom/example/meterline/meterline/protocol/SoapVersion;"⟩ : MethodName)) hown (mvT hZ hw11) (mvT hZ hw12) (mvT hZ hw9) (mvT hZ hw13) (by decide) (backOf (W := 0) (rmOEx l Z a0 hw [] u0 u1 u2 u3 u4 u5 u6 u7 u8 u9 u10 y0 y1 wV kV G u4 h0 n0 O0 G.2.2.2.2.2.2.2.2.2.2.2.2.2.2.2.2.2.2.2.2.2.2.2.2.2.2.2.2.2.1 G.2.2.2.2.2.2.2.2.2.2.2.2.2.2.2.2.2.2.2.2.2.2.2.2.2.2.2.2.2.2.2.2.2.2.2.2.2.2.1) hZ hw13 hw9 (by decide) (by decide)) (g := (mkF m 39 #[.val (.int ip), .val (.int (4 : Int32)), .val (.ref u4), .val .null, .unset] [(.ref u4)])) rfl (by rw [hml]; rfl) (argsL := [(.ref u4)]) (rest := []) (lenOf pd_2 rfl) rfl (by show 2 * 0 + _ ≤ _; exact Nat.le_of_eq rfl) (hb hby at_39) (fun _ _ => ⟨rfl, e47, (by decide : 0 + 1 ≤ _), (by decide : 0 + 2 ≤ _)⟩)
    dsimp only [Pt.U, Pt.locs, Pt.cells, Pt.slots] at X48 l48 y48 z48 st48 hQ48
    subst l48 y48 z48
    obtain ⟨rfl, N48q, K48⟩ := hQ48
    have N48 := Fr.app N0 N48q
    refine Go.by' st48 ?_
    have O48 := O0.keep K48 all0
    have KC48 : Keep h0 T48.heap [] := KC0.trans K48 all0
    show Go p.tables e below Pf (T48.setTop (mkF m 42 #[.val (.int ip), .val (.int (4 : Int32)), .val (.ref u4), .val .null, .unset] [.null]))
    refine Go.by' (fun t k => (XS.astore X48.here hx rfl (hb hby at_42) rfl rfl (l' := #[.val (.int ip), .val (.int (4 : Int32)), .val (.ref u4), .val .null, .val .null]) rfl (XS.aload X48.here hx rfl (hb hby at_44) rfl rfl (XS.aloadN X48.here hx rfl (hb hby at_46) rfl rfl k)))) ?_
    show Go p.tables e below Pf (T48.setTop (mkF m 47 #[.val (.int ip), .val (.int (4 : Int32)), .val (.ref u4), .val .null, .val .null] [.null, .null]))
    refine Go.by' (fun t k => Jvm.RoadKit.acmp (g := (mkF m 47 #[.val (.int ip), .val (.int (4 : Int32)), .val (.ref u4), .val .null, .val .null] [.null, .null])) X48 hx rfl rfl rfl (pc0 := 47) (pc' := 50) (same := true) rfl (hb hby at_47) rfl (decide_eq_true rfl) (by decide) (by decide) k) ?_
    show Go p.tables e below Pf (T48.setTop (mkF m 50 #[.val (.int ip), .val (.int (4 : Int32)), .val (.ref u4), .val .null, .val .null] []))
    refine Go.by' (fun t k => (XS.iconst X48.here hx rfl (hb hby at_50) (XS.goto X48.here hx rfl (pc0 := 51) (pc' := 55) rfl (hb hby at_51) (by decide) (by decide) k))) ?_
    show Go p.tables e below Pf (T48.setTop (mkF m 55 #[.val (.int ip), .val (.int (4 : Int32)), .val (.ref u4), .val .null, .val .null] [(.int (1 : Int32))]))
    rw [hPf]
    exact Go.retI' X48 hx hret hlk (by simp) rfl (hb hby at_55) (by decide) (by decide) ⟨rfl, N48, KC48⟩
  · refine Go.castF (fun z' => mkF m 8 #[.val (.int ip), .val (.int z'), .unset, .unset, .unset] []) (hk : ((ip &&& (2147483647 : Int32)) % (12 : Int32)) = (5 : Int32)) ?_
    show Go p.tables e below Pf (s₁.setTop (mkF m 8 #[.val (.int ip), .val (.int (5 : Int32)), .unset, .unset, .unset] []))
    refine Go.by' (fun t k => (XS.iloadN X0.here hx rfl (hb hby at_8) rfl k)) ?_
    show Go p.tables e below Pf (s₁.setTop (mkF m 9 #[.val (.int ip), .val (.int (5 : Int32)), .unset, .unset, .unset] [(.int (5 : Int32))]))
    obtain ⟨_, _, ⟨T49, L49, k49, n49⟩, -, X49, ⟨Lc49, hQ49, l49, y49, z49⟩, st49⟩ := Jvm.LawKit.callS X0 hx (y := (⟨"com/example/meterline/meterline/protocol/SoapVersionOfEnvelopePinLaw", "pick", "(I)Lcom/example/meterline/meterline/protocol/WireNamespace;"⟩ : MethodName)) hown (mvT hZ hw1) (mvT hZ hw2) (mvT hZ hw3) (mvT hZ hw4) (by decide) (backOf (W := 0) (rmP5 l Z a0 hw [] u0 u1 u2 u3 u4 u5 u6 u7 u8 u9 u10 y0 y1 wV kV G  h0 n0 O0 ) hZ hw4 hw3 (by decide) (by decide)) (g := (mkF m 9 #[.val (.int ip), .val (.int (5 : Int32)), .unset, .unset, .unset] [(.int (5 : Int32))])) rfl (by rw [hml]; rfl) (argsL := [(.int (5 : Int32))]) (rest := []) (lenOf pd_1 rfl) rfl (by show 2 * 0 + _ ≤ _; exact Nat.le_of_eq rfl) (hb hby at_9) (fun _ _ => ⟨rfl, e0, (by decide : 0 + 0 ≤ _), (by decide : 0 + 0 ≤ _)⟩)
    dsimp only [Pt.U, Pt.locs, Pt.cells, Pt.slots] at X49 l49 y49 z49 st49 hQ49
    subst l49 y49 z49
    obtain ⟨rfl, rfl, e49⟩ := hQ49
    try rw [List.append_nil] at X49
    refine Go.by' st49 ?_
    show Go p.tables e below Pf (T49.setTop (mkF m 12 #[.val (.int ip), .val (.int (5 : Int32)), .unset, .unset, .unset] [(.ref u5)]))
    refine Go.by' (fun t k => (XS.astoreN X49.here hx rfl (hb hby at_12) rfl rfl (l' := #[.val (.int ip), .val (.int (5 : Int32)), .val (.ref u5), .unset, .unset]) rfl (XS.iloadN X49.here hx rfl (hb hby at_13) rfl (XS.ifYes X49.here hx rfl (pc0 := 14) (pc' := 24) rfl (hb hby at_14) rfl ((if0 _ _).trans (feq (by decide)).2) (by decide) (by decide) (XS.iloadN X49.here hx rfl (hb hby at_24) rfl (XS.iconst X49.here hx rfl (hb hby at_25) (XS.icmpYes X49.here hx rfl (pc0 := 26) (pc' := 36) rfl (hb hby at_26) rfl (feq (by decide)).2 (by decide) (by decide) k))))))) ?_
    show Go p.tables e below Pf (T49.setTop (mkF m 36 #[.val (.int ip), .val (.int (5 : Int32)), .val (.ref u5), .unset, .unset] []))
    refine Go.by' (fun t k => (XS.aconstNull X49.here hx rfl (hb hby at_36) (XS.astoreN X49.here hx rfl (hb hby at_37) rfl rfl (l' := #[.val (.int ip), .val (.int (5 : Int32)), .val (.ref u5), .val .null, .unset]) rfl (XS.aloadN X49.here hx rfl (hb hby at_38) rfl rfl k)))) ?_
    show Go p.tables e below Pf (T49.setTop (mkF m 39 #[.val (.int ip), .val (.int (5 : Int32)), .val (.ref u5), .val .null, .unset] [(.ref u5)]))
    obtain ⟨_, _, ⟨T50, L50, k50, n50⟩, -, X50, ⟨Lc50, hQ50, l50, y50, z50⟩, st50⟩ := Jvm.LawKit.callS X49 hx (y := (⟨"com/example/meterline/meterline/protocol/SoapVersion", "ofEnvelope", "(Lcom/example/meterline/meterline/protocol/WireNamespace;)Lcom/example/meterline/meterline/protocol/SoapVersion;"⟩ : MethodName)) hown (mvT hZ hw11) (mvT hZ hw12) (mvT hZ hw9) (mvT hZ hw13) (by decide) (backOf (W := 0) (rmOEx l Z a0 hw [] u0 u1 u2 u3 u4 u5 u6 u7 u8 u9 u10 y0 y1 wV kV G u5 h0 n0 O0 G.2.2.2.2.2.2.2.2.2.2.2.2.2.2.2.2.2.2.2.2.2.2.2.2.2.2.2.2.2.2.1 G.2.2.2.2.2.2.2.2.2.2.2.2.2.2.2.2.2.2.2.2.2.2.2.2.2.2.2.2.2.2.2.2.2.2.2.2.2.2.2.1) hZ hw13 hw9 (by decide) (by decide)) (g := (mkF m 39 #[.val (.int ip), .val (.int (5 : Int32)), .val (.ref u5), .val .null, .unset] [(.ref u5)])) rfl (by rw [hml]; rfl) (argsL := [(.ref u5)]) (rest := []) (lenOf pd_2 rfl) rfl (by show 2 * 0 + _ ≤ _; exact Nat.le_of_eq rfl) (hb hby at_39) (fun _ _ => ⟨rfl, e49, (by decide : 0 + 1 ≤ _), (by decide : 0 + 2 ≤ _)⟩)
    dsimp only [Pt.U, Pt.locs, Pt.cells, Pt.slots] at X50 l50 y50 z50 st50 hQ50
    subst l50 y50 z50
    obtain ⟨rfl, N50q, K50⟩ := hQ50
    have N50 := Fr.app N0 N50q
    refine Go.by' st50 ?_
    have O50 := O0.keep K50 all0
    have KC50 : Keep h0 T50.heap [] := KC0.trans K50 all0
    show Go p.tables e below Pf (T50.setTop (mkF m 42 #[.val (.int ip), .val (.int (5 : Int32)), .val (.ref u5), .val .null, .unset] [.null]))
    refine Go.by' (fun t k => (XS.astore X50.here hx rfl (hb hby at_42) rfl rfl (l' := #[.val (.int ip), .val (.int (5 : Int32)), .val (.ref u5), .val .null, .val .null]) rfl (XS.aload X50.here hx rfl (hb hby at_44) rfl rfl (XS.aloadN X50.here hx rfl (hb hby at_46) rfl rfl k)))) ?_
    show Go p.tables e below Pf (T50.setTop (mkF m 47 #[.val (.int ip), .val (.int (5 : Int32)), .val (.ref u5), .val .null, .val .null] [.null, .null]))
    refine Go.by' (fun t k => Jvm.RoadKit.acmp (g := (mkF m 47 #[.val (.int ip), .val (.int (5 : Int32)), .val (.ref u5), .val .null, .val .null] [.null, .null])) X50 hx rfl rfl rfl (pc0 := 47) (pc' := 50) (same := true) rfl (hb hby at_47) rfl (decide_eq_true rfl) (by decide) (by decide) k) ?_
    show Go p.tables e below Pf (T50.setTop (mkF m 50 #[.val (.int ip), .val (.int (5 : Int32)), .val (.ref u5), .val .null, .val .null] []))
    refine Go.by' (fun t k => (XS.iconst X50.here hx rfl (hb hby at_50) (XS.goto X50.here hx rfl (pc0 := 51) (pc' := 55) rfl (hb hby at_51) (by decide) (by decide) k))) ?_
    show Go p.tables e below Pf (T50.setTop (mkF m 55 #[.val (.int ip), .val (.int (5 : Int32)), .val (.ref u5), .val .null, .val .null] [(.int (1 : Int32))]))
    rw [hPf]
    exact Go.retI' X50 hx hret hlk (by simp) rfl (hb hby at_55) (by decide) (by decide) ⟨rfl, N50, KC50⟩
  · refine Go.castF (fun z' => mkF m 8 #[.val (.int ip), .val (.int z'), .unset, .unset, .unset] []) (hk : ((ip &&& (2147483647 : Int32)) % (12 : Int32)) = (6 : Int32)) ?_
    show Go p.tables e below Pf (s₁.setTop (mkF m 8 #[.val (.int ip), .val (.int (6 : Int32)), .unset, .unset, .unset] []))
    refine Go.by' (fun t k => (XS.iloadN X0.here hx rfl (hb hby at_8) rfl k)) ?_
    show Go p.tables e below Pf (s₁.setTop (mkF m 9 #[.val (.int ip), .val (.int (6 : Int32)), .unset, .unset, .unset] [(.int (6 : Int32))]))
    obtain ⟨_, _, ⟨T51, L51, k51, n51⟩, -, X51, ⟨Lc51, hQ51, l51, y51, z51⟩, st51⟩ := Jvm.LawKit.callS X0 hx (y := (⟨"com/example/meterline/meterline/protocol/SoapVersionOfEnvelopePinLaw", "pick", "(I)Lcom/example/meterline/meterline/protocol/WireNamespace;"⟩ : MethodName)) hown (mvT hZ hw1) (mvT hZ hw2) (mvT hZ hw3) (mvT hZ hw4) (by decide) (backOf (W := 0) (rmP6 l Z a0 hw [] u0 u1 u2 u3 u4 u5 u6 u7 u8 u9 u10 y0 y1 wV kV G  h0 n0 O0 ) hZ hw4 hw3 (by decide) (by decide)) (g := (mkF m 9 #[.val (.int ip), .val (.int (6 : Int32)), .unset, .unset, .unset] [(.int (6 : Int32))])) rfl (by rw [hml]; rfl) (argsL := [(.int (6 : Int32))]) (rest := []) (lenOf pd_1 rfl) rfl (by show 2 * 0 + _ ≤ _; exact Nat.le_of_eq rfl) (hb hby at_9) (fun _ _ => ⟨rfl, e0, (by decide : 0 + 0 ≤ _), (by decide : 0 + 0 ≤ _)⟩)
    dsimp only [Pt.U, Pt.locs, Pt.cells, Pt.slots] at X51 l51 y51 z51 st51 hQ51
    subst l51 y51 z51
    obtain ⟨rfl, rfl, e51⟩ := hQ51
    try rw [List.append_nil] at X51
    refine Go.by' st51 ?_
    show Go p.tables e below Pf (T51.setTop (mkF m 12 #[.val (.int ip), .val (.int (6 : Int32)), .unset, .unset, .unset] [(.ref u6)]))
    refine Go.by' (fun t k => (XS.astoreN X51.here hx rfl (hb hby at_12) rfl rfl (l' := #[.val (.int ip), .val (.int (6 : Int32)), .val (.ref u6), .unset, .unset]) rfl (XS.iloadN X51.here hx rfl (hb hby at_13) rfl (XS.ifYes X51.here hx rfl (pc0 := 14) (pc' := 24) rfl (hb hby at_14) rfl ((if0 _ _).trans (feq (by decide)).2) (by decide) (by decide) (XS.iloadN X51.here hx rfl (hb hby at_24) rfl (XS.iconst X51.here hx rfl (hb hby at_25) (XS.icmpYes X51.here hx rfl (pc0 := 26) (pc' := 36) rfl (hb hby at_26) rfl (feq (by decide)).2 (by decide) (by decide) k))))))) ?_
    show Go p.tables e below Pf (T51.setTop (mkF m 36 #[.val (.int ip), .val (.int (6 : Int32)), .val (.ref u6), .unset, .unset] []))
    refine Go.by' (fun t k => (XS.aconstNull X51.here hx rfl (hb hby at_36) (XS.astoreN X51.here hx rfl (hb hby at_37) rfl rfl (l' := #[.val (.int ip), .val (.int (6 : Int32)), .val (.ref u6), .val .null, .unset]) rfl (XS.aloadN X51.here hx rfl (hb hby at_38) rfl rfl k)))) ?_
    show Go p.tables e below Pf (T51.setTop (mkF m 39 #[.val (.int ip), .val (.int (6 : Int32)), .val (.ref u6), .val .null, .unset] [(.ref u6)]))
    obtain ⟨_, _, ⟨T52, L52, k52, n52⟩, -, X52, ⟨Lc52, hQ52, l52, y52, z52⟩, st52⟩ := Jvm.LawKit.callS X51 hx (y := (⟨"com/example/meterline/meterline/protocol/SoapVersion", "ofEnvelope", "(Lcom/example/meterline/meterline/protocol/WireNamespace;)Lcom/example/meterline/meterline/protocol/SoapVersion;"⟩ : MethodName)) hown (mvT hZ hw11) (mvT hZ hw12) (mvT hZ hw9) (mvT hZ hw13) (by decide) (backOf (W := 0) (rmOEx l Z a0 hw [] u0 u1 u2 u3 u4 u5 u6 u7 u8 u9 u10 y0 y1 wV kV G u6 h0 n0 O0 G.2.2.2.2.2.2.2.2.2.2.2.2.2.2.2.2.2.2.2.2.2.2.2.2.2.2.2.2.2.2.2.1 G.2.2.2.2.2.2.2.2.2.2.2.2.2.2.2.2.2.2.2.2.2.2.2.2.2.2.2.2.2.2.2.2.2.2.2.2.2.2.2.2.1) hZ hw13 hw9 (by decide) (by decide)) (g := (mkF m 39 #[.val (.int ip), .val (.int (6 : Int32)), .val (.ref u6), .val .null, .unset] [(.ref u6)])) rfl (by rw [hml]; rfl) (argsL := [(.ref u6)]) (rest := []) (lenOf pd_2 rfl) rfl (by show 2 * 0 + _ ≤ _; exact Nat.le_of_eq rfl) (hb hby at_39) (fun _ _ => ⟨rfl, e51, (by decide : 0 + 1 ≤ _), (by decide : 0 + 2 ≤ _)⟩)
    dsimp only [Pt.U, Pt.locs, Pt.cells, Pt.slots] at X52 l52 y52 z52 st52 hQ52
    subst l52 y52 z52
    obtain ⟨rfl, N52q, K52⟩ := hQ52
    have N52 := Fr.app N0 N52q
    refine Go.by' st52 ?_
    have O52 := O0.keep K52 all0
    have KC52 : Keep h0 T52.heap [] := KC0.trans K52 all0
    show Go p.tables e below Pf (T52.setTop (mkF m 42 #[.val (.int ip), .val (.int (6 : Int32)), .val (.ref u6), .val .null, .unset] [.null]))
    refine Go.by' (fun t k => (XS.astore X52.here hx rfl (hb hby at_42) rfl rfl (l' := #[.val (.int ip), .val (.int (6 : Int32)), .val (.ref u6), .val .null, .val .null]) rfl (XS.aload X52.here hx rfl (hb hby at_44) rfl rfl (XS.aloadN X52.here hx rfl (hb hby at_46) rfl rfl k)))) ?_
    show Go p.tables e below Pf (T52.setTop (mkF m 47 #[.val (.int ip), .val (.int (6 : Int32)), .val (.ref u6), .val .null, .val .null] [.null, .null]))
    refine Go.by' (fun t k => Jvm.RoadKit.acmp (g := (mkF m 47 #[.val (.int ip), .val (.int (6 : Int32)), .val (.ref u6), .val .null, .val .null] [.null, .null])) X52 hx rfl rfl rfl (pc0 := 47) (pc' := 50) (same := true) rfl (hb hby at_47) rfl (decide_eq_true rfl) (by decide) (by decide) k) ?_
    show Go p.tables e below Pf (T52.setTop (mkF m 50 #[.val (.int ip), .val (.int (6 : Int32)), .val (.ref u6), .val .null, .val .null] []))
    refine Go.by' (fun t k => (XS.iconst X52.here hx rfl (hb hby at_50) (XS.goto X52.here hx rfl (pc0 := 51) (pc' := 55) rfl (hb hby at_51) (by decide) (by decide) k))) ?_
    show Go p.tables e below Pf (T52.setTop (mkF m 55 #[.val (.int ip), .val (.int (6 : Int32)), .val (.ref u6), .val .null, .val .null] [(.int (1 : Int32))]))
    rw [hPf]
    exact Go.retI' X52 hx hret hlk (by simp) rfl (hb hby at_55) (by decide) (by decide) ⟨rfl, N52, KC52⟩
  · refine Go.castF (fun z' => mkF m 8 #[.val (.int ip), .val (.int z'), .unset, .unset, .unset] []) (hk : ((ip &&& (2147483647 : Int32)) % (12 : Int32)) = (7 : Int32)) ?_
    show Go p.tables e below Pf (s₁.setTop (mkF m 8 #[.val (.int ip), .val (.int (7 : Int32)), .unset, .unset, .unset] []))
    refine Go.by' (fun t k => (XS.iloadN X0.here hx rfl (hb hby at_8) rfl k)) ?_
    show Go p.tables e below Pf (s₁.setTop (mkF m 9 #[.val (.int ip), .val (.int (7 : Int32)), .unset, .unset, .unset] [(.int (7 : Int32))]))
    obtain ⟨_, _, ⟨T53, L53, k53, n53⟩, -, X53, ⟨Lc53, hQ53, l53, y53, z53⟩, st53⟩ := Jvm.LawKit.callS X0 hx (y := (⟨"com/example/meterline/meterline/protocol/SoapVersionOfEnvelopePinLaw", "pick", "(I)Lcom/example/meterline/meterline/protocol/WireNamespace;"⟩ : MethodName)) hown (mvT hZ hw1) (mvT hZ hw2) (mvT hZ hw3) (mvT hZ hw4) (by decide) (backOf (W := 0) (rmP7 l Z a0 hw [] u0 u1 u2 u3 u4 u5 u6 u7 u8 u9 u10 y0 y1 wV kV G  h0 n0 O0 ) hZ hw4 hw3 (by decide) (by decide)) (g := (mkF m 9 #[.val (.int ip), .val (.int (7 : Int32)), .unset, .unset, .unset] [(.int (7 : Int32))])) rfl (by rw [hml]; rfl) (argsL := [(.int (7 : Int32))]) (rest := []) (lenOf pd_1 rfl) rfl (by show 2 * 0 + _ ≤ _; exact Nat.le_of_eq rfl) (hb hby at_9) (fun _ _ => ⟨rfl, e0, (by decide : 0 + 0 ≤ _), (by decide : 0 + 0 ≤ _)⟩)
    dsimp only [Pt.U, Pt.locs, Pt.cells, Pt.slots] at X53 l53 y53 z53 st53 hQ53
    subst l53 y53 z53
    obtain ⟨rfl, rfl, e53⟩ := hQ53
    try rw [List.append_nil] at X53
    refine Go.by' st53 ?_
    show Go p.tables e below Pf (T53.setTop (mkF m 12 #[.val (.int ip), .val (.int (7 : Int32)), .unset, .unset, .unset] [(.ref u7)]))
    refine Go.by' (fun t k => (XS.astoreN X53.here hx rfl (hb hby at_12) rfl rfl (l' := #[.val (.int ip), .val (.int (7 : Int32)), .val (.ref u7), .unset, .unset]) rfl (XS.iloadN X53.here hx rfl (hb hby at_13) rfl (XS.ifYes X53.here hx rfl (pc0 := 14) (pc' := 24) rfl (hb hby at_14) rfl ((if0 _ _).trans (feq (by decide)).2) (by decide) (by decide) (XS.iloadN X53.here hx rfl (hb hby at_24) rfl (XS.iconst X53.here hx rfl (hb hby at_25) (XS.icmpYes X53.here hx rfl (pc0 := 26) (pc' := 36) rfl (hb hby at_26) rfl (feq (by decide)).2 (by decide) (by decide) k))))))) ?_
    show Go p.tables e below Pf (T53.setTop (mkF m 36 #[.val (.int ip), .val (.int (7 : Int32)), .val (.ref u7), .unset, .unset] []))
    refine Go.by' (fun t k => (XS.aconstNull X53.here hx rfl (hb hby at_36) (XS.astoreN X53.here hx rfl (hb hby at_37) rfl rfl (l' := #[.val (.int ip), .val (.int (7 : Int32)), .val (.ref u7), .val .null, .unset]) rfl (XS.aloadN X53.here hx rfl (hb hby at_38) rfl rfl k)))) ?_
    show Go p.tables e below Pf (T53.setTop (mkF m 39 #[.val (.int ip), .val (.int (7 : Int32)), .val (.ref u7), .val .null, .unset] [(.ref u7)]))
    obtain ⟨_, _, ⟨T54, L54, k54, n54⟩, -, X54, ⟨Lc54, hQ54, l54, y54, z54⟩, st54⟩ := Jvm.LawKit.callS X53 hx (y := (⟨"com/example/meterline/meterline/protocol/SoapVersion", "ofEnvelope", "(Lcom/example/meterline/meterline/protocol/WireNamespace;)Lcom/example/meterline/meterline/protocol/SoapVersion;"⟩ : MethodName)) hown (mvT hZ hw11) (mvT hZ hw12) (mvT hZ hw9) (mvT hZ hw13) (by decide) (backOf (W := 0) (rmOEx l Z a0 hw [] u0 u1 u2 u3 u4 u5 u6 u7 u8 u9 u10 y0 y1 wV kV G u7 h0 n0 O0 G.2.2.2.2.2.2.2.2.2.2.2.2.2.2.2.2.2.2.2.2.2.2.2.2.2.2.2.2.2.2.2.2.1 G.2.2.2.2.2.2.2.2.2.2.2.2.2.2.2.2.2.2.2.2.2.2.2.2.2.2.2.2.2.2.2.2.2.2.2.2.2.2.2.2.2.1) hZ hw13 hw9 (by decide) (by decide)) (g := (mkF m 39 #[.val (.int ip), .val (.int (7 : Int32)), .val (.ref u7), .val .null, .unset] [(.ref u7)])) rfl (by rw [hml]; rfl) (argsL := [(.ref u7)]) (rest := []) (lenOf pd_2 rfl) rfl (by show 2 * 0 + _ ≤ _; exact Nat.le_of_eq rfl) (hb hby at_39) (fun _ _ => ⟨rfl, e53, (by decide : 0 + 1 ≤ _), (by decide : 0 + 2 ≤ _)⟩)
    dsimp only [Pt.U, Pt.locs, Pt.cells, Pt.slots] at X54 l54 y54 z54 st54 hQ54
    subst l54 y54 z54
    obtain ⟨rfl, N54q, K54⟩ := hQ54
    have N54 := Fr.app N0 N54q
    refine Go.by' st54 ?_
    have O54 := O0.keep K54 all0
    have KC54 : Keep h0 T54.heap [] := KC0.trans K54 all0
    show Go p.tables e below Pf (T54.setTop (mkF m 42 #[.val (.int ip), .val (.int (7 : Int32)), .val (.ref u7), .val .null, .unset] [.null]))
    refine Go.by' (fun t k => (XS.astore X54.here hx rfl (hb hby at_42) rfl rfl (l' := #[.val (.int ip), .val (.int (7 : Int32)), .val (.ref u7), .val .null, .val .null]) rfl (XS.aload X54.here hx rfl (hb hby at_44) rfl rfl (XS.aloadN X54.here hx rfl (hb hby at_46) rfl rfl k)))) ?_
    show Go p.tables e below Pf (T54.setTop (mkF m 47 #[.val (.int ip), .val (.int (7 : Int32)), .val (.ref u7), .val .null, .val .null] [.null, .null]))
    refine Go.by' (fun t k => Jvm.RoadKit.acmp (g := (mkF m 47 #[.val (.int ip), .val (.int (7 : Int32)), .val (.ref u7), .val .null, .val .null] [.null, .null])) X54 hx rfl rfl rfl (pc0 := 47) (pc' := 50) (same := true) rfl (hb hby at_47) rfl (decide_eq_true rfl) (by decide) (by decide) k) ?_
    show Go p.tables e below Pf (T54.setTop (mkF m 50 #[.val (.int ip), .val (.int (7 : Int32)), .val (.ref u7), .val .null, .val .null] []))
    refine Go.by' (fun t k => (XS.iconst X54.here hx rfl (hb hby at_50) (XS.goto X54.here hx rfl (pc0 := 51) (pc' := 55) rfl (hb hby at_51) (by decide) (by decide) k))) ?_
    show Go p.tables e below Pf (T54.setTop (mkF m 55 #[.val (.int ip), .val (.int (7 : Int32)), .val (.ref u7), .val .null, .val .null] [(.int (1 : Int32))]))
    rw [hPf]
    exact Go.retI' X54 hx hret hlk (by simp) rfl (hb hby at_55) (by decide) (by decide) ⟨rfl, N54, KC54⟩
  · refine Go.castF (fun z' => mkF m 8 #[.val (.int ip), .val (.int z'), .unset, .unset, .unset] []) (hk : ((ip &&& (2147483647 : Int32)) % (12 : Int32)) = (8 : Int32)) ?_
    show Go p.tables e below Pf (s₁.setTop (mkF m 8 #[.val (.int ip), .val (.int (8 : Int32)), .unset, .unset, .unset] []))
    refine Go.by' (fun t k => (XS.iloadN X0.here hx rfl (hb hby at_8) rfl k)) ?_
    show Go p.tables e below Pf (s₁.setTop (mkF m 9 #[.val (.int ip), .val (.int (8 : Int32)), .unset, .unset, .unset] [(.int (8 : Int32))]))
    obtain ⟨_, _, ⟨T55, L55, k55, n55⟩, -, X55, ⟨Lc55, hQ55, l55, y55, z55⟩, st55⟩ := Jvm.LawKit.callS X0 hx (y := (⟨"com/example/meterline/meterline/protocol/SoapVersionOfEnvelopePinLaw", "pick", "(I)Lcom/example/meterline/meterline/protocol/WireNamespace;"⟩ : MethodName)) hown (mvT hZ hw1) (mvT hZ hw2) (mvT hZ hw3) (mvT hZ hw4) (by decide) (backOf (W := 0) (rmP8 l Z a0 hw [] u0 u1 u2 u3 u4 u5 u6 u7 u8 u9 u10 y0 y1 wV kV G  h0 n0 O0 ) hZ hw4 hw3 (by decide) (by decide)) (g := (mkF m 9 #[.val (.int ip), .val (.int (8 : Int32)), .unset, .unset, .unset] [(.int (8 : Int32))])) rfl (by rw [hml]; rfl) (argsL := [(.int (8 : Int32))]) (rest := []) (lenOf pd_1 rfl) rfl (by show 2 * 0 + _ ≤ _; exact Nat.le_of_eq rfl) (hb hby at_9) (fun _ _ => ⟨rfl, e0, (by decide : 0 + 0 ≤ _), (by decide : 0 + 0 ≤ _)⟩)
    dsimp only [Pt.U, Pt.locs, Pt.cells, Pt.slots] at X55 l55 y55 z55 st55 hQ55
    subst l55 y55 z55
    obtain ⟨rfl, rfl, e55⟩ := hQ55
    try rw [List.append_nil] at X55
    refine Go.by' st55 ?_
    show Go p.tables e below Pf (T55.setTop (mkF m 12 #[.val (.int ip), .val (.int (8 : Int32)), .unset, .unset, .unset] [(.ref u8)]))
    refine Go.by' (fun t k => (XS.astoreN X55.here hx rfl (hb hby at_12) rfl rfl (l' := #[.val (.int ip), .val (.int (8 : Int32)), .val (.ref u8), .unset, .unset]) rfl (XS.iloadN X55.here hx rfl (hb hby at_13) rfl (XS.ifYes X55.here hx rfl (pc0 := 14) (pc' := 24) rfl (hb hby at_14) rfl ((if0 _ _).trans (feq (by decide)).2) (by decide) (by decide) (XS.iloadN X55.here hx rfl (hb hby at_24) rfl (XS.iconst X55.here hx rfl (hb hby at_25) (XS.icmpYes X55.here hx rfl (pc0 := 26) (pc' := 36) rfl (hb hby at_26) rfl (feq (by decide)).2 (by decide) (by decide) k))))))) ?_
    show Go p.tables e below Pf (T55.setTop (mkF m 36 #[.val (.int ip), .val (.int (8 : Int32)), .val (.ref u8), .unset, .unset] []))
    refine Go.by' (fun t k => (XS.aconstNull X55.here hx rfl (hb hby at_36) (XS.astoreN X55.here hx rfl (hb hby at_37) rfl rfl (l' := #[.val (.int ip), .val (.int (8 : Int32)), .val (.ref u8), .val .null, .unset]) rfl (XS.aloadN X55.here hx rfl (hb hby at_38) rfl rfl k)))) ?_
    show Go p.tables e below Pf (T55.setTop (mkF m 39 #[.val (.int ip), .val (.int (8 : Int32)), .val (.ref u8), .val .null, .unset] [(.ref u8)]))
    obtain ⟨_, _, ⟨T56, L56, k56, n56⟩, -, X56, ⟨Lc56, hQ56, l56, y56, z56⟩, st56⟩ := Jvm.LawKit.callS X55 hx (y := (⟨"com/example/meterline/meterline/protocol/SoapVersion", "ofEnvelope", "(Lcom/example/meterline/meterline/protocol/WireNamespace;)Lcom/example/meterline/meterline/protocol/SoapVersion;"⟩ : MethodName)) hown (mvT hZ hw11) (mvT hZ hw12) (mvT hZ hw9) (mvT hZ hw13) (by decide) (backOf (W := 0) (rmOEx l Z a0 hw [] u0 u1 u2 u3 u4 u5 u6 u7 u8 u9 u10 y0 y1 wV kV G u8 h0 n0 O0 G.2.2.2.2.2.2.2.2.2.2.2.2.2.2.2.2.2.2.2.2.2.2.2.2.2.2.2.2.2.2.2.2.2.1 G.2.2.2.2.2.2.2.2.2.2.2.2.2.2.2.2.2.2.2.2.2.2.2.2.2.2.2.2.2.2.2.2.2.2.2.2.2.2.2.2.2.2.1) hZ hw13 hw9 (by decide) (by decide)) (g := (mkF m 39 #[.val (.int ip), .val (.int (8 : Int32)), .val (.ref u8), .val .null, .unset] [(.ref u8)])) rfl (by rw [hml]; rfl) (argsL := [(.ref u8)]) (rest := []) (lenOf pd_2 rfl) rfl (by show 2 * 0 + _ ≤ _; exact Nat.le_of_eq rfl) (hb hby at_39) (fun _ _ => ⟨rfl, e55, (by decide : 0 + 1 ≤ _), (by decide : 0 + 2 ≤ _)⟩)
    dsimp only [Pt.U, Pt.locs, Pt.cells, Pt.slots] at X56 l56 y56 z56 st56 hQ56
    subst l56 y56 z56
    obtain ⟨rfl, N56q, K56⟩ := hQ56
    have N56 := Fr.app N0 N56q
    refine Go.by' st56 ?_
    have O56 := O0.keep K56 all0
    have KC56 : Keep h0 T56.heap [] := KC0.trans K56 all0
    show Go p.tables e below Pf (T56.setTop (mkF m 42 #[.val (.int ip), .val (.int (8 : Int32)), .val (.ref u8), .val .null, .unset] [.null]))
    refine Go.by' (fun t k => (XS.astore X56.here hx rfl (hb hby at_42) rfl rfl (l' := #[.val (.int ip), .val (.int (8 : Int32)), .val (.ref u8), .val .null, .val .null]) rfl (XS.aload X56.here hx rfl (hb hby at_44) rfl rfl (XS.aloadN X56.here hx rfl (hb hby at_46) rfl rfl k)))) ?_
    show Go p.tables e below Pf (T56.setTop (mkF m 47 #[.val (.int ip), .val (.int (8 : Int32)), .val (.ref u8), .val .null, .val .null] [.null, .null]))
    refine Go.by' (fun t k => Jvm.RoadKit.acmp (g := (mkF m 47 #[.val (.int ip), .val (.int (8 : Int32)), .val (.ref u8), .val .null, .val .null] [.null, .null])) X56 hx rfl rfl rfl (pc0 := 47) (pc' := 50) (same := true) rfl (hb hby at_47) rfl (decide_eq_true rfl) (by decide) (by decide) k) ?_
    show Go p.tables e below Pf (T56.setTop (mkF m 50 #[.val (.int ip), .val (.int (8 : Int32)), .val (.ref u8), .val .null, .val .null] []))
    refine Go.by' (fun t k => (XS.iconst X56.here hx rfl (hb hby at_50) (XS.goto X56.here hx rfl (pc0 := 51) (pc' := 55) rfl (hb hby at_51) (by decide) (by decide) k))) ?_
    show Go p.tables e below Pf (T56.setTop (mkF m 55 #[.val (.int ip), .val (.int (8 : Int32)), .val (.ref u8), .val .null, .val .null] [(.int (1 : Int32))]))
    rw [hPf]
    exact Go.retI' X56 hx hret hlk (by simp) rfl (hb hby at_55) (by decide) (by decide) ⟨rfl, N56, KC56⟩
  · refine Go.castF (fun z' => mkF m 8 #[.val (.int ip), .val (.int z'), .unset, .unset, .unset] []) (hk : ((ip &&& (2147483647 : Int32)) % (12 : Int32)) = (9 : Int32)) ?_
    show Go p.tables e below Pf (s₁.setTop (mkF m 8 #[.val (.int ip), .val (.int (9 : Int32)), .unset, .unset, .unset] []))
    refine Go.by' (fun t k => (XS.iloadN X0.here hx rfl (hb hby at_8) rfl k)) ?_
    show Go p.tables e below Pf (s₁.setTop (mkF m 9 #[.val (.int ip), .val (.int (9 : Int32)), .unset, .unset, .unset] [(.int (9 : Int32))]))
    obtain ⟨_, _, ⟨T57, L57, k57, n57⟩, -, X57, ⟨Lc57, hQ57, l57, y57, z57⟩, st57⟩ := Jvm.LawKit.callS X0 hx (y := (⟨"com/example/meterline/meterline/protocol/SoapVersionOfEnvelopePinLaw", "pick", "(I)Lcom/example/meterline/meterline/protocol/WireNamespace;"⟩ : MethodName)) hown (mvT hZ hw1) (mvT hZ hw2) (mvT hZ hw3) (mvT hZ hw4) (by decide) (backOf (W := 0) (rmP9 l Z a0 hw [] u0 u1 u2 u3 u4 u5 u6 u7 u8 u9 u10 y0 y1 wV kV G  h0 n0 O0 ) hZ hw4 hw3 (by decide) (by decide)) (g := (mkF m 9 #[.val (.int ip), .val (.int (9 : Int32)), .unset, .unset, .unset] [(.int (9 : Int32))])) rfl (by rw [hml]; rfl) (argsL := [(.int (9 : Int32))]) (rest := []) (lenOf pd_1 rfl) rfl (by show 2 * 0 + _ ≤ _; exact Nat.le_of_eq rfl) (hb hby at_9) (fun _ _ => ⟨rfl, e0, (by decide : 0 + 0 ≤ _), (by decide : 0 + 0 ≤ _)⟩)
    dsimp only [Pt.U, Pt.locs, Pt.cells, Pt.slots] at X57 l57 y57 z57 st57 hQ57
    subst l57 y57 z57
    obtain ⟨rfl, rfl, e57⟩ := hQ57
    try rw [List.append_nil] at X57
    refine Go.by' st57 ?_
    show Go p.tables e below Pf (T57.setTop (mkF m 12 #[.val (.int ip), .val (.int (9 : Int32)), .unset, .unset, .unset] [(.ref u9)]))
    refine Go.by' (fun t k => (XS.astoreN X57.here hx rfl (hb hby at_12) rfl rfl (l' := #[.val (.int ip), .val (.int (9 : Int32)), .val (.ref u9), .unset, .unset]) rfl (XS.iloadN X57.here hx rfl (hb hby at_13) rfl (XS.ifYes X57.here hx rfl (pc0 := 14) (pc' := 24) rfl (hb hby at_14) rfl ((if0 _ _).trans (feq (by decide)).2) (by decide) (by decide) (XS.iloadN X57.here hx rfl (hb hby at_24) rfl (XS.iconst X57.here hx rfl (hb hby at_25) (XS.icmpYes X57.here hx rfl (pc0 := 26) (pc' := 36) rfl (hb hby at_26) rfl (feq (by decide)).2 (by decide) (by decide) k))))))) ?_
    show Go p.tables e below Pf (T57.setTop (mkF m 36 #[.val (.int ip), .val (.int (9 : Int32)), .val (.ref u9), .unset, .unset] []))
    refine Go.by' (fun t k => (XS.aconstNull X57.here hx rfl (hb hby at_36) (XS.astoreN X57.here hx rfl (hb hby at_37) rfl rfl (l' := #[.val (.int ip), .val (.int (9 : Int32)), .val (.ref u9), .val .null, .unset]) rfl (XS.aloadN X57.here hx rfl (hb hby at_38) rfl rfl k)))) ?_
    show Go p.tables e below Pf (T57.setTop (mkF m 39 #[.val (.int ip), .val (.int (9 : Int32)), .val (.ref u9), .val .null, .unset] [(.ref u9)]))
    obtain ⟨_, _, ⟨T58, L58, k58, n58⟩, -, X58, ⟨Lc58, hQ58, l58, y58, z58⟩, st58⟩ := Jvm.LawKit.callS X57 hx (y := (⟨"com/example/meterline/meterline/protocol/SoapVersion", "ofEnvelope", "(Lcom/example/meterline/meterline/protocol/WireNamespace;)Lcom/example/meterline/meterline/protocol/SoapVersion;"⟩ : MethodName)) hown (mvT hZ hw11) (mvT hZ hw12) (mvT hZ hw9) (mvT hZ hw13) (by decide) (backOf (W := 0) (rmOEx l Z a0 hw [] u0 u1 u2 u3 u4 u5 u6 u7 u8 u9 u10 y0 y1 wV kV G u9 h0 n0 O0 G.2.2.2.2.2.2.2.2.2.2.2.2.2.2.2.2.2.2.2.2.2.2.2.2.2.2.2.2.2.2.2.2.2.2.1 G.2.2.2.2.2.2.2.2.2.2.2.2.2.2.2.2.2.2.2.2.2.2.2.2.2.2.2.2.2.2.2.2.2.2.2.2.2.2.2.2.2.2.2.1) hZ hw13 hw9 (by decide) (by decide)) (g := (mkF m 39 #[.val (.int ip), .val (.int (9 : Int32)), .val (.ref u9), .val .null, .unset] [(.ref u9)])) rfl (by rw [hml]; rfl) (argsL := [(.ref u9)]) (rest := []) (lenOf pd_2 rfl) rfl (by show 2 * 0 + _ ≤ _; exact Nat.le_of_eq rfl) (hb hby at_39) (fun _ _ => ⟨rfl, e57, (by decide : 0 + 1 ≤ _), (by decide : 0 + 2 ≤ _)⟩)
    dsimp only [Pt.U, Pt.locs, Pt.cells, Pt.slots] at X58 l58 y58 z58 st58 hQ58
    subst l58 y58 z58
    obtain ⟨rfl, N58q, K58⟩ := hQ58
    have N58 := Fr.app N0 N58q
    refine Go.by' st58 ?_
    have O58 := O0.keep K58 all0
    have KC58 : Keep h0 T58.heap [] := KC0.trans K58 all0
    show Go p.tables e below Pf (T58.setTop (mkF m 42 #[.val (.int ip), .val (.int (9 : Int32)), .val (.ref u9), .val .null, .unset] [.null]))
    refine Go.by' (fun t k => (XS.astore X58.here hx rfl (hb hby at_42) rfl rfl (l' := #[.val (.int ip), .val (.int (9 : Int32)), .val (.ref u9), .val .null, .val .null]) rfl (XS.aload X58.here hx rfl (hb hby at_44) rfl rfl (XS.aloadN X58.here hx rfl (hb hby at_46) rfl rfl k)))) ?_
    show Go p.tables e below Pf (T58.setTop (mkF m 47 #[.val (.int ip), .val (.int (9 : Int32)), .val (.ref u9), .val .null, .val .null] [.null, .null]))
    refine Go.by' (fun t k => Jvm.RoadKit.acmp (g := (mkF m 47 #[.val (.int ip), .val (.int (9 : Int32)), .val (.ref u9), .val .null, .val .null] [.null, .null])) X58 hx rfl rfl rfl (pc0 := 47) (pc' := 50) (same := true) rfl (hb hby at_47) rfl (decide_eq_true rfl) (by decide) (by decide) k) ?_
    show Go p.tables e below Pf (T58.setTop (mkF m 50 #[.val (.int ip), .val (.int (9 : Int32)), .val (.ref u9), .val .null, .val .null] []))
    refine Go.by' (fun t k => (XS.iconst X58.here hx rfl (hb hby at_50) (XS.goto X58.here hx rfl (pc0 := 51) (pc' := 55) rfl (hb hby at_51) (by decide) (by decide) k))) ?_
    show Go p.tables e below Pf (T58.setTop (mkF m 55 #[.val (.int ip), .val (.int (9 : Int32)), .val (.ref u9), .val .null, .val .null] [(.int (1 : Int32))]))
    rw [hPf]
    exact Go.retI' X58 hx hret hlk (by simp) rfl (hb hby at_55) (by decide) (by decide) ⟨rfl, N58, KC58⟩
  · refine Go.castF (fun z' => mkF m 8 #[.val (.int ip), .val (.int z'), .unset, .unset, .unset] []) (hk : ((ip &&& (2147483647 : Int32)) % (12 : Int32)) = (10 : Int32)) ?_
    show Go p.tables e below Pf (s₁.setTop (mkF m 8 #[.val (.int ip), .val (.int (10 : Int32)), .unset, .unset, .unset] []))
    refine Go.by' (fun t k => (XS.iloadN X0.here hx rfl (hb hby at_8) rfl k)) ?_
    show Go p.tables e below Pf (s₁.setTop (mkF m 9 #[.val (.int ip), .val (.int (10 : Int32)), .unset, .unset, .unset] [(.int (10 : Int32))]))
    obtain ⟨_, _, ⟨T59, L59, k59, n59⟩, -, X59, ⟨Lc59, hQ59, l59, y59, z59⟩, st59⟩ := Jvm.LawKit.callS X0 hx (y := (⟨"com/example/meterline/meterline/protocol/SoapVersionOfEnvelopePinLaw", "pick", "(I)Lcom/example/meterline/meterline/protocol/WireNamespace;"⟩ : MethodName)) hown (mvT hZ hw1) (mvT hZ hw2) (mvT hZ hw3) (mvT hZ hw4) (by decide) (backOf (W := 0) (rmP10 l Z a0 hw [] u0 u1 u2 u3 u4 u5 u6 u7 u8 u9 u10 y0 y1 wV kV G  h0 n0 O0 ) hZ hw4 hw3 (by decide) (by decide)) (g := (mkF m 9 #[.val (.int ip), .val (.int (10 : Int32)), .unset, .unset, .unset] [(.int (10 : Int32))])) rfl (by rw [hml]; rfl) (argsL := [(.int (10 : Int32))]) (rest := []) (lenOf pd_1 rfl) rfl (by show 2 * 0 + _ ≤ _; exact Nat.le_of_eq rfl) (hb hby at_9) (fun _ _ => ⟨rfl, e0, (by decide : 0 + 0 ≤ _), (by decide : 0 + 0 ≤ _)⟩)
    dsimp only [Pt.U, Pt.locs, Pt.cells, Pt.slots] at X59 l59 y59 z59 st59 hQ59
    subst l59 y59 z59
    obtain ⟨rfl, rfl, e59⟩ := hQ59
    try rw [List.append_nil] at X59
    refine Go.by' st59 ?_
    show Go p.tables e below Pf (T59.setTop (mkF m 12 #[.val (.int ip), .val (.int (10 : Int32)), .unset, .unset, .unset] [(.ref u10)]))
    refine Go.by' (fun t k => (XS.astoreN X59.here hx rfl (hb hby at_12) rfl rfl (l' := #[.val (.int ip), .val (.int (10 : Int32)), .val (.ref u10), .unset, .unset]) rfl (XS.iloadN X59.here hx rfl (hb hby at_13) rfl (XS.ifYes X59.here hx rfl (pc0 := 14) (pc' := 24) rfl (hb hby at_14) rfl ((if0 _ _).trans (feq (by decide)).2) (by decide) (by decide) (XS.iloadN X59.here hx rfl (hb hby at_24) rfl (XS.iconst X59.here hx rfl (hb hby at_25) (XS.icmpYes X59.here hx rfl (pc0 := 26) (pc' := 36) rfl (hb hby at_26) rfl (feq (by decide)).2 (by decide) (by decide) k))))))) ?_
    show Go p.tables e below Pf (T59.setTop (mkF m 36 #[.val (.int ip), .val (.int (10 : Int32)), .val (.ref u10), .unset, .unset] []))
    refine Go.by' (fun t k => (XS.aconstNull X59.here hx rfl (hb hby at_36) (XS.astoreN X59.here hx rfl (hb hby at_37) rfl rfl (l' := #[.val (.int ip), .val (.int (10 : Int32)), .val (.ref u10), .val .null, .unset]) rfl (XS.aloadN X59.here hx rfl (hb hby at_38) rfl rfl k)))) ?_
    show Go p.tables e below Pf (T59.setTop (mkF m 39 #[.val (.int ip), .val (.int (10 : Int32)), .val (.ref u10), .val .null, .unset] [(.ref u10)]))
    obtain ⟨_, _, ⟨T60, L60, k60, n60⟩, -, X60, ⟨Lc60, hQ60, l60, y60, z60⟩, st60⟩ := Jvm.LawKit.callS X59 hx (y := (⟨"com/example/meterline/meterline/protocol/SoapVersion", "ofEnvelope", "(Lcom/example/meterline/meterline/protocol/WireNamespace;)Lcom/example/meterline/meterline/protocol/SoapVersion;"⟩ : MethodName)) hown (mvT hZ hw11) (mvT hZ hw12) (mvT hZ hw9) (mvT hZ hw13) (by decide) (backOf (W := 0) (rmOEx l Z a0 hw [] u0 u1 u2 u3 u4 u5 u6 u7 u8 u9 u10 y0 y1 wV kV G u10 h0 n0 O0 G.2.2.2.2.2.2.2.2.2.2.2.2.2.2.2.2.2.2.2.2.2.2.2.2.2.2.2.2.2.2.2.2.2.2.2.1 G.2.2.2.2.2.2.2.2.2.2.2.2.2.2.2.2.2.2.2.2.2.2.2.2.2.2.2.2.2.2.2.2.2.2.2.2.2.2.2.2.2.2.2.2.1) hZ hw13 hw9 (by decide) (by decide)) (g := (mkF m 39 #[.val (.int ip), .val (.int (10 : Int32)), .val (.ref u10), .val .null, .unset] [(.ref u10)])) rfl (by rw [hml]; rfl) (argsL := [(.ref u10)]) (rest := []) (lenOf pd_2 rfl) rfl (by show 2 * 0 + _ ≤ _; exact Nat.le_of_eq rfl) (hb hby at_39) (fun _ _ => ⟨rfl, e59, (by decide : 0 + 1 ≤ _), (by decide : 0 + 2 ≤ _)⟩)
    dsimp only [Pt.U, Pt.locs, Pt.cells, Pt.slots] at X60 l60 y60 z60 st60 hQ60
    subst l60 y60 z60
    obtain ⟨rfl, N60q, K60⟩ := hQ60
    have N60 := Fr.app N0 N60q
    refine Go.by' st60 ?_
    have O60 := O0.keep K60 all0
    have KC60 : Keep h0 T60.heap [] := KC0.trans K60 all0
    show Go p.tables e below Pf (T60.setTop (mkF m 42 #[.val (.int ip), .val (.int (10 : Int32)), .val (.ref u10), .val .null, .unset] [.null]))
    refine Go.by' (fun t k => (XS.astore X60.here hx rfl (hb hby at_42) rfl rfl (l' := #[.val (.int ip), .val (.int (10 : Int32)), .val (.ref u10), .val .null, .val .null]) rfl (XS.aload X60.here hx rfl (hb hby at_44) rfl rfl (XS.aloadN X60.here hx rfl (hb hby at_46) rfl rfl k)))) ?_
    show Go p.tables e below Pf (T60.setTop (mkF m 47 #[.val (.int ip), .val (.int (10 : Int32)), .val (.ref u10), .val .null, .val .null] [.null, .null]))
    refine Go.by' (fun t k => Jvm.RoadKit.acmp (g := (mkF m 47 #[.val (.int ip), .val (.int (10 : Int32)), .val (.ref u10), .val .null, .val .null] [.null, .null])) X60 hx rfl rfl rfl (pc0 := 47) (pc' := 50) (same := true) rfl (hb hby at_47) rfl (decide_eq_true rfl) (by decide) (by decide) k) ?_
    show Go p.tables e below Pf (T60.setTop (mkF m 50 #[.val (.int ip), .val (.int (10 : Int32)), .val (.ref u10), .val .null, .val .null] []))
    refine Go.by' (fun t k => (XS.iconst X60.here hx rfl (hb hby at_50) (XS.goto X60.here hx rfl (pc0 := 51) (pc' := 55) rfl (hb hby at_51) (by decide) (by decide) k))) ?_
    show Go p.tables e below Pf (T60.setTop (mkF m 55 #[.val (.int ip), .val (.int (10 : Int32)), .val (.ref u10), .val .null, .val .null] [(.int (1 : Int32))]))
    rw [hPf]
    exact Go.retI' X60 hx hret hlk (by simp) rfl (hb hby at_55) (by decide) (by decide) ⟨rfl, N60, KC60⟩
  · refine Go.castF (fun z' => mkF m 8 #[.val (.int ip), .val (.int z'), .unset, .unset, .unset] []) (hk : ((ip &&& (2147483647 : Int32)) % (12 : Int32)) = (11 : Int32)) ?_
    show Go p.tables e below Pf (s₁.setTop (mkF m 8 #[.val (.int ip), .val (.int (11 : Int32)), .unset, .unset, .unset] []))
    refine Go.by' (fun t k => (XS.iloadN X0.here hx rfl (hb hby at_8) rfl k)) ?_
    show Go p.tables e below Pf (s₁.setTop (mkF m 9 #[.val (.int ip), .val (.int (11 : Int32)), .unset, .unset, .unset] [(.int (11 : Int32))]))
    obtain ⟨_, _, ⟨T61, L61, k61, n61⟩, -, X61, ⟨Lc61, hQ61, l61, y61, z61⟩, st61⟩ := Jvm.LawKit.callS X0 hx (y := (⟨"com/example/meterline/meterline/protocol/SoapVersionOfEnvelopePinLaw", "pick", "(I)Lcom/example/meterline/meterline/protocol/WireNamespace;"⟩ : MethodName)) hown (mvT hZ hw1) (mvT hZ hw2) (mvT hZ hw3) (mvT hZ hw4) (by decide) (backOf (W := 0) (rmP11 l Z a0 hw [] u0 u1 u2 u3 u4 u5 u6 u7 u8 u9 u10 y0 y1 wV kV G  h0 n0 O0 ) hZ hw4 hw3 (by decide) (by decide)) (g := (mkF m 9 #[.val (.int ip), .val (.int (11 : Int32)), .unset, .unset, .unset] [(.int (11 : Int32))])) rfl (by rw [hml]; rfl) (argsL := [(.int (11 : Int32))]) (rest := []) (lenOf pd_1 rfl) rfl (by show 2 * 0 + _ ≤ _; exact Nat.le_of_eq rfl) (hb hby at_9) (fun _ _ => ⟨rfl, e0, (by decide : 0 + 0 ≤ _), (by decide : 0 + 0 ≤ _)⟩)
    dsimp only [Pt.U, Pt.locs, Pt.cells, Pt.slots] at X61 l61 y61 z61 st61 hQ61
    subst l61 y61 z61
    obtain ⟨rfl, rfl, e61⟩ := hQ61
    try rw [List.append_nil] at X61
    refine Go.by' st61 ?_
    show Go p.tables e below Pf (T61.setTop (mkF m 12 #[.val (.int ip), .val (.int (11 : Int32)), .unset, .unset, .unset] [.null]))
    refine Go.by' (fun t k => (XS.astoreN X61.here hx rfl (hb hby at_12) rfl rfl (l' := #[.val (.int ip), .val (.int (11 : Int32)), .val .null, .unset, .unset]) rfl (XS.iloadN X61.here hx rfl (hb hby at_13) rfl (XS.ifYes X61.here hx rfl (pc0 := 14) (pc' := 24) rfl (hb hby at_14) rfl ((if0 _ _).trans (feq (by decide)).2) (by decide) (by decide) (XS.iloadN X61.here hx rfl (hb hby at_24) rfl (XS.iconst X61.here hx rfl (hb hby at_25) (XS.icmpYes X61.here hx rfl (pc0 := 26) (pc' := 36) rfl (hb hby at_26) rfl (feq (by decide)).2 (by decide) (by decide) k))))))) ?_
    show Go p.tables e below Pf (T61.setTop (mkF m 36 #[.val (.int ip), .val (.int (11 : Int32)), .val .null, .unset, .unset] []))
    refine Go.by' (fun t k => (XS.aconstNull X61.here hx rfl (hb hby at_36) (XS.astoreN X61.here hx rfl (hb hby at_37) rfl rfl (l' := #[.val (.int ip), .val (.int (11 : Int32)), .val .null, .val .null, .unset]) rfl (XS.aloadN X61.here hx rfl (hb hby at_38) rfl rfl k)))) ?_
    show Go p.tables e below Pf (T61.setTop (mkF m 39 #[.val (.int ip), .val (.int (11 : Int32)), .val .null, .val .null, .unset] [.null]))
    obtain ⟨_, _, ⟨T62, L62, k62, n62⟩, -, X62, ⟨Lc62, hQ62, l62, y62, z62⟩, st62⟩ := Jvm.LawKit.callS X61 hx (y := (⟨"com/example/meterline/meterline/protocol/SoapVersion", "ofEnvelope", "(Lcom/example/meterline/meterline/protocol/WireNamespace;)Lcom/example/meterline/meterline/protocol/SoapVersion;"⟩ : MethodName)) hown (mvT hZ hw11) (mvT hZ hw12) (mvT hZ hw9) (mvT hZ hw13) (by decide) (backOf (W := 0) (rmOEn l Z a0 hw [] u0 u1 u2 u3 u4 u5 u6 u7 u8 u9 u10 y0 y1 wV kV G  h0 n0 O0 ) hZ hw13 hw9 (by decide) (by decide)) (g := (mkF m 39 #[.val (.int ip), .val (.int (11 : Int32)), .val .null, .val .null, .unset] [.null])) rfl (by rw [hml]; rfl) (argsL := [.null]) (rest := []) (lenOf pd_2 rfl) rfl (by show 2 * 0 + _ ≤ _; exact Nat.le_of_eq rfl) (hb hby at_39) (fun _ _ => ⟨rfl, e61, (by decide : 0 + 1 ≤ _), (by decide : 0 + 2 ≤ _)⟩)
    dsimp only [Pt.U, Pt.locs, Pt.cells, Pt.slots] at X62 l62 y62 z62 st62 hQ62
    subst l62 y62 z62
    obtain ⟨rfl, N62q, K62⟩ := hQ62
    have N62 := Fr.app N0 N62q
    refine Go.by' st62 ?_
    have O62 := O0.keep K62 all0
    have KC62 : Keep h0 T62.heap [] := KC0.trans K62 all0
    show Go p.tables e below Pf (T62.setTop (mkF m 42 #[.val (.int ip), .val (.int (11 : Int32)), .val .null, .val .null, .unset] [.null]))
    refine Go.by' (fun t k => (XS.astore X62.here hx rfl (hb hby at_42) rfl rfl (l' := #[.val (.int ip), .val (.int (11 : Int32)), .val .null, .val .null, .val .null]) rfl (XS.aload X62.here hx rfl (hb hby at_44) rfl rfl (XS.aloadN X62.here hx rfl (hb hby at_46) rfl rfl k)))) ?_
    show Go p.tables e below Pf (T62.setTop (mkF m 47 #[.val (.int ip), .val (.int (11 : Int32)), .val .null, .val .null, .val .null] [.null, .null]))
    refine Go.by' (fun t k => Jvm.RoadKit.acmp (g := (mkF m 47 #[.val (.int ip), .val (.int (11 : Int32)), .val .null, .val .null, .val .null] [.null, .null])) X62 hx rfl rfl rfl (pc0 := 47) (pc' := 50) (same := true) rfl (hb hby at_47) rfl (decide_eq_true rfl) (by decide) (by decide) k) ?_
    show Go p.tables e below Pf (T62.setTop (mkF m 50 #[.val (.int ip), .val (.int (11 : Int32)), .val .null, .val .null, .val .null] []))
    refine Go.by' (fun t k => (XS.iconst X62.here hx rfl (hb hby at_50) (XS.goto X62.here hx rfl (pc0 := 51) (pc' := 55) rfl (hb hby at_51) (by decide) (by decide) k))) ?_
    show Go p.tables e below Pf (T62.setTop (mkF m 55 #[.val (.int ip), .val (.int (11 : Int32)), .val .null, .val .null, .val .null] [(.int (1 : Int32))]))
    rw [hPf]
    exact Go.retI' X62 hx hret hlk (by simp) rfl (hb hby at_55) (by decide) (by decide) ⟨rfl, N62, KC62⟩
set_option maxRecDepth 65536 in
set_option maxHeartbeats 40000000 in
theorem comes_1 {Post : Tables → Env → Array Value → State → Outcome → State → Prop} (hpost : ∀ tb e args s v u, (limb_1_1.after args s (.returned v) u = true ∧ limb_1_2.after args s (.returned v) u = true ∧ True) → FrameEnd s (.returned v) u (Jvm.fieldLocs frame_1_writes args s ++ Jvm.arrayLocs frame_1_arrays args s ++ Jvm.staticLocs frame_1_statics s) 16 128 → Post tb e args s (.returned v) u) :
    ArmFor flags0 classFile x code maxLocals ret World_1 tables_1 room_1 Calls_1 rest_1 Pre_1 Post := by
  intro l hfl _ _ p e ha hc hk s m args below hf hA hF happ hP
  obtain ⟨hcalls, hrest, hpre⟩ := hP
  obtain ⟨-, -, -, hnamed, -, -, -, hat⟩ := (Spec.applies_iff hf).mp happ
  obtain ⟨hg, hn⟩ := and_e (Cond.before_iff.mp (show (Jvm.Cond.and given_1 narrow_1).before args s = true from hpre))
  obtain ⟨ga1, gb1⟩ := and_e hg
  obtain ⟨w0, rfl⟩ : ∃ w0 : Value, args = #[w0] := by
    have hs : args.size = 1 := by simpa [Cond.value, given_1] using ga1
    obtain ⟨L⟩ := args
    match L, hs with
    | [w0], _ => exact ⟨w0, rfl⟩
  have hw := fun d (hd : d ∈ tables_1) => atoms_spec (ws := Jvm.Cond.code x code maxLocals ret :: tables_1) hat d (List.mem_cons_of_mem _ hd)
  have hfit : Fit s := fun {y c} hc i hi => by
    obtain ⟨ha, rfl⟩ := Array.getElem?_eq_some_iff.mp hc
    have q := List.all_eq_true.mp ((Array.all_eq_true_iff_forall_mem.mp hF) _ (Array.getElem_mem ha)) i (List.mem_range.mpr hi)
    simpa [Array.getElem?_eq_getElem hi] using q
  obtain ⟨ip, ei0⟩ := is_v gb1
  obtain rfl : w0 = (.int ip) := Option.some.inj ei0
  obtain ⟨na1, nb1⟩ := and_e hn
  obtain ⟨na2, nb2⟩ := and_e nb1
  obtain ⟨na3, nb3⟩ := and_e nb2
  obtain ⟨na4, nb4⟩ := and_e nb3
  obtain ⟨na5, nb5⟩ := and_e nb4
  obtain ⟨na6, nb6⟩ := and_e nb5
  obtain ⟨na7, nb7⟩ := and_e nb6
  obtain ⟨na8, nb8⟩ := and_e nb7
  obtain ⟨na9, nb9⟩ := and_e nb8
  obtain ⟨na10, nb10⟩ := and_e nb9
  obtain ⟨na11, nb11⟩ := and_e nb10
  obtain ⟨na12, nb12⟩ := and_e nb11
  obtain ⟨na13, nb13⟩ := and_e nb12
  obtain ⟨na14, nb14⟩ := and_e nb13
  obtain ⟨na15, nb15⟩ := and_e nb14
  obtain ⟨na16, nb16⟩ := and_e nb15
  obtain ⟨na17, nb17⟩ := and_e nb16
  obtain ⟨na18, nb18⟩ := and_e nb17
  obtain ⟨na19, nb19⟩ := and_e nb18
  obtain ⟨na20, nb20⟩ := and_e nb19
  obtain ⟨na21, nb21⟩ := and_e nb20
  obtain ⟨na22, nb22⟩ := and_e nb21
  obtain ⟨na23, nb23⟩ := and_e nb22
  obtain ⟨na24, nb24⟩ := and_e nb23
  obtain ⟨na25, nb25⟩ := and_e nb24
  obtain ⟨na26, nb26⟩ := and_e nb25
  obtain ⟨na27, nb27⟩ := and_e nb26
  obtain ⟨na28, nb28⟩ := and_e nb27
  obtain ⟨na29, nb29⟩ := and_e nb28
  obtain ⟨na30, nb30⟩ := and_e nb29
  obtain ⟨u0, evu0⟩ := exa_v na1
  have Su0 := Sta.start evu0 (Or.inr ⟨(hw _ (List.mem_of_getElem? (i := 6) rfl)), (hw _ (List.mem_of_getElem? (i := 7) rfl))⟩)
  have Au0 := Exa.start evu0 na1
  have Fu0 := Fld.start ((fld_at evu0).symm.trans (eqv_i (Term.int_eval _) na11))
  obtain ⟨u1, evu1⟩ := exa_v na13
  have Su1 := Sta.start evu1 (Or.inr ⟨(hw _ (List.mem_of_getElem? (i := 6) rfl)), (hw _ (List.mem_of_getElem? (i := 34) rfl))⟩)
  have Au1 := Exa.start evu1 na13
  have Fu1 := Fld.start ((fld_at evu1).symm.trans (eqv_i (Term.int_eval _) na15))
  obtain ⟨u2, evu2⟩ := exa_v na16
  have Su2 := Sta.start evu2 (Or.inr ⟨(hw _ (List.mem_of_getElem? (i := 6) rfl)), (hw _ (List.mem_of_getElem? (i := 36) rfl))⟩)
  have Au2 := Exa.start evu2 na16
  have Fu2 := Fld.start ((fld_at evu2).symm.trans (eqv_i (Term.int_eval _) na17))
  obtain ⟨u3, evu3⟩ := exa_v na10
  have Su3 := Sta.start evu3 (Or.inr ⟨(hw _ (List.mem_of_getElem? (i := 6) rfl)), (hw _ (List.mem_of_getElem? (i := 33) rfl))⟩)
  have Au3 := Exa.start evu3 na10
  have Fu3 := Fld.start ((fld_at evu3).symm.trans (eqv_i (Term.int_eval _) na12))
  obtain ⟨u4, evu4⟩ := exa_v na20
  have Su4 := Sta.start evu4 (Or.inr ⟨(hw _ (List.mem_of_getElem? (i := 6) rfl)), (hw _ (List.mem_of_getElem? (i := 40) rfl))⟩)
  have Au4 := Exa.start evu4 na20
  have Fu4 := Fld.start ((fld_at evu4).symm.trans (eqv_i (Term.int_eval _) na21))
  obtain ⟨u5, evu5⟩ := exa_v na30
  have Su5 := Sta.start evu5 (Or.inr ⟨(hw _ (List.mem_of_getElem? (i := 6) rfl)), (hw _ (List.mem_of_getElem? (i := 52) rfl))⟩)
  have Au5 := Exa.start evu5 na30
  have Fu5 := Fld.start ((fld_at evu5).symm.trans (eqv_i (Term.int_eval _) nb30))
  obtain ⟨u6, evu6⟩ := exa_v na28
  have Su6 := Sta.start evu6 (Or.inr ⟨(hw _ (List.mem_of_getElem? (i := 6) rfl)), (hw _ (List.mem_of_getElem? (i := 50) rfl))⟩)
  have Au6 := Exa.start evu6 na28
  have Fu6 := Fld.start ((fld_at evu6).symm.trans (eqv_i (Term.int_eval _) na29))
  obtain ⟨u7, evu7⟩ := exa_v na18
  have Su7 := Sta.start evu7 (Or.inr ⟨(hw _ (List.mem_of_getElem? (i := 6) rfl)), (hw _ (List.mem_of_getElem? (i := 38) rfl))⟩)
  have Au7 := Exa.start evu7 na18
  have Fu7 := Fld.start ((fld_at evu7).symm.trans (eqv_i (Term.int_eval _) na19))
  obtain ⟨u8, evu8⟩ := exa_v na22
  have Su8 := Sta.start evu8 (Or.inr ⟨(hw _ (List.mem_of_getElem? (i := 6) rfl)), (hw _ (List.mem_of_getElem? (i := 42) rfl))⟩)
  have Au8 := Exa.start evu8 na22
  have Fu8 := Fld.start ((fld_at evu8).symm.trans (eqv_i (Term.int_eval _) na23))
  obtain ⟨u9, evu9⟩ := exa_v na26
  have Su9 := Sta.start evu9 (Or.inr ⟨(hw _ (List.mem_of_getElem? (i := 6) rfl)), (hw _ (List.mem_of_getElem? (i := 48) rfl))⟩)
  have Au9 := Exa.start evu9 na26
  have Fu9 := Fld.start ((fld_at evu9).symm.trans (eqv_i (Term.int_eval _) na27))
  obtain ⟨u10, evu10⟩ := exa_v na24
  have Su10 := Sta.start evu10 (Or.inr ⟨(hw _ (List.mem_of_getElem? (i := 6) rfl)), (hw _ (List.mem_of_getElem? (i := 46) rfl))⟩)
  have Au10 := Exa.start evu10 na24
  have Fu10 := Fld.start ((fld_at evu10).symm.trans (eqv_i (Term.int_eval _) na25))
  obtain ⟨y0, evy0⟩ := exa_v na2
  have Sy0 := Sta.start evy0 (Or.inr ⟨(hw _ (List.mem_of_getElem? (i := 9) rfl)), (hw _ (List.mem_of_getElem? (i := 10) rfl))⟩)
  have Ay0 := Exa.start evy0 na2
  obtain ⟨y1, evy1⟩ := exa_v na7
  have Sy1 := Sta.start evy1 (Or.inr ⟨(hw _ (List.mem_of_getElem? (i := 9) rfl)), (hw _ (List.mem_of_getElem? (i := 26) rfl))⟩)
  have Ay1 := Exa.start evy1 na7
  obtain ⟨wV, evV⟩ := exa_v na4
  have SV' := Sta.start evV (Or.inl (hw _ (List.mem_of_getElem? (i := 27) rfl)))
  have AV' := Exa.start evV na4
  obtain ⟨cV, ArV⟩ := Arr.start evV na3
  obtain ⟨zV, lV⟩ := own_len evV ArV (eqv_i (Term.int_eval _) na5)
  have el0 := (elem_in (own_eqr evy0 na6) evV (Term.int_eval _) ArV.1).2
  have el1 := (elem_in (own_eqr evy1 na8) evV (Term.int_eval _) ArV.1).2
  have VV' : Arv s s.heap wV cV.cls (.object "com/example/meterline/meterline/protocol/SoapVersion") (2 : Int32) [(.ref y0), (.ref y1)] Value.null := Arv.start hfit ArV zV lV (by decide) rfl ⟨el0, el1, trivial⟩
  obtain ⟨kV, hkV⟩ : ∃ k, k = cV.cls := ⟨_, rfl⟩
  rw [← hkV] at VV'
  have NS0 := Fld.start ((fld_at evy0).symm.trans (own_eqr evu0 na9))
  have NS1 := Fld.start ((fld_at evy1).symm.trans (own_eqr evu1 na14))
  have G : Gh s u0 u1 u2 u3 u4 u5 u6 u7 u8 u9 u10 y0 y1 wV kV := ⟨Su0, Au0, Su1, Au1, Su2, Au2, Su3, Au3, Su4, Au4, Su5, Au5, Su6, Au6, Su7, Au7, Su8, Au8, Su9, Au9, Su10, Au10, Sy0, Ay0, Sy1, Ay1, Fu1.ne Fu0 (by decide), Fu2.ne Fu0 (by decide), Fu3.ne Fu0 (by decide), Fu4.ne Fu0 (by decide), Fu5.ne Fu0 (by decide), Fu6.ne Fu0 (by decide), Fu7.ne Fu0 (by decide), Fu8.ne Fu0 (by decide), Fu9.ne Fu0 (by decide), Fu10.ne Fu0 (by decide), Fu2.ne Fu1 (by decide), Fu3.ne Fu1 (by decide), Fu4.ne Fu1 (by decide), Fu5.ne Fu1 (by decide), Fu6.ne Fu1 (by decide), Fu7.ne Fu1 (by decide), Fu8.ne Fu1 (by decide), Fu9.ne Fu1 (by decide), Fu10.ne Fu1 (by decide), SV', AV', VV', NS0, NS1⟩
  obtain ⟨n, o, h1, h2, h3, _, L, rfl, hQ, hq⟩ := rm0 l s _ hw tables_1 u0 u1 u2 u3 u4 u5 u6 u7 u8 u9 u10 y0 y1 wV kV G ip s.heap s.heap.size (Old.start s)  p e ha hc hk s m _ below hf ((Spec.applies_iff_loose hf).mp happ).1 ⟨rfl, State.Warmed39.refl s, rfl⟩ trivial
  obtain ⟨rfl, N, -⟩ := hQ
  refine ⟨n, _, h1, h2, h3, hpost _ _ _ _ _ _ ⟨Cond.after_iff.mpr rfl, Cond.after_iff.mpr (eq_i res_at (Term.int_eval (1)) rfl), trivial⟩ ⟨hq.1, hq.2.1, (hq.2.2.sift fun y hy => Or.inr (N y hy)).mono (by decide) (by decide)⟩⟩
theorem main_1_1 : Claimed_1_1 := comes_1 fun _ _ _ _ _ _ h hF => ⟨h.1, hF⟩
theorem main_1_2 : Claimed_1_2 := comes_1 fun _ _ _ _ _ _ h hF => ⟨h.2.1, hF⟩
end Jvm.Pilot.@@N@@
namespace Jvm.Pilot.@@N@@
open Jvm Jvm.ClassFile Sem Op Lib Jvm.Free Jvm.Stand Jvm.Pilot.@@N@@.Jvm.D
/-! MADE BY PROGRAM (witnessworld.py) out of the Statement's table words and the real class files: 14 classes; the members and pool entries that the words name. The judged class is class 1, her method 2. -/
namespace start1
open Jvm.ClassFile
def u (s : String) : CpInfo := .utf8 (stringToUtf16 s)
/-- a pool by its gaps: so many unusable entries, then the entry; so many at the end -/
def gap : Nat → List CpInfo → List CpInfo
  | 0, r => r
  | n + 1, r => .unusable :: gap n r
def poolList (es : List (Nat × CpInfo)) (last : Nat) : List CpInfo := es.foldr (fun e r => gap e.1 (e.2 :: r)) (gap last [])
def pool (es : List (Nat × CpInfo)) (last : Nat) : Array CpInfo := ⟨poolList es last⟩
def fileOf (pool : Array CpInfo) (this : Nat) (attrs : Array Attribute := #[]) (ms : Array MethodInfo := #[]) (fl : Nat := 33) (sup : Nat := 0) (ifs : Array Nat := #[]) (fds : Array FieldInfo := #[]) : ClassFile where
  minorVersion := 0
  majorVersion := 65
  constantPool := pool
  accessFlags := fl
  thisClass := this
  superClass := sup
  interfaces := ifs
  fields := fds
  methods := ms
  attributes := attrs
def plain (name : String) (sup : Option ClassId) : Class where
  name := name
  kind := .ordinary
  loader := none
  accessFlags := 33
  super := sup
  interfaces := #[]
  cf := none
  fields := #[]
  methods := #[]
  instanceTypes := #[]
  staticTypes := #[]
  resolved := #[]
  callSites := []
  init := .initialized
  statics := none
  mirror := none

def pool0 : Array CpInfo := pool [(5, u "<init>"), (0, u "()V"), (1, .class_ 10), (1, u "java/lang/Object"), (85, u "clone"), (0, u "()Ljava/lang/Object;")] 26

def k0m0 : Method := { name := "<init>", desc := "()V", sig := { parameters := [], returnType := none }, accessFlags := 1, code := none }
def k0m1 : Method := { name := "clone", desc := "()Ljava/lang/Object;", sig := { parameters := [], returnType := some (.object "java/lang/Object") }, accessFlags := 260, code := none }
/-- java/lang/Object -/
def k0 : Class := { plain "java/lang/Object" none with
  accessFlags := 33
  interfaces := #[]
  cf := some (fileOf pool0 8 #[] #[{ accessFlags := 1, nameIndex := 5, descriptorIndex := 6, attributes := #[] }, { accessFlags := 260, nameIndex := 96, descriptorIndex := 97, attributes := #[] }] 33 0 #[] #[])
  fields := #[]
  methods := #[k0m0, k0m1]
  instanceTypes := #[]
  staticTypes := #[]
  resolved := Array.replicate 124 none
  statics := none }

def pool1 : Array CpInfo := pool [(2, .class_ 4), (1, u "java/lang/Object"), (0, u "<init>"), (0, u "()V"), (0, .fieldref 8 9), (0, .class_ 10), (0, .nameAndType 11 12), (0, u "com/example/meterline/meterline/protocol/WireNamespace"), (0, u "SOAP11"), (0, u "Lcom/example/meterline/meterline/protocol/WireNamespace;"), (0, .fieldref 8 14), (0, .nameAndType 15 12), (0, u "SOAP12"), (0, .fieldref 8 17), (0, .nameAndType 18 12), (0, u "MESSAGE"), (0, .fieldref 8 20), (0, .nameAndType 21 12), (0, u "MANAGEMENT"), (0, .fieldref 8 23), (0, .nameAndType 24 12), (0, u "EVENT"), (0, .fieldref 8 26), (0, .nameAndType 27 12), (0, u "ADHOC"), (0, .fieldref 8 29), (0, .nameAndType 30 12), (0, u "CIM_USAGE_POINT"), (0, .fieldref 8 32), (0, .nameAndType 33 12), (0, u "CIM_END_DEVICE"), (0, .fieldref 8 35), (0, .nameAndType 36 12), (0, u "CIM_LINKAGE"), (0, .fieldref 8 38), (0, .nameAndType 39 12), (0, u "CIM_END_DEVICE_EVENT"), (0, .fieldref 8 41), (0, .nameAndType 42 12), (0, u "CIM_CONFIGURATION_EVENT"), (0, .integer 2147483647), (0, .methodref 45 46), (0, .class_ 47), (0, .nameAndType 48 49), (0, u "com/example/meterline/meterline/protocol/SoapVersionOfEnvelopePinLaw"), (0, u "pick"), (0, u "(I)Lcom/example/meterline/meterline/protocol/WireNamespace;"), (0, .fieldref 51 52), (0, .class_ 53), (0, .nameAndType 11 54), (0, u "com/example/meterline/meterline/protocol/SoapVersion"), (0, u "Lcom/example/meterline/meterline/protocol/SoapVersion;"), (0, .fieldref 51 56), (0, .nameAndType 15 54), (0, .methodref 51 58), (0, .nameAndType 59 60), (0, u "ofEnvelope"), (0, u "(Lcom/example/meterline/meterline/protocol/WireNamespace;)Lcom/example/meterline/meterline/protocol/SoapVersion;"), (3, u "law"), (0, u "(I)Z")] 2

def k1m0 : Method := { name := "<init>", desc := "()V", sig := { parameters := [], returnType := none }, accessFlags := 2, code := none }
def k1c1 : Code := { maxStack := 2, maxLocals := 1, code := method_2_code, exceptionTable := #[], attributes := #[] }
def k1m1 : Method := { name := "pick", desc := "(I)Lcom/example/meterline/meterline/protocol/WireNamespace;", sig := { parameters := [.int], returnType := some (.object "com/example/meterline/meterline/protocol/WireNamespace") }, accessFlags := 10, code := some k1c1 }
def k1c2 : Code := { maxStack := 2, maxLocals := 5, code := code, exceptionTable := #[], attributes := #[] }
def k1m2 : Method := { name := "law", desc := "(I)Z", sig := { parameters := [.int], returnType := some .boolean }, accessFlags := 9, code := some k1c2 }
/-- com/example/meterline/meterline/protocol/SoapVersionOfEnvelopePinLaw -/
def k1 : Class := { plain "com/example/meterline/meterline/protocol/SoapVersionOfEnvelopePinLaw" (some 0) with
  accessFlags := 49
  interfaces := #[]
  cf := some (fileOf pool1 45 #[] #[{ accessFlags := 2, nameIndex := 5, descriptorIndex := 6, attributes := #[] }, { accessFlags := 10, nameIndex := 48, descriptorIndex := 49, attributes := #[] }, { accessFlags := 9, nameIndex := 64, descriptorIndex := 65, attributes := #[] }] 49 2 #[] #[])
  fields := #[]
  methods := #[k1m0, k1m1, k1m2]
  instanceTypes := #[]
  staticTypes := #[]
  resolved := Array.replicate 68 none
  statics := none }

def pool2 : Array CpInfo := pool [(1, .class_ 2), (0, u "java/lang/constant/Constable"), (0, .class_ 4), (0, u "java/lang/Object")] 6

/-- java/lang/constant/Constable -/
def k2 : Class := { plain "java/lang/constant/Constable" (some 0) with
  accessFlags := 1537
  interfaces := #[]
  cf := some (fileOf pool2 1 #[] #[] 1537 3 #[] #[])
  fields := #[]
  methods := #[]
  instanceTypes := #[]
  staticTypes := #[]
  resolved := Array.replicate 11 none
  statics := none }

def pool3 : Array CpInfo := pool [(1, .class_ 2), (0, u "java/lang/Comparable"), (0, .class_ 4), (0, u "java/lang/Object")] 7

/-- java/lang/Comparable -/
def k3 : Class := { plain "java/lang/Comparable" (some 0) with
  accessFlags := 1537
  interfaces := #[]
  cf := some (fileOf pool3 1 #[] #[] 1537 3 #[] #[])
  fields := #[]
  methods := #[]
  instanceTypes := #[]
  staticTypes := #[]
  resolved := Array.replicate 12 none
  statics := none }

def pool4 : Array CpInfo := pool [(1, .class_ 2), (0, u "java/io/Serializable"), (0, .class_ 4), (0, u "java/lang/Object")] 2

/-- java/io/Serializable -/
def k4 : Class := { plain "java/io/Serializable" (some 0) with
  accessFlags := 1537
  interfaces := #[]
  cf := some (fileOf pool4 1 #[] #[] 1537 3 #[] #[])
  fields := #[]
  methods := #[]
  instanceTypes := #[]
  staticTypes := #[]
  resolved := Array.replicate 7 none
  statics := none }

def pool5 : Array CpInfo := pool [(2, .class_ 4), (1, u "java/lang/Enum"), (0, u "name"), (0, u "Ljava/lang/String;"), (2, u "ordinal"), (0, u "I"), (1, .class_ 14), (1, u "java/lang/Object"), (4, u "hash"), (86, .class_ 108), (1, u "java/lang/Enum$EnumDesc"), (2, .class_ 112), (0, u "java/lang/constant/Constable"), (0, .class_ 114), (0, u "java/lang/Comparable"), (0, .class_ 116), (0, u "java/io/Serializable")] 87

/-- java/lang/Enum -/
def k5 : Class := { plain "java/lang/Enum" (some 0) with
  accessFlags := 1057
  interfaces := #[2, 3, 4]
  cf := some (fileOf pool5 2 #[.nestMembers #[106]] #[] 1057 12 #[111, 113, 115] #[{ accessFlags := 18, nameIndex := 5, descriptorIndex := 6, attributes := #[] }, { accessFlags := 18, nameIndex := 9, descriptorIndex := 10, attributes := #[] }, { accessFlags := 2, nameIndex := 19, descriptorIndex := 10, attributes := #[] }])
  fields := #[{ name := "name", type := (.object "java/lang/String"), accessFlags := 18, slot := 0, constantValue := 0 }, { name := "ordinal", type := .int, accessFlags := 18, slot := 1, constantValue := 0 }, { name := "hash", type := .int, accessFlags := 2, slot := 2, constantValue := 0 }]
  methods := #[]
  instanceTypes := #[(.object "java/lang/String"), .int, .int]
  staticTypes := #[]
  resolved := Array.replicate 204 none
  statics := none }

def pool6 : Array CpInfo := pool [(1, .class_ 2), (0, u "com/example/meterline/meterline/protocol/WireNamespace"), (2, u "SOAP11"), (0, u "Lcom/example/meterline/meterline/protocol/WireNamespace;"), (2, u "SOAP12"), (2, u "MESSAGE"), (2, u "MANAGEMENT"), (2, u "EVENT"), (2, u "ADHOC"), (2, u "CIM_USAGE_POINT"), (2, u "CIM_END_DEVICE"), (2, u "CIM_LINKAGE"), (2, u "CIM_END_DEVICE_EVENT"), (2, u "CIM_CONFIGURATION_EVENT"), (2, u "$VALUES"), (0, u "[Lcom/example/meterline/meterline/protocol/WireNamespace;"), (6, .class_ 49), (1, u "java/lang/Enum"), (14, u "uri"), (0, u "Ljava/lang/String;"), (15, u "shortName"), (2, u "BY_URI"), (0, u "Ljava/util/Map;")] 84

/-- com/example/meterline/meterline/protocol/WireNamespace -/
def k6 : Class := { plain "com/example/meterline/meterline/protocol/WireNamespace" (some 5) with
  accessFlags := 16433
  interfaces := #[]
  cf := some (fileOf pool6 1 #[] #[] 16433 47 #[] #[{ accessFlags := 16409, nameIndex := 5, descriptorIndex := 6, attributes := #[] }, { accessFlags := 16409, nameIndex := 9, descriptorIndex := 6, attributes := #[] }, { accessFlags := 16409, nameIndex := 12, descriptorIndex := 6, attributes := #[] }, { accessFlags := 16409, nameIndex := 15, descriptorIndex := 6, attributes := #[] }, { accessFlags := 16409, nameIndex := 18, descriptorIndex := 6, attributes := #[] }, { accessFlags := 16409, nameIndex := 21, descriptorIndex := 6, attributes := #[] }, { accessFlags := 16409, nameIndex := 24, descriptorIndex := 6, attributes := #[] }, { accessFlags := 16409, nameIndex := 27, descriptorIndex := 6, attributes := #[] }, { accessFlags := 16409, nameIndex := 30, descriptorIndex := 6, attributes := #[] }, { accessFlags := 16409, nameIndex := 33, descriptorIndex := 6, attributes := #[] }, { accessFlags := 16409, nameIndex := 36, descriptorIndex := 6, attributes := #[] }, { accessFlags := 26, nameIndex := 84, descriptorIndex := 85, attributes := #[] }, { accessFlags := 18, nameIndex := 81, descriptorIndex := 65, attributes := #[] }, { accessFlags := 18, nameIndex := 64, descriptorIndex := 65, attributes := #[] }, { accessFlags := 4122, nameIndex := 39, descriptorIndex := 40, attributes := #[] }])
  fields := #[{ name := "SOAP11", type := (.object "com/example/meterline/meterline/protocol/WireNamespace"), accessFlags := 16409, slot := 0, constantValue := 0 }, { name := "SOAP12", type := (.object "com/example/meterline/meterline/protocol/WireNamespace"), accessFlags := 16409, slot := 1, constantValue := 0 }, { name := "MESSAGE", type := (.object "com/example/meterline/meterline/protocol/WireNamespace"), accessFlags := 16409, slot := 2, constantValue := 0 }, { name := "MANAGEMENT", type := (.object "com/example/meterline/meterline/protocol/WireNamespace"), accessFlags := 16409, slot := 3, constantValue := 0 }, { name := "EVENT", type := (.object "com/example/meterline/meterline/protocol/WireNamespace"), accessFlags := 16409, slot := 4, constantValue := 0 }, { name := "ADHOC", type := (.object "com/example/meterline/meterline/protocol/WireNamespace"), accessFlags := 16409, slot := 5, constantValue := 0 }, { name := "CIM_USAGE_POINT", type := (.object "com/example/meterline/meterline/protocol/WireNamespace"), accessFlags := 16409, slot := 6, constantValue := 0 }, { name := "CIM_END_DEVICE", type := (.object "com/example/meterline/meterline/protocol/WireNamespace"), accessFlags := 16409, slot := 7, constantValue := 0 }, { name := "CIM_LINKAGE", type := (.object "com/example/meterline/meterline/protocol/WireNamespace"), accessFlags := 16409, slot := 8, constantValue := 0 }, { name := "CIM_END_DEVICE_EVENT", type := (.object "com/example/meterline/meterline/protocol/WireNamespace"), accessFlags := 16409, slot := 9, constantValue := 0 }, { name := "CIM_CONFIGURATION_EVENT", type := (.object "com/example/meterline/meterline/protocol/WireNamespace"), accessFlags := 16409, slot := 10, constantValue := 0 }, { name := "BY_URI", type := (.object "java/util/Map"), accessFlags := 26, slot := 11, constantValue := 0 }, { name := "shortName", type := (.object "java/lang/String"), accessFlags := 18, slot := 3, constantValue := 0 }, { name := "uri", type := (.object "java/lang/String"), accessFlags := 18, slot := 4, constantValue := 0 }, { name := "$VALUES", type := (.array (.object "com/example/meterline/meterline/protocol/WireNamespace")), accessFlags := 4122, slot := 12, constantValue := 0 }]
  methods := #[]
  instanceTypes := #[(.object "java/lang/String"), .int, .int, (.object "java/lang/String"), (.object "java/lang/String")]
  staticTypes := #[(.object "com/example/meterline/meterline/protocol/WireNamespace"), (.object "com/example/meterline/meterline/protocol/WireNamespace"), (.object "com/example/meterline/meterline/protocol/WireNamespace"), (.object "com/example/meterline/meterline/protocol/WireNamespace"), (.object "com/example/meterline/meterline/protocol/WireNamespace"), (.object "com/example/meterline/meterline/protocol/WireNamespace"), (.object "com/example/meterline/meterline/protocol/WireNamespace"), (.object "com/example/meterline/meterline/protocol/WireNamespace"), (.object "com/example/meterline/meterline/protocol/WireNamespace"), (.object "com/example/meterline/meterline/protocol/WireNamespace"), (.object "com/example/meterline/meterline/protocol/WireNamespace"), (.object "java/util/Map"), (.array (.object "com/example/meterline/meterline/protocol/WireNamespace"))]
  resolved := Array.replicate 170 none
  statics := some 0 }

def pool7 : Array CpInfo := pool [(1, .class_ 2), (0, u "com/example/meterline/meterline/protocol/SoapVersion"), (2, u "SOAP11"), (0, u "Lcom/example/meterline/meterline/protocol/SoapVersion;"), (2, u "SOAP12"), (0, .fieldref 1 11), (0, .nameAndType 12 13), (0, u "$VALUES"), (0, u "[Lcom/example/meterline/meterline/protocol/SoapVersion;"), (0, .methodref 15 16), (0, .class_ 13), (0, .nameAndType 17 18), (0, u "clone"), (0, u "()Ljava/lang/Object;"), (1, .class_ 22), (1, u "java/lang/Enum"), (6, .fieldref 1 30), (0, .nameAndType 31 32), (0, u "namespace"), (0, u "Lcom/example/meterline/meterline/protocol/WireNamespace;"), (2, u "mediaType"), (0, u "Ljava/lang/String;"), (2, u "senderFaultStatus"), (0, u "I"), (2, u "wsdlName"), (2, u "wsdlBinding"), (0, .methodref 1 48), (0, .nameAndType 49 50), (0, u "values"), (0, u "()[Lcom/example/meterline/meterline/protocol/SoapVersion;"), (52, u "ofEnvelope"), (0, u "(Lcom/example/meterline/meterline/protocol/WireNamespace;)Lcom/example/meterline/meterline/protocol/SoapVersion;")] 25

def k7c0 : Code := { maxStack := 1, maxLocals := 0, code := prog_92_method_1_code, exceptionTable := #[], attributes := #[] }
def k7m0 : Method := { name := "values", desc := "()[Lcom/example/meterline/meterline/protocol/SoapVersion;", sig := { parameters := [], returnType := some (.array (.object "com/example/meterline/meterline/protocol/SoapVersion")) }, accessFlags := 9, code := some k7c0 }
def k7c1 : Code := { maxStack := 2, maxLocals := 5, code := prog_92_method_4_code, exceptionTable := #[], attributes := #[] }
def k7m1 : Method := { name := "ofEnvelope", desc := "(Lcom/example/meterline/meterline/protocol/WireNamespace;)Lcom/example/meterline/meterline/protocol/SoapVersion;", sig := { parameters := [(.object "com/example/meterline/meterline/protocol/WireNamespace")], returnType := some (.object "com/example/meterline/meterline/protocol/SoapVersion") }, accessFlags := 9, code := some k7c1 }
/-- com/example/meterline/meterline/protocol/SoapVersion -/
def k7 : Class := { plain "com/example/meterline/meterline/protocol/SoapVersion" (some 5) with
  accessFlags := 16433
  interfaces := #[]
  cf := some (fileOf pool7 1 #[] #[{ accessFlags := 9, nameIndex := 49, descriptorIndex := 50, attributes := #[] }, { accessFlags := 9, nameIndex := 103, descriptorIndex := 104, attributes := #[] }] 16433 20 #[] #[{ accessFlags := 16409, nameIndex := 5, descriptorIndex := 6, attributes := #[] }, { accessFlags := 16409, nameIndex := 9, descriptorIndex := 6, attributes := #[] }, { accessFlags := 18, nameIndex := 31, descriptorIndex := 32, attributes := #[] }, { accessFlags := 18, nameIndex := 35, descriptorIndex := 36, attributes := #[] }, { accessFlags := 18, nameIndex := 39, descriptorIndex := 40, attributes := #[] }, { accessFlags := 18, nameIndex := 43, descriptorIndex := 36, attributes := #[] }, { accessFlags := 18, nameIndex := 46, descriptorIndex := 36, attributes := #[] }, { accessFlags := 4122, nameIndex := 12, descriptorIndex := 13, attributes := #[] }])
  fields := #[{ name := "SOAP11", type := (.object "com/example/meterline/meterline/protocol/SoapVersion"), accessFlags := 16409, slot := 0, constantValue := 0 }, { name := "SOAP12", type := (.object "com/example/meterline/meterline/protocol/SoapVersion"), accessFlags := 16409, slot := 1, constantValue := 0 }, { name := "namespace", type := (.object "com/example/meterline/meterline/protocol/WireNamespace"), accessFlags := 18, slot := 3, constantValue := 0 }, { name := "mediaType", type := (.object "java/lang/String"), accessFlags := 18, slot := 4, constantValue := 0 }, { name := "senderFaultStatus", type := .int, accessFlags := 18, slot := 5, constantValue := 0 }, { name := "wsdlName", type := (.object "java/lang/String"), accessFlags := 18, slot := 6, constantValue := 0 }, { name := "wsdlBinding", type := (.object "java/lang/String"), accessFlags := 18, slot := 7, constantValue := 0 }, { name := "$VALUES", type := (.array (.object "com/example/meterline/meterline/protocol/SoapVersion")), accessFlags := 4122, slot := 2, constantValue := 0 }]
  methods := #[k7m0, k7m1]
  instanceTypes := #[(.object "java/lang/String"), .int, .int, (.object "com/example/meterline/meterline/protocol/WireNamespace"), (.object "java/lang/String"), .int, (.object "java/lang/String"), (.object "java/lang/String")]
  staticTypes := #[(.object "com/example/meterline/meterline/protocol/SoapVersion"), (.object "com/example/meterline/meterline/protocol/SoapVersion"), (.array (.object "com/example/meterline/meterline/protocol/SoapVersion"))]
  resolved := Array.replicate 130 none
  statics := some 1 }

def pool8 : Array CpInfo := pool [(1, .class_ 2), (0, u "java/lang/Cloneable"), (0, .class_ 4), (0, u "java/lang/Object")] 2

/-- java/lang/Cloneable -/
def k8 : Class := { plain "java/lang/Cloneable" (some 0) with
  accessFlags := 1537
  interfaces := #[]
  cf := some (fileOf pool8 1 #[] #[] 1537 3 #[] #[])
  fields := #[]
  methods := #[]
  instanceTypes := #[]
  staticTypes := #[]
  resolved := Array.replicate 7 none
  statics := none }

/-- the primitive byte -/
def k9 : Class := { plain "byte" none with kind := .primitive 'B', accessFlags := 0x411 }
/-- [B -/
def k10 : Class := { plain "[B" (some 0) with kind := .array 9 .byte, interfaces := #[8, 4], accessFlags := 1041 }

/-- the primitive int -/
def k11 : Class := { plain "int" none with kind := .primitive 'I', accessFlags := 0x411 }
/-- [I -/
def k12 : Class := { plain "[I" (some 0) with kind := .array 11 .int, interfaces := #[8, 4], accessFlags := 1041 }

/-- [Lcom/example/meterline/meterline/protocol/SoapVersion; -/
def k13 : Class := { plain "[Lcom/example/meterline/meterline/protocol/SoapVersion;" (some 0) with kind := .array 7 (.object "com/example/meterline/meterline/protocol/SoapVersion"), interfaces := #[8, 4], accessFlags := 1041 }

def heap : Heap := #[{ cls := 6, slots := #[.ref 3, .ref 4, .ref 5, .ref 6, .ref 7, .ref 8, .ref 9, .ref 10, .ref 11, .ref 12, .ref 13, .null, .null], vm := .statics 6 },
  { cls := 7, slots := #[.ref 14, .ref 15, .ref 2], vm := .statics 7 },
  { cls := 13, slots := #[.ref 14, .ref 15], vm := .none },
  { cls := 6, slots := #[.null, .int 0, .int 0, .null, .null], vm := .none },
  { cls := 6, slots := #[.null, .int 1, .int 0, .null, .null], vm := .none },
  { cls := 6, slots := #[.null, .int 2, .int 0, .null, .null], vm := .none },
  { cls := 6, slots := #[.null, .int 3, .int 0, .null, .null], vm := .none },
  { cls := 6, slots := #[.null, .int 4, .int 0, .null, .null], vm := .none },
  { cls := 6, slots := #[.null, .int 5, .int 0, .null, .null], vm := .none },
  { cls := 6, slots := #[.null, .int 6, .int 0, .null, .null], vm := .none },
  { cls := 6, slots := #[.null, .int 7, .int 0, .null, .null], vm := .none },
  { cls := 6, slots := #[.null, .int 8, .int 0, .null, .null], vm := .none },
  { cls := 6, slots := #[.null, .int 9, .int 0, .null, .null], vm := .none },
  { cls := 6, slots := #[.null, .int 10, .int 0, .null, .null], vm := .none },
  { cls := 7, slots := #[.null, .int 0, .int 0, .ref 3, .null, .int 0, .null, .null], vm := .none },
  { cls := 7, slots := #[.null, .int 1, .int 0, .ref 4, .null, .int 0, .null, .null], vm := .none }]
def classes : Array Class := #[k0, k1, k2, k3, k4, k5, k6, k7, k8, k9, k10, k11, k12, k13]
def interned : List (Array UInt16 × Addr) := []
def slotsUsed : Nat := 89
def theMethod : MethodId := ⟨1, 2⟩
def args0 : Array Value := #[.int 5]
def aboutOver (below : List Frame) : State where
  vm := { classes := classes, interned := interned.toArray }
  heap := heap
  slotsUsed := slotsUsed
  threads := #[{ frames := .invoking theMethod args0 :: below }]
def below0 : List Frame := [.native { method := ⟨0, 0⟩, args := #[] }]
def about1 : State := aboutOver below0
def p0 : Program := .bare "" "" ""
def e0 : Env := launch0.env 0 0 0
theorem w_frames : about1.frames = Frame.invoking theMethod args0 :: below0 := rfl
set_option maxRecDepth 65536 in
theorem w_args : argsFit about1.vm theMethod args0 = true := by decide +kernel
set_option maxRecDepth 65536 in
theorem w_heap : heapFits about1 = true := by decide +kernel
set_option maxRecDepth 65536 in
theorem w_runnable : about1.curStatus? = some .runnable := by decide +kernel
set_option maxRecDepth 65536 in
theorem w_alone : about1.alone = true := by decide +kernel
set_option maxRecDepth 65536 in
theorem w_named : about1.methodNamed? x = some theMethod := by decide +kernel
set_option maxRecDepth 65536 in
theorem w_hears : about1.hears theMethod below0 = true := by decide +kernel
set_option maxRecDepth 65536 in
theorem w_ripe : about1.ripe theMethod args0 below0 = true := by decide +kernel
theorem w_running : about1.status = .running := rfl
set_option maxRecDepth 65536 in
theorem w_room : about1.hasRoom e0.platform room_1 = true :=
  launch0.hasRoom_least _ room_1 (by decide +kernel) (by decide +kernel) (by decide +kernel) (by decide +kernel) (by decide +kernel) (by decide +kernel)
theorem allAtoms_all (ts : List Jvm.Cond) (a : Array Jvm.Value) (st : Jvm.State) : (allAtoms ts).before a st = ts.all (fun c => c.before a st) := by
  induction ts with
  | nil => rfl
  | cons c t ih =>
    show (Jvm.Cond.and c (allAtoms t)).before a st = _
    rw [Jvm.Cond.before_and, ih, List.all_cons]
def words1 : List Jvm.Cond := Jvm.Cond.code x code maxLocals ret :: tables_1
/-- a 'code' word, met by the world's own term for the bytes: nothing is compared byte by byte -/
theorem code_word {y : MethodName} {bytes : ByteArray} {mx : Nat} {rt : Option FieldType} {a : Array Value} {s : State} {m : MethodId} {meth : Method} {c : Code} (h1 : s.methodNamed? y = some m) (h2 : s.vm.method? m = some meth) (h3 : meth.code = some c) (h4 : c.code = bytes)
    (h5 : (c.maxLocals == mx && c.exceptionTable.isEmpty && decide (c.maxStack ≤ mostOperands) && decide (meth.sig.returnType = rt) && !meth.locks && decide (parseMethodDescriptor y.desc = some meth.sig)) = true) : (Jvm.Cond.code y bytes mx rt).before a s = true := by
  simp only [Bool.and_eq_true, beq_iff_eq, Bool.not_eq_true', decide_eq_true_eq] at h5
  obtain ⟨⟨⟨⟨⟨g1, g2⟩, g3⟩, g4⟩, g5⟩, g6⟩ := h5
  simp [Cond.before, Cond.holds, Cond.value, h1, h2, h3, h4, g1, g2, g3, g4, g5, g6]
def isCode : Jvm.Cond → Bool
  | .code _ _ _ _ => true
  | _ => false
theorem all_split {L : List Jvm.Cond} {P : Jvm.Cond → Bool} (h1 : L.all (fun c => isCode c || P c) = true) (h2 : ∀ c ∈ L.filter isCode, P c = true) : L.all P = true := by
  refine List.all_eq_true.mpr fun c hc => ?_
  have h := List.all_eq_true.mp h1 c hc
  rcases Bool.eq_false_or_eq_true (isCode c) with hi | hi
  · exact h2 c (List.mem_filter.mpr ⟨hc, hi⟩)
  · simpa [hi] using h
set_option maxRecDepth 65536 in
theorem w_c0 : (Jvm.Cond.code x code maxLocals ret).before args0 about1 = true := code_word (m := ⟨1, 2⟩) (meth := k1m2) (c := k1c2) (by decide +kernel) rfl rfl rfl (by decide +kernel)
set_option maxRecDepth 65536 in
theorem w_c1 : (Jvm.Cond.code ({ cls := "com/example/meterline/meterline/protocol/SoapVersionOfEnvelopePinLaw", name := "pick", desc := "(I)Lcom/example/meterline/meterline/protocol/WireNamespace;" } : Jvm.MethodName) method_2_code (1 : Nat) (Option.some (Jvm.ClassFile.FieldType.object "com/example/meterline/meterline/protocol/WireNamespace"))).before args0 about1 = true := code_word (m := ⟨1, 1⟩) (meth := k1m1) (c := k1c1) (by decide +kernel) rfl rfl rfl (by decide +kernel)
set_option maxRecDepth 65536 in
theorem w_c2 : (Jvm.Cond.code ({ cls := "com/example/meterline/meterline/protocol/SoapVersion", name := "ofEnvelope", desc := "(Lcom/example/meterline/meterline/protocol/WireNamespace;)Lcom/example/meterline/meterline/protocol/SoapVersion;" } : Jvm.MethodName) prog_92_method_4_code (5 : Nat) (Option.some (Jvm.ClassFile.FieldType.object "com/example/meterline/meterline/protocol/SoapVersion"))).before args0 about1 = true := code_word (m := ⟨7, 1⟩) (meth := k7m1) (c := k7c1) (by decide +kernel) rfl rfl rfl (by decide +kernel)
set_option maxRecDepth 65536 in
theorem w_c3 : (Jvm.Cond.code ({ cls := "com/example/meterline/meterline/protocol/SoapVersion", name := "values", desc := "()[Lcom/example/meterline/meterline/protocol/SoapVersion;" } : Jvm.MethodName) prog_92_method_1_code (0 : Nat) (Option.some (Jvm.ClassFile.FieldType.array (Jvm.ClassFile.FieldType.object "com/example/meterline/meterline/protocol/SoapVersion")))).before args0 about1 = true := code_word (m := ⟨7, 0⟩) (meth := k7m0) (c := k7c0) (by decide +kernel) rfl rfl rfl (by decide +kernel)
def codes1 : List Jvm.Cond := [Jvm.Cond.code x code maxLocals ret, Jvm.Cond.code ({ cls := "com/example/meterline/meterline/protocol/SoapVersionOfEnvelopePinLaw", name := "pick", desc := "(I)Lcom/example/meterline/meterline/protocol/WireNamespace;" } : Jvm.MethodName) method_2_code (1 : Nat) (Option.some (Jvm.ClassFile.FieldType.object "com/example/meterline/meterline/protocol/WireNamespace")), Jvm.Cond.code ({ cls := "com/example/meterline/meterline/protocol/SoapVersion", name := "ofEnvelope", desc := "(Lcom/example/meterline/meterline/protocol/WireNamespace;)Lcom/example/meterline/meterline/protocol/SoapVersion;" } : Jvm.MethodName) prog_92_method_4_code (5 : Nat) (Option.some (Jvm.ClassFile.FieldType.object "com/example/meterline/meterline/protocol/SoapVersion")), Jvm.Cond.code ({ cls := "com/example/meterline/meterline/protocol/SoapVersion", name := "values", desc := "()[Lcom/example/meterline/meterline/protocol/SoapVersion;" } : Jvm.MethodName) prog_92_method_1_code (0 : Nat) (Option.some (Jvm.ClassFile.FieldType.array (Jvm.ClassFile.FieldType.object "com/example/meterline/meterline/protocol/SoapVersion")))]
set_option maxRecDepth 65536 in
theorem codes_eq : words1.filter isCode = codes1 := rfl
theorem w_codes : ∀ c ∈ words1.filter isCode, c.before args0 about1 = true := by
  rw [codes_eq]
  intro c hc
  simp only [codes1, List.mem_cons, List.not_mem_nil, or_false] at hc
  rcases hc with rfl | rfl | rfl | rfl
  · exact w_c0
  · exact w_c1
  · exact w_c2
  · exact w_c3
set_option maxRecDepth 65536 in
theorem w_t1 : (words1.take 24).all (fun c => isCode c || c.before args0 about1) = true := by decide +kernel
set_option maxRecDepth 65536 in
theorem w_t2 : ((words1.drop 24).take 24).all (fun c => isCode c || c.before args0 about1) = true := by decide +kernel
set_option maxRecDepth 65536 in
theorem w_t3 : ((words1.drop 24).drop 24).all (fun c => isCode c || c.before args0 about1) = true := by decide +kernel
theorem w_tables : (allAtoms (Jvm.Cond.code x code maxLocals ret :: tables_1)).before args0 about1 = true := by
  rw [allAtoms_all]
  show words1.all (fun c => c.before args0 about1) = true
  refine all_split ?_ w_codes
  rw [← List.take_append_drop 24 words1, List.all_append, w_t1, ← List.take_append_drop 24 (words1.drop 24), List.all_append, w_t2, w_t3]
  rfl
set_option maxRecDepth 65536 in
theorem w_case : (Jvm.Cond.and given_1 narrow_1).before args0 about1 = true := by decide +kernel
theorem w_applies : (headSpec (Jvm.Cond.code x code maxLocals ret :: tables_1) room_1).applies x e0.platform about1 = true :=
  (Spec.applies_iff w_frames).mpr ⟨w_running, w_runnable, w_alone, w_named, w_hears, w_ripe, w_room, w_tables⟩
theorem atStart : AtStart classFile x code maxLocals ret World_1 tables_1 room_1 Calls_1 rest_1 Pre_1 launch0 p0 e0 about1 theMethod args0 below0 :=
  ⟨lists_1, trivial, launch0.admits_env _ _ _, launch0.least_env, fairChoices_fair.cas, fairChoices_fair.clock, w_frames, w_args, w_heap, w_applies, trivial, trivial, w_case⟩
end start1
theorem witness_1 : WitnessClaimed_1 := ⟨start1.p0, start1.e0, start1.about1, start1.theMethod, start1.args0, start1.below0, start1.atStart⟩
end Jvm.Pilot.@@N@@
