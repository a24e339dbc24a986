import JvmDerived
import JvmDerived.Pilot.@@N@@Statement
import JvmDerived.Pilot.@@N@@Code
set_option linter.unusedVariables false
set_option linter.unusedSimpArgs false
namespace Jvm.Pilot.@@N@@
open Jvm Jvm.ClassFile Sem Op Lib Jvm.Free Jvm.Stand Jvm.LawKit Jvm.RoadKit Bundle Jvm.Pilot.@@N@@.Jvm.D
/-! my own words: Go (the run comes from T to a state with P), a step, a return -/
def Go (tb : Tables) (e : Env) (below : List Frame) (P : State → Prop) (T : State) : Prop := ∃ u, P u ∧ ∀ t, Steps tb e below u t → Steps tb e below T t
theorem Go.by' {tb : Tables} {e : Env} {below : List Frame} {P : State → Prop} {T T' : State} (h : ∀ t, Steps tb e below T' t → Steps tb e below T t) (k : Go tb e below P T') : Go tb e below P T :=
  k.elim fun u q => ⟨u, q.1, fun t z => h t (q.2 t z)⟩
theorem Go.cast {tb : Tables} {e : Env} {below : List Frame} {P : State → Prop} {T : State} {g g' : JFrame} (q : g = g') (k : Go tb e below P (T.setTop g')) : Go tb e below P (T.setTop g) := q ▸ k
theorem Go.castF {tb : Tables} {e : Env} {below : List Frame} {P : State → Prop} {T : State} {α : Type} (F : α → JFrame) {a b : α} (q : a = b) (k : Go tb e below P (T.setTop (F b))) : Go tb e below P (T.setTop (F a)) := q ▸ k
def Fin' (s : State) (below : List Frame) (ce sl : Nat) (Q : Option Value → Heap → List Loc → Prop) (u : State) : Prop := u.status = .running ∧ ∃ o, Ended u below o ∧ ∃ v L, o = .returned v ∧ Q v u.heap L ∧ FrameEnd s o u L ce sl
theorem Go.body {tb : Tables} {e : Env} {below : List Frame} {s : State} {ce sl : Nat} {Q : Option Value → Heap → List Loc → Prop} {T : State} (h : Go tb e below (Fin' s below ce sl Q) T) :
    ∃ s₂ o, Steps tb e below T s₂ ∧ s₂.status = .running ∧ Ended s₂ below o ∧ ∃ v L, o = .returned v ∧ Q v s₂.heap L ∧ FrameEnd s o s₂ L ce sl := by
  obtain ⟨u, ⟨h1, o, h2, h3⟩, h4⟩ := h
  exact ⟨u, o, h4 u (Steps.refl _), h1, h2, h3⟩
section OwnStand
variable {p : Program} {l : Launch} {e : Env} {R : Room} {s : State} {m : MethodId} {args : Array Value} {below : List Frame} {meth : Method} {c : Code} {T : State} {locs : List Loc} {cells slots : Nat}
def Like (X : Stand p l e R s m args below meth c T locs cells slots) (T' : State) : Prop := Stand p l e R s m args below meth c T' locs cells slots
theorem Go.out (X : Stand p l e R s m args below meth c T locs cells slots) {v : Option Value} (hv : meth.sig.returnType = none → v = none) (hlocks : meth.locks = false) {g : JFrame} {ce sl : Nat} {Q : Option Value → Heap → List Loc → Prop}
    (st : ∀ fs : List Frame, (∀ (f : JFrame) (acts : List Action), f.method = m → f.locked = none → f.entered = [] → (doReturn e (T.setTop f) acts v).1 = T.setFrames fs) → Steps p.tables e below (T.setTop g) (T.setFrames fs))
    (hc : cells ≤ ce) (hs : slots ≤ sl) (q : Q v T.heap locs) : Go p.tables e below (Fin' s below ce sl Q) (T.setTop g) := by
  obtain ⟨fs, hr, hrun, hended, hW, hsame⟩ := X.leave (v := v) hv hlocks
  exact ⟨T.setFrames fs, ⟨hrun, _, hended, v, locs, rfl, q, ⟨_, rfl⟩, hW, hsame.mono hc hs⟩, fun t k => (st fs hr).trans k⟩
theorem Go.retI' (X : Stand p l e R s m args below meth c T locs cells slots) (hx : p.tables.exec = Jvm.exec) {pc : Nat} {Ls : Array Slot} {z : Int32} {rest : List Value} {t : FieldType} (hret : meth.sig.returnType = some t) (hlocks : meth.locks = false)
    (ht : t = .int ∨ t = .boolean ∨ t = .byte ∨ t = .char ∨ t = .short) (hn : narrow t (.int z) = .int z) (hd : decode c.code pc = .ok (.ireturn, 1)) {ce sl : Nat} {Q : Option Value → Heap → List Loc → Prop} (hc : cells ≤ ce) (hs : slots ≤ sl) (q : Q (some (.int z)) T.heap locs) :
    Go p.tables e below (Fin' s below ce sl Q) (T.setTop (mkF m pc Ls (.int z :: rest))) :=
  Go.out X (fun h => by rw [hret] at h; cases h) hlocks (fun _ hl => retOut X hx hret hn (Or.inl ⟨rfl, ht, z, rfl⟩) hd hl) hc hs q
theorem Go.retA' (X : Stand p l e R s m args below meth c T locs cells slots) (hx : p.tables.exec = Jvm.exec) {pc : Nat} {Ls : Array Slot} {w : Value} {rest : List Value} {t : FieldType} (hret : meth.sig.returnType = some t) (hlocks : meth.locks = false)
    (ht : t.isReference = true) (hw : w.isRef = true) (hd : decode c.code pc = .ok (.areturn, 1)) {ce sl : Nat} {Q : Option Value → Heap → List Loc → Prop} (hc : cells ≤ ce) (hs : slots ≤ sl) (q : Q (some w) T.heap locs) :
    Go p.tables e below (Fin' s below ce sl Q) (T.setTop (mkF m pc Ls (w :: rest))) :=
  Go.out X (fun h => by rw [hret] at h; cases h) hlocks (fun _ hl => retOut X hx hret (by cases t <;> first | (cases ht; done) | (rcases ref_cases hw with rfl | ⟨z, rfl⟩ <;> rfl)) (Or.inr (Or.inr (Or.inr (Or.inr ⟨rfl, ht, hw⟩)))) hd hl) hc hs q
theorem Go.retD' (X : Stand p l e R s m args below meth c T locs cells slots) (hx : p.tables.exec = Jvm.exec) {pc : Nat} {Ls : Array Slot} {z : UInt64} {rest : List Value} (hret : meth.sig.returnType = some .double) (hlocks : meth.locks = false)
    (hd : decode c.code pc = .ok (.dreturn, 1)) {ce sl : Nat} {Q : Option Value → Heap → List Loc → Prop} (hc : cells ≤ ce) (hs : slots ≤ sl) (q : Q (some (.double z)) T.heap locs) :
    Go p.tables e below (Fin' s below ce sl Q) (T.setTop (mkF m pc Ls (.double z :: rest))) :=
  Go.out X (fun h => by rw [hret] at h; cases h) hlocks (fun _ hl => retOut X hx hret rfl (Or.inr (Or.inr (Or.inl ⟨rfl, rfl, z, rfl⟩))) hd hl) hc hs q
theorem Go.retV' (X : Stand p l e R s m args below meth c T locs cells slots) (hx : p.tables.exec = Jvm.exec) {pc : Nat} {Ls : Array Slot} (hret : meth.sig.returnType = none) (hlocks : meth.locks = false)
    (hd : decode c.code pc = .ok (.return_, 1)) {ce sl : Nat} {Q : Option Value → Heap → List Loc → Prop} (hc : cells ≤ ce) (hs : slots ≤ sl) (q : Q none T.heap locs) :
    Go p.tables e below (Fin' s below ce sl Q) (T.setTop (mkF m pc Ls [])) :=
  Go.out X (fun _ => rfl) hlocks (fun _ hl => X.returnOut hx hret hd hl) hc hs q
theorem own_nil (X : Stand p l e R s m args below meth c T (locs ++ []) cells slots) : Stand p l e R s m args below meth c T locs cells slots := by rw [List.append_nil] at X; exact X
theorem own_pack {k : Nat} (X : Stand p l e R s m args below meth c T locs cells slots) (N : Fr k locs) : ∃ ll, Stand p l e R s m args below meth c T ll cells slots ∧ Fr k ll := ⟨_, X, N⟩
end OwnStand
abbrev vi (x : Int32) : Slot := .val (.int x)
abbrev vr (a : Addr) : Slot := .val (.ref a)
theorem own_nb {z : Int32} (h : z = 0 ∨ z = 1) : narrow .boolean (.int z) = .int z := by rcases h with rfl | rfl <;> rfl
theorem own_fb {z : Int32} (h : z = 0 ∨ z = 1) : fits .boolean (.int z) = true := by rcases h with rfl | rfl <;> rfl
theorem own_bb {x : Int32} : nar .byte (x.toInt8.toInt32) = x.toInt8.toInt32 := by show x.toInt8.toInt32.toInt8.toInt32 = x.toInt8.toInt32; simp
theorem own_nm (x : Int32) : nar .char (x &&& (255 : Int32)) = (x &&& (255 : Int32)) := i2c_mask x
theorem own_i2c {x : Int32} (h0 : ¬ x < (0 : Int32)) (h1 : ¬ (255 : Int32) < x) : x.toUInt32.toUInt16.toUInt32.toInt32 = x := by
  have a := c_i2c x
  have z0 : (0 : Int32).toInt = 0 := rfl
  have z1 : (255 : Int32).toInt = 255 := rfl
  rw [Int32.lt_iff_toInt_lt] at h0 h1
  rw [← Int32.toInt_inj]; omega
theorem own_nc {x : Int32} (h0 : ¬ x < (0 : Int32)) (h1 : ¬ (255 : Int32) < x) : nar .char x = x := own_i2c h0 h1
theorem own_b8 {x y : Int32} (h0 : ¬ x < (0 : Int32)) (h1 : ¬ (255 : Int32) < x) (h2 : ¬ y < (0 : Int32)) (h3 : ¬ (255 : Int32) < y) : (x.toInt8.toInt32) = (y.toInt8.toInt32) ↔ x = y := by
  have a := c_i2b x
  have b := c_i2b y
  have z0 : (0 : Int32).toInt = 0 := rfl
  have z1 : (255 : Int32).toInt = 255 := rfl
  rw [Int32.lt_iff_toInt_lt] at h0 h1 h2 h3
  rw [← Int32.toInt_inj, ← Int32.toInt_inj]; omega
theorem own_m (x : Int32) : ¬ (x &&& (255 : Int32)) < (0 : Int32) ∧ ¬ (255 : Int32) < (x &&& (255 : Int32)) := by
  have h := c_mask x 255 8 (by decide) (by decide)
  have z0 : (0 : Int32).toInt = 0 := rfl
  have z1 : (255 : Int32).toInt = 255 := rfl
  rw [Int32.lt_iff_toInt_lt, Int32.lt_iff_toInt_lt]; omega
theorem own_le {Z : State} {n0 : Nat} {h : Heap} (X : Old Z n0 h) : n0 ≤ h.size := X.1 ▸ X.2.1
theorem own_len {Z : State} {args : Array Value} {t : Term} {a : Addr} {cl : Cell} {ty : FieldType} {z : Int32} (ht : t.eval args Z none [] Z = some (.ref a)) (A : Arr Z Z.heap a cl ty) (h : (Term.length t).eval args Z none [] Z = some (.int z)) : cl.slots.size < 2 ^ 31 ∧ cl.slots.size.toInt32 = z := by
  have ha := Arr.fin (Vm.Alike.refl _) A
  by_cases q : cl.slots.size < 2 ^ 31
  · exact ⟨q, Value.int.inj (Option.some.inj ((len_f ht ha q).symm.trans h))⟩
  · exfalso; simp [Term.eval, ht, ha] at h; exact q (by omega)
theorem own_eqr {Z : State} {args : Array Value} {X F : Term} {a : Addr} (hF : F.eval args Z none [] Z = some (.ref a)) (h : (Cond.eq X F).value args Z none Z [] = some true) : X.eval args Z none [] Z = some (.ref a) := by
  obtain ⟨x, y', e1, e2, k1, k2⟩ := cmp_v (Or.inl h)
  cases hF.symm.trans e2
  have hx : x.isRef = true := k2.2
  have := gotT (eq_R e1 hF hx rfl) h
  rw [e1, this]
def Gh (Z : State) (wD : Addr) (kD : ClassId) (vcs : Int32) : Prop := (Sta Z Z.heap "java/util/ArrayList" "DEFAULTCAPACITY_EMPTY_ELEMENTDATA" "[Ljava/lang/Object;" (.ref wD)) ∧ (Exa Z Z.heap wD "[Ljava/lang/Object;") ∧ (Arv Z Z.heap wD kD (.object "java/lang/Object") (0 : Int32) [] Value.null) ∧ (Sta Z Z.heap "java/lang/String" "COMPACT_STRINGS" "Z" (.int vcs)) ∧ (¬ (vcs = (0 : Int32)))
theorem d11_0 : decode jdk_52_method_21_code 0 = .ok (.iconst 0, 1) := by decide +kernel
theorem d11_1 : decode jdk_52_method_21_code 1 = .ok (.istore 5, 2) := by decide +kernel
theorem d11_3 : decode jdk_52_method_21_code 3 = .ok (.iload 5, 2) := by decide +kernel
theorem d11_5 : decode jdk_52_method_21_code 5 = .ok (.iload 4, 2) := by decide +kernel
theorem d11_7 : decode jdk_52_method_21_code 7 = .ok (.if_icmp .ge 37, 3) := by decide +kernel
theorem d11_10 : decode jdk_52_method_21_code 10 = .ok (.aload_n 0, 1) := by decide +kernel
theorem d11_11 : decode jdk_52_method_21_code 11 = .ok (.iload_n 1, 1) := by decide +kernel
theorem d11_12 : decode jdk_52_method_21_code 12 = .ok (.caload, 1) := by decide +kernel
theorem d11_13 : decode jdk_52_method_21_code 13 = .ok (.istore 6, 2) := by decide +kernel
theorem d11_15 : decode jdk_52_method_21_code 15 = .ok (.iload 6, 2) := by decide +kernel
theorem d11_17 : decode jdk_52_method_21_code 17 = .ok (.sipush 255, 3) := by decide +kernel
theorem d11_20 : decode jdk_52_method_21_code 20 = .ok (.if_icmp .le 6, 3) := by decide +kernel
theorem d11_26 : decode jdk_52_method_21_code 26 = .ok (.aload_n 2, 1) := by decide +kernel
theorem d11_27 : decode jdk_52_method_21_code 27 = .ok (.iload_n 3, 1) := by decide +kernel
theorem d11_28 : decode jdk_52_method_21_code 28 = .ok (.iload 6, 2) := by decide +kernel
theorem d11_30 : decode jdk_52_method_21_code 30 = .ok (.i2b, 1) := by decide +kernel
theorem d11_31 : decode jdk_52_method_21_code 31 = .ok (.bastore, 1) := by decide +kernel
theorem d11_32 : decode jdk_52_method_21_code 32 = .ok (.iinc 1 1, 3) := by decide +kernel
theorem d11_35 : decode jdk_52_method_21_code 35 = .ok (.iinc 3 1, 3) := by decide +kernel
theorem d11_38 : decode jdk_52_method_21_code 38 = .ok (.iinc 5 1, 3) := by decide +kernel
theorem d11_41 : decode jdk_52_method_21_code 41 = .ok (.goto (-38), 3) := by decide +kernel
theorem d11_44 : decode jdk_52_method_21_code 44 = .ok (.iload 4, 2) := by decide +kernel
theorem d11_46 : decode jdk_52_method_21_code 46 = .ok (.ireturn, 1) := by decide +kernel
theorem pn_11 : plainName "java/lang/StringUTF16" = true := by first | (simp [plainName, overriddenIn]; done) | decide +kernel
set_option maxHeartbeats 4000000 in
theorem ef_rmC5_1 (m : MethodId) {ca : Addr} {ba : Addr} : entryFrame m #[(.ref ca), (.int (0 : Int32)), (.ref ba), (.int (0 : Int32)), (.int (1 : Int32))] 7 = mkF m 0 #[vr ca, vi (0 : Int32), vr ba, vi (0 : Int32), vi (1 : Int32), .unset, .unset] [] := by first | (simp [entryFrame, mkF, argsToLocals, Value.category]; done) | rfl
def QrmC5_1 (Z : State) (wD : Addr) (kD : ClassId) (vcs : Int32) (ca : Addr) (ba : Addr) (kc : ClassId) (kb : ClassId) (c0 : Int32) (h0 : Heap) (n0 : Nat) (v : Option Value) (h : Heap) (L : List Loc) : Prop := (v = some (.int (1 : Int32))) ∧ (Fr n0 L) ∧ (Keep h0 h [ba]) ∧ (Arv Z h ba kb .byte (1 : Int32) [(.int (c0.toInt8.toInt32))] (.int (0 : Int32)))
set_option maxRecDepth 65536 in
set_option maxHeartbeats 40000000 in
theorem rmC5_1 (l : Launch) (Z : State) (a0 : Array Value) (hw : ∀ d ∈ tables_1, d.before a0 Z = true) (ws : List Jvm.Cond) (wD : Addr) (kD : ClassId) (vcs : Int32) (G : Gh Z wD kD vcs) (ca : Addr) (ba : Addr) (kc : ClassId) (kb : ClassId) (c0 : Int32) (h0 : Heap) (n0 : Nat) (O0 : Old Z n0 h0) (VC : Arv Z h0 ca kc .char (1 : Int32) [(.int c0)] (.int (0 : Int32))) (VB : Arv Z h0 ba kb .byte (1 : Int32) [(.int (0 : Int32))] (.int (0 : Int32))) (g_ba : n0 ≤ ba) (hne : ca ≠ ba) (hb0 : ¬ ((255 : Int32) < c0)) :
    MetFree l (⟨"java/lang/StringUTF16", "compress", "([CI[BII)I"⟩ : MethodName) (head1 (Jvm.Cond.code (⟨"java/lang/StringUTF16", "compress", "([CI[BII)I"⟩ : MethodName) jdk_52_method_21_code 7 (some .int) :: ws) ({ frames := 0, cells := 0, slots := 0, locals := 0 } : Room)) (fun aa' UU' => aa' = #[(.ref ca), (.int (0 : Int32)), (.ref ba), (.int (0 : Int32)), (.int (1 : Int32))] ∧ Z.Warmed39 UU'.vm ∧ UU'.heap = h0) (fun _ _ _ _ _ => True) (fun _ UU' oo' VV' => ∃ v' L', oo' = .returned v' ∧ QrmC5_1 Z wD kD vcs ca ba kc kb c0 h0 n0 v' VV'.heap L' ∧ FrameEnd UU' oo' VV' L' ({ frames := 0, cells := 0, slots := 0, locals := 0 } : Room).cells ({ frames := 0, cells := 0, slots := 0, locals := 0 } : Room).slots) := by
  refine MetFree.of_bodySF (plainFor_of_name pn_11) hisR ?_
  intro p e s m args below meth c s₁ Bd hml0 hP hK
  obtain ⟨rfl, hZ, hh⟩ := hP
  have hx := Bd.exec
  have hby := Bd.bytes
  have hlk := Bd.notSynchronized
  have hml : c.maxLocals = 7 := hml0
  have hown : s.vm.findClass "java/lang/StringUTF16" = some m.cls := findClass_of_methodNamed Bd.named
  have hnm := (name_of_methodNamed Bd.named Bd.method).1
  have hret := Bd.returns
  have X0 : Stand p l e ({ frames := 0, cells := 0, slots := 0, locals := 0 } : Room) s m #[(.ref ca), (.int (0 : Int32)), (.ref ba), (.int (0 : Int32)), (.int (1 : Int32))] below meth c s₁ [] 0 0 := Stand.of_body Bd
  have e0 : s₁.heap = h0 := by rw [← hh, Bd.state]; rfl
  have N0 := Fr.nil n0
  have KC0 : Keep h0 h0 [ba] := Keep.refl _ _
  refine Go.body ?_
  obtain ⟨Pf, hPf⟩ : ∃ P, P = Fin' s below ({ frames := 0, cells := 0, slots := 0, locals := 0 } : Room).cells ({ frames := 0, cells := 0, slots := 0, locals := 0 } : Room).slots (QrmC5_1 Z wD kD vcs ca ba kc kb c0 h0 n0) := ⟨_, rfl⟩
  rw [← hPf]
  refine Go.cast (ef_rmC5_1 m) ?_
  show Go p.tables e below Pf (s₁.setTop (mkF m 0 #[vr ca, vi (0 : Int32), vr ba, vi (0 : Int32), vi (1 : Int32), .unset, .unset] []))
  refine Go.by' (fun t k => (XS.iconst X0.here hx rfl (hb hby d11_0) (XS.istore X0.here hx rfl (hb hby d11_1) rfl (l' := #[vr ca, vi (0 : Int32), vr ba, vi (0 : Int32), vi (1 : Int32), vi (0 : Int32), .unset]) rfl (XS.iload X0.here hx rfl (hb hby d11_3) rfl (XS.iload X0.here hx rfl (hb hby d11_5) rfl (XS.icmpNo X0.here hx rfl (hb hby d11_7) rfl (tlt (by decide)).2.1 (XS.aloadN X0.here hx rfl (hb hby d11_10) rfl rfl (XS.iloadN X0.here hx rfl (hb hby d11_11) rfl k)))))))) ?_
  obtain ⟨cl1, Ar1, q1, S1, P1, H1, G1⟩ := (id VC)
  have hin1 : ¬ ((0 : Int32) < 0 ∨ cl1.slots.size ≤ ((0 : Int32)).toNatClampNeg) := inb_of S1 ⟨by decide, by decide⟩
  show Go p.tables e below Pf (s₁.setTop (mkF m 12 #[vr ca, vi (0 : Int32), vr ba, vi (0 : Int32), vi (1 : Int32), vi (0 : Int32), .unset] [(.int (0 : Int32)), (.ref ca)]))
  refine Go.by' (fun t k => (X0.caload hx (j := (0 : Int32)) (v := (.int c0)) (by rw [e0]; exact Ar1.1) (State.isArrayOf_alike hZ.alike Ar1.2.1) Ar1.2.2 hin1 (H1.at hin1 rfl) (g := (mkF m 12 #[vr ca, vi (0 : Int32), vr ba, vi (0 : Int32), vi (1 : Int32), vi (0 : Int32), .unset] [(.int (0 : Int32)), (.ref ca)])) rfl rfl (hb hby d11_12) t (XS.istore X0.here hx rfl (hb hby d11_13) rfl (l' := #[vr ca, vi (0 : Int32), vr ba, vi (0 : Int32), vi (1 : Int32), vi (0 : Int32), vi c0]) rfl (XS.iload X0.here hx rfl (hb hby d11_15) rfl (XS.sipush X0.here hx rfl (hb hby d11_17) (XS.icmpYes X0.here hx rfl (pc0 := 20) (pc' := 26) rfl (hb hby d11_20) rfl (flt hb0).2.2.2 (by decide) (by decide) (XS.aloadN X0.here hx rfl (hb hby d11_26) rfl rfl (XS.iloadN X0.here hx rfl (hb hby d11_27) rfl (XS.iload X0.here hx rfl (hb hby d11_28) rfl k))))))))) ?_
  show Go p.tables e below Pf (s₁.setTop (mkF m 30 #[vr ca, vi (0 : Int32), vr ba, vi (0 : Int32), vi (1 : Int32), vi (0 : Int32), vi c0] [(.int c0), (.int (0 : Int32)), (.ref ba)]))
  refine Go.by' (fun t k => (XS.i2b X0.here hx rfl (hb hby d11_30) rfl k)) ?_
  obtain ⟨cl2, Ar2, q2, S2, P2, H2, G2⟩ := (id VB)
  have hin2 : ¬ ((0 : Int32) < 0 ∨ cl2.slots.size ≤ ((0 : Int32)).toNatClampNeg) := inb_of S2 ⟨by decide, by decide⟩
  obtain ⟨T3, h3, X3, e3, W3, st3⟩ := stB X0 hx hZ e0 Ar2 (j := (0 : Int32)) hin2 (g := (mkF m 31 #[vr ca, vi (0 : Int32), vr ba, vi (0 : Int32), vi (1 : Int32), vi (0 : Int32), vi c0] [(.int (c0.toInt8.toInt32)), (.int (0 : Int32)), (.ref ba)])) rfl rfl (hb hby d11_31)
  refine Go.by' st3 ?_
  rw [own_bb] at W3
  have V3 : Arv Z h3 ba kb .byte (1 : Int32) [(.int (c0.toInt8.toInt32))] (Value.int (0 : Int32)) := Arv.set Ar2 q2 S2 P2 H2 G2 (fits_nar_byte _) W3 0 rfl (Nat.le_of_ble_eq_true rfl)
  have N3 := Fr.snoc X3 N0 g_ba
  obtain ⟨lc3, X3, N3⟩ := own_pack X3 N3
  have O3 := O0.wr W3 g_ba
  have KC3 : Keep h0 h3 [ba] := KC0.wr W3 (Or.inl (List.mem_of_getElem? (i := 0) rfl))
  show Go p.tables e below Pf (T3.setTop (mkF m 32 #[vr ca, vi (0 : Int32), vr ba, vi (0 : Int32), vi (1 : Int32), vi (0 : Int32), vi c0] []))
  refine Go.by' (fun t k => (XS.iinc X3.here hx rfl (hb hby d11_32) rfl (l' := #[vr ca, vi ((0 : Int32) + (1 : Int32)), vr ba, vi (0 : Int32), vi (1 : Int32), vi (0 : Int32), vi c0]) rfl k)) ?_
  show Go p.tables e below Pf (T3.setTop (mkF m 35 #[vr ca, vi ((0 : Int32) + (1 : Int32)), vr ba, vi (0 : Int32), vi (1 : Int32), vi (0 : Int32), vi c0] []))
  refine Go.castF (a := ((0 : Int32) + (1 : Int32))) (b := (1 : Int32)) (fun z' : Int32 => mkF m 35 #[vr ca, vi z', vr ba, vi (0 : Int32), vi (1 : Int32), vi (0 : Int32), vi c0] []) (by decide) ?_
  show Go p.tables e below Pf (T3.setTop (mkF m 35 #[vr ca, vi (1 : Int32), vr ba, vi (0 : Int32), vi (1 : Int32), vi (0 : Int32), vi c0] []))
  refine Go.by' (fun t k => (XS.iinc X3.here hx rfl (hb hby d11_35) rfl (l' := #[vr ca, vi (1 : Int32), vr ba, vi ((0 : Int32) + (1 : Int32)), vi (1 : Int32), vi (0 : Int32), vi c0]) rfl k)) ?_
  show Go p.tables e below Pf (T3.setTop (mkF m 38 #[vr ca, vi (1 : Int32), vr ba, vi ((0 : Int32) + (1 : Int32)), vi (1 : Int32), vi (0 : Int32), vi c0] []))
  refine Go.castF (a := ((0 : Int32) + (1 : Int32))) (b := (1 : Int32)) (fun z' : Int32 => mkF m 38 #[vr ca, vi (1 : Int32), vr ba, vi z', vi (1 : Int32), vi (0 : Int32), vi c0] []) (by decide) ?_
  show Go p.tables e below Pf (T3.setTop (mkF m 38 #[vr ca, vi (1 : Int32), vr ba, vi (1 : Int32), vi (1 : Int32), vi (0 : Int32), vi c0] []))
  refine Go.by' (fun t k => (XS.iinc X3.here hx rfl (hb hby d11_38) rfl (l' := #[vr ca, vi (1 : Int32), vr ba, vi (1 : Int32), vi (1 : Int32), vi ((0 : Int32) + (1 : Int32)), vi c0]) rfl k)) ?_
  show Go p.tables e below Pf (T3.setTop (mkF m 41 #[vr ca, vi (1 : Int32), vr ba, vi (1 : Int32), vi (1 : Int32), vi ((0 : Int32) + (1 : Int32)), vi c0] []))
  refine Go.castF (a := ((0 : Int32) + (1 : Int32))) (b := (1 : Int32)) (fun z' : Int32 => mkF m 41 #[vr ca, vi (1 : Int32), vr ba, vi (1 : Int32), vi (1 : Int32), vi z', vi c0] []) (by decide) ?_
  show Go p.tables e below Pf (T3.setTop (mkF m 41 #[vr ca, vi (1 : Int32), vr ba, vi (1 : Int32), vi (1 : Int32), vi (1 : Int32), vi c0] []))
  refine Go.by' (fun t k => (XS.goto X3.here hx rfl (pc0 := 41) (pc' := 3) rfl (hb hby d11_41) (by decide) (by decide) (XS.iload X3.here hx rfl (hb hby d11_3) rfl (XS.iload X3.here hx rfl (hb hby d11_5) rfl (XS.icmpYes X3.here hx rfl (pc0 := 7) (pc' := 44) rfl (hb hby d11_7) rfl (flt (by decide)).2.1 (by decide) (by decide) (XS.iload X3.here hx rfl (hb hby d11_44) rfl k)))))) ?_
  show Go p.tables e below Pf (T3.setTop (mkF m 46 #[vr ca, vi (1 : Int32), vr ba, vi (1 : Int32), vi (1 : Int32), vi (1 : Int32), vi c0] [(.int (1 : Int32))]))
  rw [hPf]
  exact Go.retI' X3 hx hret hlk (by simp) rfl (hb hby d11_46) (by decide) (by decide) ⟨rfl, N3, (by rw [e3]; exact KC3), (by rw [e3]; exact V3)⟩
theorem d10_0 : decode jdk_52_method_16_code 0 = .ok (.iload_n 2, 1) := by decide +kernel
theorem d10_1 : decode jdk_52_method_16_code 1 = .ok (.newarray .byte, 2) := by decide +kernel
theorem d10_3 : decode jdk_52_method_16_code 3 = .ok (.astore_n 3, 1) := by decide +kernel
theorem d10_4 : decode jdk_52_method_16_code 4 = .ok (.aload_n 0, 1) := by decide +kernel
theorem d10_5 : decode jdk_52_method_16_code 5 = .ok (.iload_n 1, 1) := by decide +kernel
theorem d10_6 : decode jdk_52_method_16_code 6 = .ok (.aload_n 3, 1) := by decide +kernel
theorem d10_7 : decode jdk_52_method_16_code 7 = .ok (.iconst 0, 1) := by decide +kernel
theorem d10_8 : decode jdk_52_method_16_code 8 = .ok (.iload_n 2, 1) := by decide +kernel
theorem d10_9 : decode jdk_52_method_16_code 9 = .ok (.invokestatic 115, 3) := by decide +kernel
theorem pd_0 : parseMethodDescriptor "([CI[BII)I" = some ⟨[(.array .char), .int, (.array .byte), .int, .int], some .int⟩ := by decide +kernel
theorem d10_12 : decode jdk_52_method_16_code 12 = .ok (.istore 4, 2) := by decide +kernel
theorem d10_14 : decode jdk_52_method_16_code 14 = .ok (.iload 4, 2) := by decide +kernel
theorem d10_16 : decode jdk_52_method_16_code 16 = .ok (.iload_n 2, 1) := by decide +kernel
theorem d10_17 : decode jdk_52_method_16_code 17 = .ok (.if_icmp .eq 40, 3) := by decide +kernel
theorem d10_57 : decode jdk_52_method_16_code 57 = .ok (.aload_n 3, 1) := by decide +kernel
theorem d10_58 : decode jdk_52_method_16_code 58 = .ok (.areturn, 1) := by decide +kernel
theorem pn_10 : plainName "java/lang/StringUTF16" = true := by first | (simp [plainName, overriddenIn]; done) | decide +kernel
set_option maxHeartbeats 4000000 in
theorem ef_rmC3_1 (m : MethodId) {ca : Addr} : entryFrame m #[(.ref ca), (.int (0 : Int32)), (.int (1 : Int32))] 6 = mkF m 0 #[vr ca, vi (0 : Int32), vi (1 : Int32), .unset, .unset, .unset] [] := by first | (simp [entryFrame, mkF, argsToLocals, Value.category]; done) | rfl
def QrmC3_1 (Z : State) (wD : Addr) (kD : ClassId) (vcs : Int32) (ca : Addr) (kc : ClassId) (c0 : Int32) (h0 : Heap) (n0 : Nat) (v : Option Value) (h : Heap) (L : List Loc) : Prop := ∃ (rb : Addr) (kb : ClassId), (v = some (.ref rb)) ∧ (Fr n0 L) ∧ (Keep h0 h []) ∧ (Arv Z h rb kb .byte (1 : Int32) [(.int (c0.toInt8.toInt32))] (.int (0 : Int32))) ∧ (h0.size ≤ rb)
set_option maxRecDepth 65536 in
set_option maxHeartbeats 40000000 in
theorem rmC3_1 (l : Launch) (Z : State) (a0 : Array Value) (hw : ∀ d ∈ tables_1, d.before a0 Z = true) (ws : List Jvm.Cond) (wD : Addr) (kD : ClassId) (vcs : Int32) (G : Gh Z wD kD vcs) (ca : Addr) (kc : ClassId) (c0 : Int32) (h0 : Heap) (n0 : Nat) (O0 : Old Z n0 h0) (VC : Arv Z h0 ca kc .char (1 : Int32) [(.int c0)] (.int (0 : Int32))) (hb0 : ¬ ((255 : Int32) < c0)) :
    MetFree l (⟨"java/lang/StringUTF16", "compress", "([CII)[B"⟩ : MethodName) (head1 (Jvm.Cond.code (⟨"java/lang/StringUTF16", "compress", "([CII)[B"⟩ : MethodName) jdk_52_method_16_code 6 (some (.array .byte)) :: ws) ({ frames := 1, cells := 1, slots := 1, locals := 18 } : Room)) (fun aa' UU' => aa' = #[(.ref ca), (.int (0 : Int32)), (.int (1 : Int32))] ∧ Z.Warmed39 UU'.vm ∧ UU'.heap = h0) (fun _ _ _ _ _ => True) (fun _ UU' oo' VV' => ∃ v' L', oo' = .returned v' ∧ QrmC3_1 Z wD kD vcs ca kc c0 h0 n0 v' VV'.heap L' ∧ FrameEnd UU' oo' VV' L' ({ frames := 1, cells := 1, slots := 1, locals := 18 } : Room).cells ({ frames := 1, cells := 1, slots := 1, locals := 18 } : Room).slots) := by
  refine MetFree.of_bodySF (plainFor_of_name pn_10) hisR ?_
  intro p e s m args below meth c s₁ Bd hml0 hP hK
  obtain ⟨rfl, hZ, hh⟩ := hP
  have hx := Bd.exec
  have hby := Bd.bytes
  have hlk := Bd.notSynchronized
  have hml : c.maxLocals = 6 := hml0
  have hown : s.vm.findClass "java/lang/StringUTF16" = some m.cls := findClass_of_methodNamed Bd.named
  have hnm := (name_of_methodNamed Bd.named Bd.method).1
  have hret := Bd.returns
  have X0 : Stand p l e ({ frames := 1, cells := 1, slots := 1, locals := 18 } : Room) s m #[(.ref ca), (.int (0 : Int32)), (.int (1 : Int32))] below meth c s₁ [] 0 0 := Stand.of_body Bd
  have e0 : s₁.heap = h0 := by rw [← hh, Bd.state]; rfl
  have N0 := Fr.nil n0
  have KC0 : Keep h0 h0 [] := Keep.refl _ _
  refine Go.body ?_
  obtain ⟨Pf, hPf⟩ : ∃ P, P = Fin' s below ({ frames := 1, cells := 1, slots := 1, locals := 18 } : Room).cells ({ frames := 1, cells := 1, slots := 1, locals := 18 } : Room).slots (QrmC3_1 Z wD kD vcs ca kc c0 h0 n0) := ⟨_, rfl⟩
  rw [← hPf]
  refine Go.cast (ef_rmC3_1 m) ?_
  have hw62 := (hw _ (List.mem_of_getElem? (i := 62) rfl))
  have hw64 := (hw _ (List.mem_of_getElem? (i := 64) rfl))
  have hw65 := (hw _ (List.mem_of_getElem? (i := 65) rfl))
  have hw66 := (hw _ (List.mem_of_getElem? (i := 66) rfl))
  have hw67 := (hw _ (List.mem_of_getElem? (i := 67) rfl))
  show Go p.tables e below Pf (s₁.setTop (mkF m 0 #[vr ca, vi (0 : Int32), vi (1 : Int32), .unset, .unset, .unset] []))
  refine Go.by' (fun t k => (XS.iloadN X0.here hx rfl (hb hby d10_0) rfl k)) ?_
  obtain ⟨T4, h4, k4, X4, e4, E4, A4, st4⟩ := newP (aty := .byte) X0 hx hZ hw64 e0 (g := (mkF m 1 #[vr ca, vi (0 : Int32), vi (1 : Int32), .unset, .unset, .unset] [(.int (1 : Int32))])) rfl (hb hby d10_1) rfl (by decide) (cap := 1) (by decide) (by decide) (by decide) (by decide)
  obtain ⟨b4, g4⟩ : ∃ z, z = h0.size := ⟨_, rfl⟩
  rw [← g4] at A4 st4
  refine Go.by' st4 ?_
  have g_b4 : n0 ≤ b4 := Nat.le_trans (own_le O0) (Nat.le_of_eq g4.symm)
  have sz_b4 : h0.size ≤ b4 := Nat.le_trans KC0.1 (Nat.le_of_eq g4.symm)
  have O4 := O0.ext E4
  have KC4 : Keep h0 h4 [] := KC0.ext E4
  have V4 : Arv Z h4 b4 k4 .byte (1 : Int32) [(.int (0 : Int32))] (Value.int (0 : Int32)) := (Arv.new A4 (by decide)).pad (pad_rep [] (Value.int (0 : Int32)) 1)
  show Go p.tables e below Pf (T4.setTop (mkF m 3 #[vr ca, vi (0 : Int32), vi (1 : Int32), .unset, .unset, .unset] [(.ref b4)]))
  refine Go.by' (fun t k => (XS.astoreN X4.here hx rfl (hb hby d10_3) rfl rfl (l' := #[vr ca, vi (0 : Int32), vi (1 : Int32), vr b4, .unset, .unset]) rfl (XS.aloadN X4.here hx rfl (hb hby d10_4) rfl rfl (XS.iloadN X4.here hx rfl (hb hby d10_5) rfl (XS.aloadN X4.here hx rfl (hb hby d10_6) rfl rfl (XS.iconst X4.here hx rfl (hb hby d10_7) (XS.iloadN X4.here hx rfl (hb hby d10_8) rfl k))))))) ?_
  obtain ⟨_, _, ⟨T5, L5, k5, n5⟩, -, X5, ⟨Lc5, hQ5, l5, y5, z5⟩, st5⟩ := Jvm.LawKit.callS X4 hx (y := (⟨"java/lang/StringUTF16", "compress", "([CI[BII)I"⟩ : MethodName)) hown (mvT hZ hw65) (mvT hZ hw66) (mvT hZ hw62) (mvT hZ hw67) (by decide) (backOf (W := 0) (rmC5_1 l Z a0 hw [] wD kD vcs G ca b4 kc k4 c0 h4 n0 O4 (VC.ext E4) V4 g_b4 (Nat.ne_of_lt (Nat.lt_of_lt_of_le VC.lt (Nat.le_of_eq g4.symm))) hb0) hZ hw67 hw62 (by decide) (by decide)) (g := (mkF m 9 #[vr ca, vi (0 : Int32), vi (1 : Int32), vr b4, .unset, .unset] [(.int (1 : Int32)), (.int (0 : Int32)), (.ref b4), (.int (0 : Int32)), (.ref ca)])) rfl (by rw [hml]; rfl) (argsL := [(.ref ca), (.int (0 : Int32)), (.ref b4), (.int (0 : Int32)), (.int (1 : Int32))]) (rest := []) (lenOf pd_0 rfl) rfl (by show 2 * 0 + _ ≤ _; exact Nat.le_of_eq rfl) (hb hby d10_9) (fun _ _ => ⟨rfl, e4, (by decide : 1 + 0 ≤ _), (by decide : 1 + 0 ≤ _)⟩)
  dsimp only [Pt.U, Pt.locs, Pt.cells, Pt.slots] at X5 l5 y5 z5 st5 hQ5
  subst l5 y5 z5
  obtain ⟨rfl, N5q, K5, f5_0⟩ := hQ5
  have N5 := Fr.app N0 N5q
  obtain ⟨lc5, X5, N5⟩ := own_pack X5 N5
  refine Go.by' st5 ?_
  have O5 := O4.keep K5 (allS g_b4 all0)
  have KC5 : Keep h0 T5.heap [] := KC4.trans K5 (allS (Or.inr sz_b4) all0)
  show Go p.tables e below Pf (T5.setTop (mkF m 12 #[vr ca, vi (0 : Int32), vi (1 : Int32), vr b4, .unset, .unset] [(.int (1 : Int32))]))
  refine Go.by' (fun t k => (XS.istore X5.here hx rfl (hb hby d10_12) rfl (l' := #[vr ca, vi (0 : Int32), vi (1 : Int32), vr b4, vi (1 : Int32), .unset]) rfl (XS.iload X5.here hx rfl (hb hby d10_14) rfl (XS.iloadN X5.here hx rfl (hb hby d10_16) rfl (XS.icmpYes X5.here hx rfl (pc0 := 17) (pc' := 57) rfl (hb hby d10_17) rfl (teq (by decide)).1 (by decide) (by decide) (XS.aloadN X5.here hx rfl (hb hby d10_57) rfl rfl k)))))) ?_
  show Go p.tables e below Pf (T5.setTop (mkF m 58 #[vr ca, vi (0 : Int32), vi (1 : Int32), vr b4, vi (1 : Int32), .unset] [(.ref b4)]))
  rw [hPf]
  exact Go.retA' X5 hx hret hlk rfl rfl (hb hby d10_58) (by decide) (by decide) ⟨b4, k4, rfl, N5, KC5, f5_0, sz_b4⟩
theorem d12_0 : decode jdk_52_method_15_code 0 = .ok (.iload_n 1, 1) := by decide +kernel
theorem d12_1 : decode jdk_52_method_15_code 1 = .ok (.aload_n 0, 1) := by decide +kernel
theorem d12_2 : decode jdk_52_method_15_code 2 = .ok (.arraylength, 1) := by decide +kernel
theorem d12_3 : decode jdk_52_method_15_code 3 = .ok (.isub, 1) := by decide +kernel
theorem d12_4 : decode jdk_52_method_15_code 4 = .ok (.bipush 31, 2) := by decide +kernel
theorem d12_6 : decode jdk_52_method_15_code 6 = .ok (.iushr, 1) := by decide +kernel
theorem d12_7 : decode jdk_52_method_15_code 7 = .ok (.i2b, 1) := by decide +kernel
theorem d12_8 : decode jdk_52_method_15_code 8 = .ok (.ireturn, 1) := by decide +kernel
theorem pn_12 : plainName "java/lang/StringUTF16" = true := by first | (simp [plainName, overriddenIn]; done) | decide +kernel
set_option maxHeartbeats 4000000 in
theorem ef_rmCL_1 (m : MethodId) {ba : Addr} : entryFrame m #[(.ref ba), (.int (1 : Int32))] 2 = mkF m 0 #[vr ba, vi (1 : Int32)] [] := by first | (simp [entryFrame, mkF, argsToLocals, Value.category]; done) | rfl
def QrmCL_1 (Z : State) (wD : Addr) (kD : ClassId) (vcs : Int32) (ba : Addr) (kb : ClassId) (x0 : Value) (h0 : Heap) (n0 : Nat) (v : Option Value) (h : Heap) (L : List Loc) : Prop := (v = some (.int (0 : Int32))) ∧ (L = []) ∧ (h = h0)
set_option maxRecDepth 65536 in
set_option maxHeartbeats 40000000 in
theorem rmCL_1 (l : Launch) (Z : State) (a0 : Array Value) (hw : ∀ d ∈ tables_1, d.before a0 Z = true) (ws : List Jvm.Cond) (wD : Addr) (kD : ClassId) (vcs : Int32) (G : Gh Z wD kD vcs) (ba : Addr) (kb : ClassId) (x0 : Value) (h0 : Heap) (n0 : Nat) (O0 : Old Z n0 h0) (VB : Arv Z h0 ba kb .byte (1 : Int32) [x0] (.int (0 : Int32))) :
    MetFree l (⟨"java/lang/StringUTF16", "coderFromArrayLen", "([BI)B"⟩ : MethodName) (head1 (Jvm.Cond.code (⟨"java/lang/StringUTF16", "coderFromArrayLen", "([BI)B"⟩ : MethodName) jdk_52_method_15_code 2 (some .byte) :: ws) ({ frames := 0, cells := 0, slots := 0, locals := 0 } : Room)) (fun aa' UU' => aa' = #[(.ref ba), (.int (1 : Int32))] ∧ Z.Warmed39 UU'.vm ∧ UU'.heap = h0) (fun _ _ _ _ _ => True) (fun _ UU' oo' VV' => ∃ v' L', oo' = .returned v' ∧ QrmCL_1 Z wD kD vcs ba kb x0 h0 n0 v' VV'.heap L' ∧ FrameEnd UU' oo' VV' L' ({ frames := 0, cells := 0, slots := 0, locals := 0 } : Room).cells ({ frames := 0, cells := 0, slots := 0, locals := 0 } : Room).slots) := by
  refine MetFree.of_bodySF (plainFor_of_name pn_12) hisR ?_
  intro p e s m args below meth c s₁ Bd hml0 hP hK
  obtain ⟨rfl, hZ, hh⟩ := hP
  have hx := Bd.exec
  have hby := Bd.bytes
  have hlk := Bd.notSynchronized
  have hml : c.maxLocals = 2 := hml0
  have hown : s.vm.findClass "java/lang/StringUTF16" = some m.cls := findClass_of_methodNamed Bd.named
  have hnm := (name_of_methodNamed Bd.named Bd.method).1
  have hret := Bd.returns
  have X0 : Stand p l e ({ frames := 0, cells := 0, slots := 0, locals := 0 } : Room) s m #[(.ref ba), (.int (1 : Int32))] below meth c s₁ [] 0 0 := Stand.of_body Bd
  have e0 : s₁.heap = h0 := by rw [← hh, Bd.state]; rfl
  have N0 := Fr.nil n0
  refine Go.body ?_
  obtain ⟨Pf, hPf⟩ : ∃ P, P = Fin' s below ({ frames := 0, cells := 0, slots := 0, locals := 0 } : Room).cells ({ frames := 0, cells := 0, slots := 0, locals := 0 } : Room).slots (QrmCL_1 Z wD kD vcs ba kb x0 h0 n0) := ⟨_, rfl⟩
  rw [← hPf]
  refine Go.cast (ef_rmCL_1 m) ?_
  show Go p.tables e below Pf (s₁.setTop (mkF m 0 #[vr ba, vi (1 : Int32)] []))
  refine Go.by' (fun t k => (XS.iloadN X0.here hx rfl (hb hby d12_0) rfl (XS.aloadN X0.here hx rfl (hb hby d12_1) rfl rfl k))) ?_
  obtain ⟨cl6, Ar6, -, S6, P6, -, -⟩ := (id VB)
  show Go p.tables e below Pf (s₁.setTop (mkF m 2 #[vr ba, vi (1 : Int32)] [(.ref ba), (.int (1 : Int32))]))
  refine Go.by' (fun t k => (X0.arraylength hx (by rw [e0]; exact Ar6.1) (State.isArrayOf_alike hZ.alike Ar6.2.1) (g := (mkF m 2 #[vr ba, vi (1 : Int32)] [(.ref ba), (.int (1 : Int32))])) rfl rfl (hb hby d12_2) t k)) ?_
  rw [len_of S6 P6]
  show Go p.tables e below Pf (s₁.setTop (mkF m 3 #[vr ba, vi (1 : Int32)] [(.int (1 : Int32)), (.int (1 : Int32))]))
  refine Go.by' (fun t k => (XS.isub X0.here hx rfl (hb hby d12_3) rfl k)) ?_
  show Go p.tables e below Pf (s₁.setTop (mkF m 4 #[vr ba, vi (1 : Int32)] [(.int ((1 : Int32) - (1 : Int32)))]))
  refine Go.castF (a := ((1 : Int32) - (1 : Int32))) (b := (0 : Int32)) (fun z' : Int32 => mkF m 4 #[vr ba, vi (1 : Int32)] [(.int z')]) (by decide) ?_
  show Go p.tables e below Pf (s₁.setTop (mkF m 4 #[vr ba, vi (1 : Int32)] [(.int (0 : Int32))]))
  refine Go.by' (fun t k => (XS.bipush X0.here hx rfl (hb hby d12_4) (XS.iushr X0.here hx rfl (hb hby d12_6) rfl k))) ?_
  show Go p.tables e below Pf (s₁.setTop (mkF m 7 #[vr ba, vi (1 : Int32)] [(.int (((0 : Int32).toUInt32 >>> ((31 : Int32) &&& 31).toUInt32).toInt32))]))
  refine Go.castF (a := (((0 : Int32).toUInt32 >>> ((31 : Int32) &&& 31).toUInt32).toInt32)) (b := (0 : Int32)) (fun z' : Int32 => mkF m 7 #[vr ba, vi (1 : Int32)] [(.int z')]) (by decide) ?_
  show Go p.tables e below Pf (s₁.setTop (mkF m 7 #[vr ba, vi (1 : Int32)] [(.int (0 : Int32))]))
  refine Go.by' (fun t k => (XS.i2b X0.here hx rfl (hb hby d12_7) rfl k)) ?_
  show Go p.tables e below Pf (s₁.setTop (mkF m 8 #[vr ba, vi (1 : Int32)] [(.int ((0 : Int32).toInt8.toInt32))]))
  refine Go.castF (a := ((0 : Int32).toInt8.toInt32)) (b := (0 : Int32)) (fun z' : Int32 => mkF m 8 #[vr ba, vi (1 : Int32)] [(.int z')]) (by decide) ?_
  show Go p.tables e below Pf (s₁.setTop (mkF m 8 #[vr ba, vi (1 : Int32)] [(.int (0 : Int32))]))
  rw [hPf]
  exact Go.retI' X0 hx hret hlk (by simp) rfl (hb hby d12_8) (by decide) (by decide) ⟨rfl, rfl, e0⟩
theorem d9_0 : decode jdk_42_method_149_code 0 = .ok (.aload_n 0, 1) := by decide +kernel
theorem d9_1 : decode jdk_42_method_149_code 1 = .ok (.invokespecial 1, 3) := by decide +kernel
theorem d9_4 : decode jdk_42_method_149_code 4 = .ok (.iload_n 3, 1) := by decide +kernel
theorem d9_5 : decode jdk_42_method_149_code 5 = .ok (.ifCond .ne 22, 3) := by decide +kernel
theorem d9_27 : decode jdk_42_method_149_code 27 = .ok (.getstatic 38, 3) := by decide +kernel
theorem d9_30 : decode jdk_42_method_149_code 30 = .ok (.ifCond .eq 28, 3) := by decide +kernel
theorem d9_33 : decode jdk_42_method_149_code 33 = .ok (.aload_n 1, 1) := by decide +kernel
theorem d9_34 : decode jdk_42_method_149_code 34 = .ok (.iload_n 2, 1) := by decide +kernel
theorem d9_35 : decode jdk_42_method_149_code 35 = .ok (.iload_n 3, 1) := by decide +kernel
theorem d9_36 : decode jdk_42_method_149_code 36 = .ok (.invokestatic 177, 3) := by decide +kernel
theorem pd_1 : parseMethodDescriptor "([CII)[B" = some ⟨[(.array .char), .int, .int], some (.array .byte)⟩ := by decide +kernel
theorem d9_39 : decode jdk_42_method_149_code 39 = .ok (.astore 5, 2) := by decide +kernel
theorem d9_41 : decode jdk_42_method_149_code 41 = .ok (.aload_n 0, 1) := by decide +kernel
theorem d9_42 : decode jdk_42_method_149_code 42 = .ok (.aload 5, 2) := by decide +kernel
theorem d9_44 : decode jdk_42_method_149_code 44 = .ok (.iload_n 3, 1) := by decide +kernel
theorem d9_45 : decode jdk_42_method_149_code 45 = .ok (.invokestatic 47, 3) := by decide +kernel
theorem pd_2 : parseMethodDescriptor "([BI)B" = some ⟨[(.array .byte), .int], some .byte⟩ := by decide +kernel
theorem d9_48 : decode jdk_42_method_149_code 48 = .ok (.putfield 15, 3) := by decide +kernel
theorem d9_51 : decode jdk_42_method_149_code 51 = .ok (.aload_n 0, 1) := by decide +kernel
theorem d9_52 : decode jdk_42_method_149_code 52 = .ok (.aload 5, 2) := by decide +kernel
theorem d9_54 : decode jdk_42_method_149_code 54 = .ok (.putfield 9, 3) := by decide +kernel
theorem d9_57 : decode jdk_42_method_149_code 57 = .ok (.return_, 1) := by decide +kernel
theorem pn_9 : plainName "java/lang/String" = true := by first | (simp [plainName, overriddenIn]; done) | decide +kernel
set_option maxHeartbeats 4000000 in
theorem ef_rmS4_1 (m : MethodId) {sa : Addr} {ca : Addr} : entryFrame m #[(.ref sa), (.ref ca), (.int (0 : Int32)), (.int (1 : Int32)), .null] 6 = mkF m 0 #[vr sa, vr ca, vi (0 : Int32), vi (1 : Int32), .val .null, .unset] [] := by first | (simp [entryFrame, mkF, argsToLocals, Value.category]; done) | rfl
def QrmS4_1 (Z : State) (wD : Addr) (kD : ClassId) (vcs : Int32) (sa : Addr) (ca : Addr) (kc : ClassId) (c0 : Int32) (h0 : Heap) (n0 : Nat) (v : Option Value) (h : Heap) (L : List Loc) : Prop := ∃ (rb : Addr) (kb : ClassId), (v = none) ∧ (Fr n0 L) ∧ (Keep h0 h [sa]) ∧ (Exa Z h sa "java/lang/String") ∧ (Fld Z h sa "java/lang/String" "value" "[B" (.ref rb)) ∧ (Fld Z h sa "java/lang/String" "coder" "B" (.int (0 : Int32))) ∧ (Arv Z h rb kb .byte (1 : Int32) [(.int (c0.toInt8.toInt32))] (.int (0 : Int32))) ∧ (h0.size ≤ rb)
set_option maxRecDepth 65536 in
set_option maxHeartbeats 40000000 in
theorem rmS4_1 (l : Launch) (Z : State) (a0 : Array Value) (hw : ∀ d ∈ tables_1, d.before a0 Z = true) (ws : List Jvm.Cond) (wD : Addr) (kD : ClassId) (vcs : Int32) (G : Gh Z wD kD vcs) (sa : Addr) (ca : Addr) (kc : ClassId) (c0 : Int32) (h0 : Heap) (n0 : Nat) (O0 : Old Z n0 h0) (EX : Exa Z h0 sa "java/lang/String") (FV : Fld Z h0 sa "java/lang/String" "value" "[B" .null) (FC : Fld Z h0 sa "java/lang/String" "coder" "B" (.int (0 : Int32))) (g_sa : n0 ≤ sa) (VC : Arv Z h0 ca kc .char (1 : Int32) [(.int c0)] (.int (0 : Int32))) (hne : sa ≠ ca) (hb0 : ¬ ((255 : Int32) < c0)) :
    MetFree l (⟨"java/lang/String", "<init>", "([CIILjava/lang/Void;)V"⟩ : MethodName) (head1 (Jvm.Cond.code (⟨"java/lang/String", "<init>", "([CIILjava/lang/Void;)V"⟩ : MethodName) jdk_42_method_149_code 6 none :: ws) ({ frames := 2, cells := 1, slots := 1, locals := 35 } : Room)) (fun aa' UU' => aa' = #[(.ref sa), (.ref ca), (.int (0 : Int32)), (.int (1 : Int32)), .null] ∧ Z.Warmed39 UU'.vm ∧ UU'.heap = h0) (fun _ _ _ _ _ => True) (fun _ UU' oo' VV' => ∃ v' L', oo' = .returned v' ∧ QrmS4_1 Z wD kD vcs sa ca kc c0 h0 n0 v' VV'.heap L' ∧ FrameEnd UU' oo' VV' L' ({ frames := 2, cells := 1, slots := 1, locals := 35 } : Room).cells ({ frames := 2, cells := 1, slots := 1, locals := 35 } : Room).slots) := by
  refine MetFree.of_bodySF (plainFor_of_name pn_9) hisR ?_
  intro p e s m args below meth c s₁ Bd hml0 hP hK
  obtain ⟨rfl, hZ, hh⟩ := hP
  have hx := Bd.exec
  have hby := Bd.bytes
  have hlk := Bd.notSynchronized
  have hml : c.maxLocals = 6 := hml0
  have hown : s.vm.findClass "java/lang/String" = some m.cls := findClass_of_methodNamed Bd.named
  have hnm := (name_of_methodNamed Bd.named Bd.method).1
  have hret := Bd.returns
  have X0 : Stand p l e ({ frames := 2, cells := 1, slots := 1, locals := 35 } : Room) s m #[(.ref sa), (.ref ca), (.int (0 : Int32)), (.int (1 : Int32)), .null] below meth c s₁ [] 0 0 := Stand.of_body Bd
  have e0 : s₁.heap = h0 := by rw [← hh, Bd.state]; rfl
  have N0 := Fr.nil n0
  have KC0 : Keep h0 h0 [sa] := Keep.refl _ _
  refine Go.body ?_
  obtain ⟨Pf, hPf⟩ : ∃ P, P = Fin' s below ({ frames := 2, cells := 1, slots := 1, locals := 35 } : Room).cells ({ frames := 2, cells := 1, slots := 1, locals := 35 } : Room).slots (QrmS4_1 Z wD kD vcs sa ca kc c0 h0 n0) := ⟨_, rfl⟩
  rw [← hPf]
  refine Go.cast (ef_rmS4_1 m) ?_
  have hw19 := (hw _ (List.mem_of_getElem? (i := 19) rfl))
  have hw20 := (hw _ (List.mem_of_getElem? (i := 20) rfl))
  have hw48 := (hw _ (List.mem_of_getElem? (i := 48) rfl))
  have hw58 := (hw _ (List.mem_of_getElem? (i := 58) rfl))
  have hw59 := (hw _ (List.mem_of_getElem? (i := 59) rfl))
  have hw60 := (hw _ (List.mem_of_getElem? (i := 60) rfl))
  have hw61 := (hw _ (List.mem_of_getElem? (i := 61) rfl))
  have hw62 := (hw _ (List.mem_of_getElem? (i := 62) rfl))
  have hw63 := (hw _ (List.mem_of_getElem? (i := 63) rfl))
  have hw68 := (hw _ (List.mem_of_getElem? (i := 68) rfl))
  have hw69 := (hw _ (List.mem_of_getElem? (i := 69) rfl))
  have hw70 := (hw _ (List.mem_of_getElem? (i := 70) rfl))
  have hw71 := (hw _ (List.mem_of_getElem? (i := 71) rfl))
  have hw72 := (hw _ (List.mem_of_getElem? (i := 72) rfl))
  have hw73 := (hw _ (List.mem_of_getElem? (i := 73) rfl))
  have hw74 := (hw _ (List.mem_of_getElem? (i := 74) rfl))
  show Go p.tables e below Pf (s₁.setTop (mkF m 0 #[vr sa, vr ca, vi (0 : Int32), vi (1 : Int32), .val .null, .unset] []))
  refine Go.by' (fun t k => (XS.aloadN X0.here hx rfl (hb hby d9_0) rfl rfl k)) ?_
  obtain ⟨T7, X7, e7, st7⟩ := initO X0 hx hZ hown hw58 hw19 hw20 e0 (g := (mkF m 1 #[vr sa, vr ca, vi (0 : Int32), vi (1 : Int32), .val .null, .unset] [(.ref sa)])) rfl (by rw [hml]; rfl) rfl (hb hby d9_1) (by decide) (W := 0) (by show 2 * 0 + _ ≤ _; exact Nat.le_of_eq rfl) (by decide)
  refine Go.by' st7 ?_
  show Go p.tables e below Pf (T7.setTop (mkF m 4 #[vr sa, vr ca, vi (0 : Int32), vi (1 : Int32), .val .null, .unset] []))
  refine Go.by' (fun t k => (XS.iloadN X7.here hx rfl (hb hby d9_4) rfl (XS.ifYes X7.here hx rfl (pc0 := 5) (pc' := 27) rfl (hb hby d9_5) rfl ((if0 _ _).trans (feq (by decide)).2) (by decide) (by decide) k))) ?_
  obtain ⟨T8, X8, e8, st8⟩ := getS2 X7 hx hZ hown (host := "") (Or.inl hw59) Via.refl e7 (G.2.2.2.1.ext O0.2) (g := (mkF m 27 #[vr sa, vr ca, vi (0 : Int32), vi (1 : Int32), .val .null, .unset] [])) rfl (hb hby d9_27)
  refine Go.by' st8 ?_
  show Go p.tables e below Pf (T8.setTop (mkF m 30 #[vr sa, vr ca, vi (0 : Int32), vi (1 : Int32), .val .null, .unset] [(.int vcs)]))
  refine Go.by' (fun t k => (XS.ifNo X8.here hx rfl (hb hby d9_30) rfl ((if0 _ _).trans (feq G.2.2.2.2).1) (XS.aloadN X8.here hx rfl (hb hby d9_33) rfl rfl (XS.iloadN X8.here hx rfl (hb hby d9_34) rfl (XS.iloadN X8.here hx rfl (hb hby d9_35) rfl k))))) ?_
  obtain ⟨_, _, ⟨T9, L9, k9, n9⟩, -, X9, ⟨Lc9, hQ9, l9, y9, z9⟩, st9⟩ := Jvm.LawKit.callS X8 hx (y := (⟨"java/lang/StringUTF16", "compress", "([CII)[B"⟩ : MethodName)) hown (mvT hZ hw60) (mvT hZ hw61) (mvT hZ hw62) (mvT hZ hw63) (by decide) (backOf (W := 0) (rmC3_1 l Z a0 hw [] wD kD vcs G ca kc c0 h0 n0 O0 VC hb0) hZ hw63 hw62 (by decide) (by decide)) (g := (mkF m 36 #[vr sa, vr ca, vi (0 : Int32), vi (1 : Int32), .val .null, .unset] [(.int (1 : Int32)), (.int (0 : Int32)), (.ref ca)])) rfl (by rw [hml]; rfl) (argsL := [(.ref ca), (.int (0 : Int32)), (.int (1 : Int32))]) (rest := []) (lenOf pd_1 rfl) rfl (by show 2 * 0 + _ ≤ _; exact Nat.le_of_eq rfl) (hb hby d9_36) (fun _ _ => ⟨rfl, e8, (by decide : 0 + 1 ≤ _), (by decide : 0 + 1 ≤ _)⟩)
  dsimp only [Pt.U, Pt.locs, Pt.cells, Pt.slots] at X9 l9 y9 z9 st9 hQ9
  subst l9 y9 z9
  obtain ⟨rb_9, kb_9, rfl, N9q, K9, f9_0, f9_1⟩ := hQ9
  have N9 := Fr.app N0 N9q
  obtain ⟨lc9, X9, N9⟩ := own_pack X9 N9
  refine Go.by' st9 ?_
  have g_rb_9 : n0 ≤ rb_9 := Nat.le_trans (own_le O0) f9_1
  have sz_rb_9 : h0.size ≤ rb_9 := Nat.le_trans KC0.1 f9_1
  have O9 := O0.keep K9 all0
  have KC9 : Keep h0 T9.heap [sa] := KC0.trans K9 all0
  show Go p.tables e below Pf (T9.setTop (mkF m 39 #[vr sa, vr ca, vi (0 : Int32), vi (1 : Int32), .val .null, .unset] [(.ref rb_9)]))
  refine Go.by' (fun t k => (XS.astore X9.here hx rfl (hb hby d9_39) rfl rfl (l' := #[vr sa, vr ca, vi (0 : Int32), vi (1 : Int32), .val .null, vr rb_9]) rfl (XS.aloadN X9.here hx rfl (hb hby d9_41) rfl rfl (XS.aload X9.here hx rfl (hb hby d9_42) rfl rfl (XS.iloadN X9.here hx rfl (hb hby d9_44) rfl k))))) ?_
  obtain ⟨_, _, ⟨T10, L10, k10, n10⟩, -, X10, ⟨Lc10, hQ10, l10, y10, z10⟩, st10⟩ := Jvm.LawKit.callS X9 hx (y := (⟨"java/lang/StringUTF16", "coderFromArrayLen", "([BI)B"⟩ : MethodName)) hown (mvT hZ hw68) (mvT hZ hw69) (mvT hZ hw62) (mvT hZ hw70) (by decide) (backOf (W := 1) (rmCL_1 l Z a0 hw [] wD kD vcs G rb_9 kb_9 ((Value.int (c0.toInt8.toInt32))) T9.heap n0 O9 f9_0) hZ hw70 hw62 (by decide) (by decide)) (g := (mkF m 45 #[vr sa, vr ca, vi (0 : Int32), vi (1 : Int32), .val .null, vr rb_9] [(.int (1 : Int32)), (.ref rb_9), (.ref sa)])) rfl (by rw [hml]; rfl) (argsL := [(.ref rb_9), (.int (1 : Int32))]) (rest := [(.ref sa)]) (lenOf pd_2 rfl) rfl (by show 2 * 0 + _ ≤ _; exact Nat.le_of_eq rfl) (hb hby d9_45) (fun _ _ => ⟨rfl, rfl, (by decide : 1 + 0 ≤ _), (by decide : 1 + 0 ≤ _)⟩)
  dsimp only [Pt.U, Pt.locs, Pt.cells, Pt.slots] at X10 l10 y10 z10 st10 hQ10
  subst l10 y10 z10
  obtain ⟨rfl, rfl, e10⟩ := hQ10
  try replace X10 := own_nil X10
  refine Go.by' st10 ?_
  obtain ⟨T11, h11, X11, e11, W11, st11⟩ := putFN X10 hx hZ hown hw71 Via.refl e10 (FC.keep K9 nin0) (EX.keep K9) (Or.inr ⟨hw72, rfl, hnm⟩) hw48 (ty := .byte) (v' := (.int (0 : Int32))) (by decide) rfl rfl (g := (mkF m 48 #[vr sa, vr ca, vi (0 : Int32), vi (1 : Int32), .val .null, vr rb_9] [(.int (0 : Int32)), (.ref sa)])) rfl rfl (hb hby d9_48)
  refine Go.by' st11 ?_
  have Fw11 : Fld Z h11 sa "java/lang/String" "coder" "B" (Value.int (0 : Int32)) := (FC.keep K9 nin0).same W11
  have N11 := Fr.snoc X11 N9 g_sa
  obtain ⟨lc11, X11, N11⟩ := own_pack X11 N11
  have O11 := O9.wr W11 g_sa
  have KC11 : Keep h0 h11 [sa] := KC9.wr W11 (Or.inl (List.mem_of_getElem? (i := 0) rfl))
  show Go p.tables e below Pf (T11.setTop (mkF m 51 #[vr sa, vr ca, vi (0 : Int32), vi (1 : Int32), .val .null, vr rb_9] []))
  refine Go.by' (fun t k => (XS.aloadN X11.here hx rfl (hb hby d9_51) rfl rfl (XS.aload X11.here hx rfl (hb hby d9_52) rfl rfl k))) ?_
  have c12 := ((EX.keep K9).wr W11)
  have c13 := ((FV.keep K9 nin0).other W11 (Or.inr (slot_ne (Or.inr hw74) (Or.inr hw72) (by decide) (t := (.array .byte)) (t' := .byte) (by decide) (by decide))))
  obtain ⟨T14, h14, X14, e14, W14, st14⟩ := putF X11 hx hZ hown (host := "") (Or.inl hw73) Via.refl e11 c13 c12 (Or.inr ⟨hw74, rfl, hnm⟩) hw48 (ty := (.array .byte)) (by decide) rfl rfl (g := (mkF m 54 #[vr sa, vr ca, vi (0 : Int32), vi (1 : Int32), .val .null, vr rb_9] [(.ref rb_9), (.ref sa)])) rfl rfl (hb hby d9_54)
  refine Go.by' st14 ?_
  have Fw14 : Fld Z h14 sa "java/lang/String" "value" "[B" (Value.ref rb_9) := c13.same W14
  have N14 := Fr.snoc X14 N11 g_sa
  obtain ⟨lc14, X14, N14⟩ := own_pack X14 N14
  have O14 := O11.wr W14 g_sa
  have KC14 : Keep h0 h14 [sa] := KC11.wr W14 (Or.inl (List.mem_of_getElem? (i := 0) rfl))
  have c15 := ((f9_0.other W11 (Ne.symm (Nat.ne_of_lt (Nat.lt_of_lt_of_le EX.lt f9_1)))).other W14 (Ne.symm (Nat.ne_of_lt (Nat.lt_of_lt_of_le EX.lt f9_1))))
  show Go p.tables e below Pf (T14.setTop (mkF m 57 #[vr sa, vr ca, vi (0 : Int32), vi (1 : Int32), .val .null, vr rb_9] []))
  rw [hPf]
  exact Go.retV' X14 hx hret hlk (hb hby d9_57) (by decide) (by decide) ⟨rb_9, kb_9, rfl, N14, (by rw [e14]; exact KC14), (by rw [e14]; exact (c12.wr W14)), (by rw [e14]; exact Fw14), (by rw [e14]; exact (Fw11.other W14 (Or.inr (slot_ne (Or.inr hw72) (Or.inr hw74) (by decide) (t := .byte) (t' := (.array .byte)) (by decide) (by decide))))), (by rw [e14]; exact c15), sz_rb_9⟩
theorem d8_0 : decode jdk_42_method_3_code 0 = .ok (.aload_n 0, 1) := by decide +kernel
theorem d8_1 : decode jdk_42_method_3_code 1 = .ok (.aload_n 1, 1) := by decide +kernel
theorem d8_2 : decode jdk_42_method_3_code 2 = .ok (.iconst 0, 1) := by decide +kernel
theorem d8_3 : decode jdk_42_method_3_code 3 = .ok (.aload_n 1, 1) := by decide +kernel
theorem d8_4 : decode jdk_42_method_3_code 4 = .ok (.arraylength, 1) := by decide +kernel
theorem d8_5 : decode jdk_42_method_3_code 5 = .ok (.aconst_null, 1) := by decide +kernel
theorem d8_6 : decode jdk_42_method_3_code 6 = .ok (.invokespecial 27, 3) := by decide +kernel
theorem pd_3 : parseMethodDescriptor "([CIILjava/lang/Void;)V" = some ⟨[(.array .char), .int, .int, (.object "java/lang/Void")], none⟩ := by decide +kernel
theorem d8_9 : decode jdk_42_method_3_code 9 = .ok (.return_, 1) := by decide +kernel
theorem pn_8 : plainName "java/lang/String" = true := by first | (simp [plainName, overriddenIn]; done) | decide +kernel
set_option maxHeartbeats 4000000 in
theorem ef_rmS1_1 (m : MethodId) {sa : Addr} {ca : Addr} : entryFrame m #[(.ref sa), (.ref ca)] 2 = mkF m 0 #[vr sa, vr ca] [] := by first | (simp [entryFrame, mkF, argsToLocals, Value.category]; done) | rfl
def QrmS1_1 (Z : State) (wD : Addr) (kD : ClassId) (vcs : Int32) (sa : Addr) (ca : Addr) (kc : ClassId) (c0 : Int32) (h0 : Heap) (n0 : Nat) (v : Option Value) (h : Heap) (L : List Loc) : Prop := ∃ (rb : Addr) (kb : ClassId), (v = none) ∧ (Fr n0 L) ∧ (Keep h0 h [sa]) ∧ (Exa Z h sa "java/lang/String") ∧ (Fld Z h sa "java/lang/String" "value" "[B" (.ref rb)) ∧ (Fld Z h sa "java/lang/String" "coder" "B" (.int (0 : Int32))) ∧ (Arv Z h rb kb .byte (1 : Int32) [(.int (c0.toInt8.toInt32))] (.int (0 : Int32))) ∧ (h0.size ≤ rb)
set_option maxRecDepth 65536 in
set_option maxHeartbeats 40000000 in
theorem rmS1_1 (l : Launch) (Z : State) (a0 : Array Value) (hw : ∀ d ∈ tables_1, d.before a0 Z = true) (ws : List Jvm.Cond) (wD : Addr) (kD : ClassId) (vcs : Int32) (G : Gh Z wD kD vcs) (sa : Addr) (ca : Addr) (kc : ClassId) (c0 : Int32) (h0 : Heap) (n0 : Nat) (O0 : Old Z n0 h0) (EX : Exa Z h0 sa "java/lang/String") (FV : Fld Z h0 sa "java/lang/String" "value" "[B" .null) (FC : Fld Z h0 sa "java/lang/String" "coder" "B" (.int (0 : Int32))) (g_sa : n0 ≤ sa) (VC : Arv Z h0 ca kc .char (1 : Int32) [(.int c0)] (.int (0 : Int32))) (hne : sa ≠ ca) (hb0 : ¬ ((255 : Int32) < c0)) :
    MetFree l (⟨"java/lang/String", "<init>", "([C)V"⟩ : MethodName) (head1 (Jvm.Cond.code (⟨"java/lang/String", "<init>", "([C)V"⟩ : MethodName) jdk_42_method_3_code 2 none :: ws) ({ frames := 3, cells := 1, slots := 1, locals := 52 } : Room)) (fun aa' UU' => aa' = #[(.ref sa), (.ref ca)] ∧ Z.Warmed39 UU'.vm ∧ UU'.heap = h0) (fun _ _ _ _ _ => True) (fun _ UU' oo' VV' => ∃ v' L', oo' = .returned v' ∧ QrmS1_1 Z wD kD vcs sa ca kc c0 h0 n0 v' VV'.heap L' ∧ FrameEnd UU' oo' VV' L' ({ frames := 3, cells := 1, slots := 1, locals := 52 } : Room).cells ({ frames := 3, cells := 1, slots := 1, locals := 52 } : Room).slots) := by
  refine MetFree.of_bodySF (plainFor_of_name pn_8) hisR ?_
  intro p e s m args below meth c s₁ Bd hml0 hP hK
  obtain ⟨rfl, hZ, hh⟩ := hP
  have hx := Bd.exec
  have hby := Bd.bytes
  have hlk := Bd.notSynchronized
  have hml : c.maxLocals = 2 := hml0
  have hown : s.vm.findClass "java/lang/String" = some m.cls := findClass_of_methodNamed Bd.named
  have hnm := (name_of_methodNamed Bd.named Bd.method).1
  have hret := Bd.returns
  have X0 : Stand p l e ({ frames := 3, cells := 1, slots := 1, locals := 52 } : Room) s m #[(.ref sa), (.ref ca)] below meth c s₁ [] 0 0 := Stand.of_body Bd
  have e0 : s₁.heap = h0 := by rw [← hh, Bd.state]; rfl
  have N0 := Fr.nil n0
  have KC0 : Keep h0 h0 [sa] := Keep.refl _ _
  refine Go.body ?_
  obtain ⟨Pf, hPf⟩ : ∃ P, P = Fin' s below ({ frames := 3, cells := 1, slots := 1, locals := 52 } : Room).cells ({ frames := 3, cells := 1, slots := 1, locals := 52 } : Room).slots (QrmS1_1 Z wD kD vcs sa ca kc c0 h0 n0) := ⟨_, rfl⟩
  rw [← hPf]
  refine Go.cast (ef_rmS1_1 m) ?_
  have hw49 := (hw _ (List.mem_of_getElem? (i := 49) rfl))
  have hw54 := (hw _ (List.mem_of_getElem? (i := 54) rfl))
  have hw55 := (hw _ (List.mem_of_getElem? (i := 55) rfl))
  have hw57 := (hw _ (List.mem_of_getElem? (i := 57) rfl))
  show Go p.tables e below Pf (s₁.setTop (mkF m 0 #[vr sa, vr ca] []))
  refine Go.by' (fun t k => (XS.aloadN X0.here hx rfl (hb hby d8_0) rfl rfl (XS.aloadN X0.here hx rfl (hb hby d8_1) rfl rfl (XS.iconst X0.here hx rfl (hb hby d8_2) (XS.aloadN X0.here hx rfl (hb hby d8_3) rfl rfl k))))) ?_
  obtain ⟨cl16, Ar16, -, S16, P16, -, -⟩ := (id VC)
  show Go p.tables e below Pf (s₁.setTop (mkF m 4 #[vr sa, vr ca] [(.ref ca), (.int (0 : Int32)), (.ref ca), (.ref sa)]))
  refine Go.by' (fun t k => (X0.arraylength hx (by rw [e0]; exact Ar16.1) (State.isArrayOf_alike hZ.alike Ar16.2.1) (g := (mkF m 4 #[vr sa, vr ca] [(.ref ca), (.int (0 : Int32)), (.ref ca), (.ref sa)])) rfl rfl (hb hby d8_4) t k)) ?_
  rw [len_of S16 P16]
  show Go p.tables e below Pf (s₁.setTop (mkF m 5 #[vr sa, vr ca] [(.int (1 : Int32)), (.int (0 : Int32)), (.ref ca), (.ref sa)]))
  refine Go.by' (fun t k => (XS.aconstNull X0.here hx rfl (hb hby d8_5) k)) ?_
  obtain ⟨_, _, ⟨T17, L17, k17, n17⟩, -, X17, ⟨Lc17, hQ17, l17, y17, z17⟩, st17⟩ := X0.specialBack hx (y := (⟨"java/lang/String", "<init>", "([CIILjava/lang/Void;)V"⟩ : MethodName)) rfl hown (mvT hZ hw54) (mvT hZ hw55) (mvT hZ hw57) (by decide) (backOf (W := 0) (rmS4_1 l Z a0 hw [] wD kD vcs G sa ca kc c0 h0 n0 O0 EX FV FC g_sa VC hne hb0) hZ hw57 hw49 (by decide) (by decide)) (g := (mkF m 6 #[vr sa, vr ca] [.null, (.int (1 : Int32)), (.int (0 : Int32)), (.ref ca), (.ref sa)])) rfl (by rw [hml]; rfl) (Steps.refl _) (a := sa) (argsL := [(.ref ca), (.int (0 : Int32)), (.int (1 : Int32)), .null]) (rest := []) (lenOf pd_3 rfl) rfl (by show 2 * 0 + _ ≤ _; exact Nat.le_of_eq rfl) (hb hby d8_6) (fun _ _ => ⟨rfl, e0, (by decide : 0 + 1 ≤ _), (by decide : 0 + 1 ≤ _)⟩)
  dsimp only [Pt.U, Pt.locs, Pt.cells, Pt.slots] at X17 l17 y17 z17 st17 hQ17
  subst l17 y17 z17
  obtain ⟨rb_17, kb_17, rfl, N17q, K17, f17_0, f17_1, f17_2, f17_3, f17_4⟩ := hQ17
  have N17 := Fr.app N0 N17q
  obtain ⟨lc17, X17, N17⟩ := own_pack X17 N17
  refine Go.by' (fun t k => st17.trans k) ?_
  have g_rb_17 : n0 ≤ rb_17 := Nat.le_trans (own_le O0) f17_4
  have sz_rb_17 : h0.size ≤ rb_17 := Nat.le_trans KC0.1 f17_4
  have O17 := O0.keep K17 (allS g_sa all0)
  have KC17 : Keep h0 T17.heap [sa] := KC0.trans K17 (allS (Or.inl (List.mem_of_getElem? (i := 0) rfl)) all0)
  show Go p.tables e below Pf (T17.setTop (mkF m 9 #[vr sa, vr ca] []))
  rw [hPf]
  exact Go.retV' X17 hx hret hlk (hb hby d8_9) (by decide) (by decide) ⟨rb_17, kb_17, rfl, N17, KC17, f17_0, f17_1, f17_2, f17_3, sz_rb_17⟩
theorem d25_0 : decode jdk_43_method_13_code 0 = .ok (.aload_n 0, 1) := by decide +kernel
theorem d25_1 : decode jdk_43_method_13_code 1 = .ok (.arraylength, 1) := by decide +kernel
theorem d25_2 : decode jdk_43_method_13_code 2 = .ok (.aload_n 1, 1) := by decide +kernel
theorem d25_3 : decode jdk_43_method_13_code 3 = .ok (.arraylength, 1) := by decide +kernel
theorem d25_4 : decode jdk_43_method_13_code 4 = .ok (.if_icmp .ne 30, 3) := by decide +kernel
theorem d25_7 : decode jdk_43_method_13_code 7 = .ok (.iconst 0, 1) := by decide +kernel
theorem d25_8 : decode jdk_43_method_13_code 8 = .ok (.istore_n 2, 1) := by decide +kernel
theorem d25_9 : decode jdk_43_method_13_code 9 = .ok (.iload_n 2, 1) := by decide +kernel
theorem d25_10 : decode jdk_43_method_13_code 10 = .ok (.aload_n 0, 1) := by decide +kernel
theorem d25_11 : decode jdk_43_method_13_code 11 = .ok (.arraylength, 1) := by decide +kernel
theorem d25_12 : decode jdk_43_method_13_code 12 = .ok (.if_icmp .ge 20, 3) := by decide +kernel
theorem d25_15 : decode jdk_43_method_13_code 15 = .ok (.aload_n 0, 1) := by decide +kernel
theorem d25_16 : decode jdk_43_method_13_code 16 = .ok (.iload_n 2, 1) := by decide +kernel
theorem d25_17 : decode jdk_43_method_13_code 17 = .ok (.baload, 1) := by decide +kernel
theorem d25_18 : decode jdk_43_method_13_code 18 = .ok (.aload_n 1, 1) := by decide +kernel
theorem d25_19 : decode jdk_43_method_13_code 19 = .ok (.iload_n 2, 1) := by decide +kernel
theorem d25_20 : decode jdk_43_method_13_code 20 = .ok (.baload, 1) := by decide +kernel
theorem d25_21 : decode jdk_43_method_13_code 21 = .ok (.if_icmp .eq 5, 3) := by decide +kernel
theorem d25_26 : decode jdk_43_method_13_code 26 = .ok (.iinc 2 1, 3) := by decide +kernel
theorem d25_29 : decode jdk_43_method_13_code 29 = .ok (.goto (-20), 3) := by decide +kernel
theorem d25_32 : decode jdk_43_method_13_code 32 = .ok (.iconst 1, 1) := by decide +kernel
theorem d25_33 : decode jdk_43_method_13_code 33 = .ok (.ireturn, 1) := by decide +kernel
theorem d25_24 : decode jdk_43_method_13_code 24 = .ok (.iconst 0, 1) := by decide +kernel
theorem d25_25 : decode jdk_43_method_13_code 25 = .ok (.ireturn, 1) := by decide +kernel
theorem pn_25 : plainName "java/lang/StringLatin1" = true := by first | (simp [plainName, overriddenIn]; done) | decide +kernel
set_option maxHeartbeats 4000000 in
theorem ef_rmLE_11 (m : MethodId) {va : Addr} {vb : Addr} : entryFrame m #[(.ref va), (.ref vb)] 3 = mkF m 0 #[vr va, vr vb, .unset] [] := by first | (simp [entryFrame, mkF, argsToLocals, Value.category]; done) | rfl
def QrmLE_11 (Z : State) (wD : Addr) (kD : ClassId) (vcs : Int32) (va : Addr) (vb : Addr) (ka : ClassId) (kb : ClassId) (x0 : Int32) (y0 : Int32) (h0 : Heap) (n0 : Nat) (v : Option Value) (h : Heap) (L : List Loc) : Prop := ∃ (r : Int32), (v = some (.int r)) ∧ (L = []) ∧ (h = h0) ∧ ((x0 = y0 ∧ r = (1 : Int32)) ∨ (¬ (x0 = y0) ∧ r = (0 : Int32)))
set_option maxRecDepth 65536 in
set_option maxHeartbeats 40000000 in
theorem rmLE_11 (l : Launch) (Z : State) (a0 : Array Value) (hw : ∀ d ∈ tables_1, d.before a0 Z = true) (ws : List Jvm.Cond) (wD : Addr) (kD : ClassId) (vcs : Int32) (G : Gh Z wD kD vcs) (va : Addr) (vb : Addr) (ka : ClassId) (kb : ClassId) (x0 : Int32) (y0 : Int32) (h0 : Heap) (n0 : Nat) (O0 : Old Z n0 h0) (VA : Arv Z h0 va ka .byte (1 : Int32) [(.int x0)] (.int (0 : Int32))) (VB : Arv Z h0 vb kb .byte (1 : Int32) [(.int y0)] (.int (0 : Int32))) :
    MetFree l (⟨"java/lang/StringLatin1", "equals", "([B[B)Z"⟩ : MethodName) (head1 (Jvm.Cond.code (⟨"java/lang/StringLatin1", "equals", "([B[B)Z"⟩ : MethodName) jdk_43_method_13_code 3 (some .boolean) :: ws) ({ frames := 0, cells := 0, slots := 0, locals := 0 } : Room)) (fun aa' UU' => aa' = #[(.ref va), (.ref vb)] ∧ Z.Warmed39 UU'.vm ∧ UU'.heap = h0) (fun _ _ _ _ _ => True) (fun _ UU' oo' VV' => ∃ v' L', oo' = .returned v' ∧ QrmLE_11 Z wD kD vcs va vb ka kb x0 y0 h0 n0 v' VV'.heap L' ∧ FrameEnd UU' oo' VV' L' ({ frames := 0, cells := 0, slots := 0, locals := 0 } : Room).cells ({ frames := 0, cells := 0, slots := 0, locals := 0 } : Room).slots) := by
  refine MetFree.of_bodySF (plainFor_of_name pn_25) hisR ?_
  intro p e s m args below meth c s₁ Bd hml0 hP hK
  obtain ⟨rfl, hZ, hh⟩ := hP
  have hx := Bd.exec
  have hby := Bd.bytes
  have hlk := Bd.notSynchronized
  have hml : c.maxLocals = 3 := hml0
  have hown : s.vm.findClass "java/lang/StringLatin1" = some m.cls := findClass_of_methodNamed Bd.named
  have hnm := (name_of_methodNamed Bd.named Bd.method).1
  have hret := Bd.returns
  have X0 : Stand p l e ({ frames := 0, cells := 0, slots := 0, locals := 0 } : Room) s m #[(.ref va), (.ref vb)] below meth c s₁ [] 0 0 := Stand.of_body Bd
  have e0 : s₁.heap = h0 := by rw [← hh, Bd.state]; rfl
  have N0 := Fr.nil n0
  refine Go.body ?_
  obtain ⟨Pf, hPf⟩ : ∃ P, P = Fin' s below ({ frames := 0, cells := 0, slots := 0, locals := 0 } : Room).cells ({ frames := 0, cells := 0, slots := 0, locals := 0 } : Room).slots (QrmLE_11 Z wD kD vcs va vb ka kb x0 y0 h0 n0) := ⟨_, rfl⟩
  rw [← hPf]
  refine Go.cast (ef_rmLE_11 m) ?_
  show Go p.tables e below Pf (s₁.setTop (mkF m 0 #[vr va, vr vb, .unset] []))
  refine Go.by' (fun t k => (XS.aloadN X0.here hx rfl (hb hby d25_0) rfl rfl k)) ?_
  obtain ⟨cl18, Ar18, -, S18, P18, -, -⟩ := (id VA)
  show Go p.tables e below Pf (s₁.setTop (mkF m 1 #[vr va, vr vb, .unset] [(.ref va)]))
  refine Go.by' (fun t k => (X0.arraylength hx (by rw [e0]; exact Ar18.1) (State.isArrayOf_alike hZ.alike Ar18.2.1) (g := (mkF m 1 #[vr va, vr vb, .unset] [(.ref va)])) rfl rfl (hb hby d25_1) t k)) ?_
  rw [len_of S18 P18]
  show Go p.tables e below Pf (s₁.setTop (mkF m 2 #[vr va, vr vb, .unset] [(.int (1 : Int32))]))
  refine Go.by' (fun t k => (XS.aloadN X0.here hx rfl (hb hby d25_2) rfl rfl k)) ?_
  obtain ⟨cl19, Ar19, -, S19, P19, -, -⟩ := (id VB)
  show Go p.tables e below Pf (s₁.setTop (mkF m 3 #[vr va, vr vb, .unset] [(.ref vb), (.int (1 : Int32))]))
  refine Go.by' (fun t k => (X0.arraylength hx (by rw [e0]; exact Ar19.1) (State.isArrayOf_alike hZ.alike Ar19.2.1) (g := (mkF m 3 #[vr va, vr vb, .unset] [(.ref vb), (.int (1 : Int32))])) rfl rfl (hb hby d25_3) t k)) ?_
  rw [len_of S19 P19]
  show Go p.tables e below Pf (s₁.setTop (mkF m 4 #[vr va, vr vb, .unset] [(.int (1 : Int32)), (.int (1 : Int32))]))
  refine Go.by' (fun t k => (XS.icmpNo X0.here hx rfl (hb hby d25_4) rfl (teq (by decide)).2 (XS.iconst X0.here hx rfl (hb hby d25_7) (XS.istoreN X0.here hx rfl (hb hby d25_8) rfl (l' := #[vr va, vr vb, vi (0 : Int32)]) rfl (XS.iloadN X0.here hx rfl (hb hby d25_9) rfl (XS.aloadN X0.here hx rfl (hb hby d25_10) rfl rfl k)))))) ?_
  obtain ⟨cl20, Ar20, -, S20, P20, -, -⟩ := (id VA)
  show Go p.tables e below Pf (s₁.setTop (mkF m 11 #[vr va, vr vb, vi (0 : Int32)] [(.ref va), (.int (0 : Int32))]))
  refine Go.by' (fun t k => (X0.arraylength hx (by rw [e0]; exact Ar20.1) (State.isArrayOf_alike hZ.alike Ar20.2.1) (g := (mkF m 11 #[vr va, vr vb, vi (0 : Int32)] [(.ref va), (.int (0 : Int32))])) rfl rfl (hb hby d25_11) t k)) ?_
  rw [len_of S20 P20]
  show Go p.tables e below Pf (s₁.setTop (mkF m 12 #[vr va, vr vb, vi (0 : Int32)] [(.int (1 : Int32)), (.int (0 : Int32))]))
  refine Go.by' (fun t k => (XS.icmpNo X0.here hx rfl (hb hby d25_12) rfl (tlt (by decide)).2.1 (XS.aloadN X0.here hx rfl (hb hby d25_15) rfl rfl (XS.iloadN X0.here hx rfl (hb hby d25_16) rfl k)))) ?_
  obtain ⟨cl21, Ar21, q21, S21, P21, H21, G21⟩ := (id VA)
  have hin21 : ¬ ((0 : Int32) < 0 ∨ cl21.slots.size ≤ ((0 : Int32)).toNatClampNeg) := inb_of S21 ⟨by decide, by decide⟩
  show Go p.tables e below Pf (s₁.setTop (mkF m 17 #[vr va, vr vb, vi (0 : Int32)] [(.int (0 : Int32)), (.ref va)]))
  refine Go.by' (fun t k => (X0.baloadBytes hx (j := (0 : Int32)) (v := (.int x0)) (by rw [e0]; exact Ar21.1) (State.isArrayOf_alike hZ.alike Ar21.2.1) Ar21.2.2 hin21 (H21.at hin21 rfl) (g := (mkF m 17 #[vr va, vr vb, vi (0 : Int32)] [(.int (0 : Int32)), (.ref va)])) rfl rfl (hb hby d25_17) t (XS.aloadN X0.here hx rfl (hb hby d25_18) rfl rfl (XS.iloadN X0.here hx rfl (hb hby d25_19) rfl k)))) ?_
  obtain ⟨cl22, Ar22, q22, S22, P22, H22, G22⟩ := (id VB)
  have hin22 : ¬ ((0 : Int32) < 0 ∨ cl22.slots.size ≤ ((0 : Int32)).toNatClampNeg) := inb_of S22 ⟨by decide, by decide⟩
  show Go p.tables e below Pf (s₁.setTop (mkF m 20 #[vr va, vr vb, vi (0 : Int32)] [(.int (0 : Int32)), (.ref vb), (.int x0)]))
  refine Go.by' (fun t k => (X0.baloadBytes hx (j := (0 : Int32)) (v := (.int y0)) (by rw [e0]; exact Ar22.1) (State.isArrayOf_alike hZ.alike Ar22.2.1) Ar22.2.2 hin22 (H22.at hin22 rfl) (g := (mkF m 20 #[vr va, vr vb, vi (0 : Int32)] [(.int (0 : Int32)), (.ref vb), (.int x0)])) rfl rfl (hb hby d25_20) t k)) ?_
  show Go p.tables e below Pf (s₁.setTop (mkF m 21 #[vr va, vr vb, vi (0 : Int32)] [(.int y0), (.int x0)]))
  by_cases hc23 : x0 = y0
  · refine Go.by' (fun t k => (XS.icmpYes X0.here hx rfl (pc0 := 21) (pc' := 26) rfl (hb hby d25_21) rfl (teq hc23).1 (by decide) (by decide) (XS.iinc X0.here hx rfl (hb hby d25_26) rfl (l' := #[vr va, vr vb, vi ((0 : Int32) + (1 : Int32))]) rfl k))) ?_
    show Go p.tables e below Pf (s₁.setTop (mkF m 29 #[vr va, vr vb, vi ((0 : Int32) + (1 : Int32))] []))
    refine Go.castF (a := ((0 : Int32) + (1 : Int32))) (b := (1 : Int32)) (fun z' : Int32 => mkF m 29 #[vr va, vr vb, vi z'] []) (by decide) ?_
    show Go p.tables e below Pf (s₁.setTop (mkF m 29 #[vr va, vr vb, vi (1 : Int32)] []))
    refine Go.by' (fun t k => (XS.goto X0.here hx rfl (pc0 := 29) (pc' := 9) rfl (hb hby d25_29) (by decide) (by decide) (XS.iloadN X0.here hx rfl (hb hby d25_9) rfl (XS.aloadN X0.here hx rfl (hb hby d25_10) rfl rfl k)))) ?_
    obtain ⟨cl24, Ar24, -, S24, P24, -, -⟩ := (id VA)
    show Go p.tables e below Pf (s₁.setTop (mkF m 11 #[vr va, vr vb, vi (1 : Int32)] [(.ref va), (.int (1 : Int32))]))
    refine Go.by' (fun t k => (X0.arraylength hx (by rw [e0]; exact Ar24.1) (State.isArrayOf_alike hZ.alike Ar24.2.1) (g := (mkF m 11 #[vr va, vr vb, vi (1 : Int32)] [(.ref va), (.int (1 : Int32))])) rfl rfl (hb hby d25_11) t k)) ?_
    rw [len_of S24 P24]
    show Go p.tables e below Pf (s₁.setTop (mkF m 12 #[vr va, vr vb, vi (1 : Int32)] [(.int (1 : Int32)), (.int (1 : Int32))]))
    refine Go.by' (fun t k => (XS.icmpYes X0.here hx rfl (pc0 := 12) (pc' := 32) rfl (hb hby d25_12) rfl (flt (by decide)).2.1 (by decide) (by decide) (XS.iconst X0.here hx rfl (hb hby d25_32) k))) ?_
    show Go p.tables e below Pf (s₁.setTop (mkF m 33 #[vr va, vr vb, vi (1 : Int32)] [(.int (1 : Int32))]))
    rw [hPf]
    exact Go.retI' X0 hx hret hlk (by simp) rfl (hb hby d25_33) (by decide) (by decide) ⟨(1 : Int32), rfl, rfl, e0, (Or.inl ⟨hc23, rfl⟩)⟩
  · refine Go.by' (fun t k => (XS.icmpNo X0.here hx rfl (hb hby d25_21) rfl (feq hc23).1 (XS.iconst X0.here hx rfl (hb hby d25_24) k))) ?_
    show Go p.tables e below Pf (s₁.setTop (mkF m 25 #[vr va, vr vb, vi (0 : Int32)] [(.int (0 : Int32))]))
    rw [hPf]
    exact Go.retI' X0 hx hret hlk (by simp) rfl (hb hby d25_25) (by decide) (by decide) ⟨(0 : Int32), rfl, rfl, e0, (Or.inr ⟨fun q => hc23 q, rfl⟩)⟩
theorem d24_0 : decode jdk_42_method_66_code 0 = .ok (.aload_n 0, 1) := by decide +kernel
theorem d24_1 : decode jdk_42_method_66_code 1 = .ok (.aload_n 1, 1) := by decide +kernel
theorem d24_2 : decode jdk_42_method_66_code 2 = .ok (.if_acmp .ne 5, 3) := by decide +kernel
theorem d24_7 : decode jdk_42_method_66_code 7 = .ok (.aload_n 1, 1) := by decide +kernel
theorem d24_8 : decode jdk_42_method_66_code 8 = .ok (.instanceof 10, 3) := by decide +kernel
theorem d24_11 : decode jdk_42_method_66_code 11 = .ok (.ifCond .eq 43, 3) := by decide +kernel
theorem d24_14 : decode jdk_42_method_66_code 14 = .ok (.aload_n 1, 1) := by decide +kernel
theorem d24_15 : decode jdk_42_method_66_code 15 = .ok (.checkcast 10, 3) := by decide +kernel
theorem d24_18 : decode jdk_42_method_66_code 18 = .ok (.astore_n 2, 1) := by decide +kernel
theorem d24_19 : decode jdk_42_method_66_code 19 = .ok (.getstatic 38, 3) := by decide +kernel
theorem d24_22 : decode jdk_42_method_66_code 22 = .ok (.ifCond .eq 14, 3) := by decide +kernel
theorem d24_25 : decode jdk_42_method_66_code 25 = .ok (.aload_n 0, 1) := by decide +kernel
theorem d24_26 : decode jdk_42_method_66_code 26 = .ok (.getfield 15, 3) := by decide +kernel
theorem d24_29 : decode jdk_42_method_66_code 29 = .ok (.aload_n 2, 1) := by decide +kernel
theorem d24_30 : decode jdk_42_method_66_code 30 = .ok (.getfield 15, 3) := by decide +kernel
theorem d24_33 : decode jdk_42_method_66_code 33 = .ok (.if_icmp .ne 21, 3) := by decide +kernel
theorem d24_36 : decode jdk_42_method_66_code 36 = .ok (.aload_n 0, 1) := by decide +kernel
theorem d24_37 : decode jdk_42_method_66_code 37 = .ok (.getfield 9, 3) := by decide +kernel
theorem d24_40 : decode jdk_42_method_66_code 40 = .ok (.aload_n 2, 1) := by decide +kernel
theorem d24_41 : decode jdk_42_method_66_code 41 = .ok (.getfield 9, 3) := by decide +kernel
theorem d24_44 : decode jdk_42_method_66_code 44 = .ok (.invokestatic 541, 3) := by decide +kernel
theorem pd_4 : parseMethodDescriptor "([B[B)Z" = some ⟨[(.array .byte), (.array .byte)], some .boolean⟩ := by decide +kernel
theorem d24_47 : decode jdk_42_method_66_code 47 = .ok (.ifCond .eq 7, 3) := by decide +kernel
theorem d24_50 : decode jdk_42_method_66_code 50 = .ok (.iconst 1, 1) := by decide +kernel
theorem d24_51 : decode jdk_42_method_66_code 51 = .ok (.goto 4, 3) := by decide +kernel
theorem d24_55 : decode jdk_42_method_66_code 55 = .ok (.ireturn, 1) := by decide +kernel
theorem d24_54 : decode jdk_42_method_66_code 54 = .ok (.iconst 0, 1) := by decide +kernel
theorem pn_24 : plainName "java/lang/String" = true := by first | (simp [plainName, overriddenIn]; done) | decide +kernel
set_option maxHeartbeats 4000000 in
theorem ef_rmSE_11 (m : MethodId) {sa : Addr} {sb : Addr} : entryFrame m #[(.ref sa), (.ref sb)] 3 = mkF m 0 #[vr sa, vr sb, .unset] [] := by first | (simp [entryFrame, mkF, argsToLocals, Value.category]; done) | rfl
def QrmSE_11 (Z : State) (wD : Addr) (kD : ClassId) (vcs : Int32) (sa : Addr) (sb : Addr) (va : Addr) (vb : Addr) (ka : ClassId) (kb : ClassId) (x0 : Int32) (y0 : Int32) (h0 : Heap) (n0 : Nat) (v : Option Value) (h : Heap) (L : List Loc) : Prop := ∃ (r : Int32), (v = some (.int r)) ∧ (L = []) ∧ (h = h0) ∧ ((x0 = y0 ∧ r = (1 : Int32)) ∨ (¬ (x0 = y0) ∧ r = (0 : Int32)))
set_option maxRecDepth 65536 in
set_option maxHeartbeats 40000000 in
theorem rmSE_11 (l : Launch) (Z : State) (a0 : Array Value) (hw : ∀ d ∈ tables_1, d.before a0 Z = true) (ws : List Jvm.Cond) (wD : Addr) (kD : ClassId) (vcs : Int32) (G : Gh Z wD kD vcs) (sa : Addr) (sb : Addr) (va : Addr) (vb : Addr) (ka : ClassId) (kb : ClassId) (x0 : Int32) (y0 : Int32) (h0 : Heap) (n0 : Nat) (O0 : Old Z n0 h0) (EA : Exa Z h0 sa "java/lang/String") (EB : Exa Z h0 sb "java/lang/String") (FA : Fld Z h0 sa "java/lang/String" "value" "[B" (.ref va)) (FB : Fld Z h0 sb "java/lang/String" "value" "[B" (.ref vb)) (CA : Fld Z h0 sa "java/lang/String" "coder" "B" (.int (0 : Int32))) (CB : Fld Z h0 sb "java/lang/String" "coder" "B" (.int (0 : Int32))) (hne : sa ≠ sb) (VA : Arv Z h0 va ka .byte (1 : Int32) [(.int x0)] (.int (0 : Int32))) (VB : Arv Z h0 vb kb .byte (1 : Int32) [(.int y0)] (.int (0 : Int32))) :
    MetFree l (⟨"java/lang/String", "equals", "(Ljava/lang/Object;)Z"⟩ : MethodName) (head1 (Jvm.Cond.code (⟨"java/lang/String", "equals", "(Ljava/lang/Object;)Z"⟩ : MethodName) jdk_42_method_66_code 3 (some .boolean) :: ws) ({ frames := 1, cells := 0, slots := 0, locals := 14 } : Room)) (fun aa' UU' => aa' = #[(.ref sa), (.ref sb)] ∧ Z.Warmed39 UU'.vm ∧ UU'.heap = h0) (fun _ _ _ _ _ => True) (fun _ UU' oo' VV' => ∃ v' L', oo' = .returned v' ∧ QrmSE_11 Z wD kD vcs sa sb va vb ka kb x0 y0 h0 n0 v' VV'.heap L' ∧ FrameEnd UU' oo' VV' L' ({ frames := 1, cells := 0, slots := 0, locals := 14 } : Room).cells ({ frames := 1, cells := 0, slots := 0, locals := 14 } : Room).slots) := by
  refine MetFree.of_bodySF (plainFor_of_name pn_24) hisR ?_
  intro p e s m args below meth c s₁ Bd hml0 hP hK
  obtain ⟨rfl, hZ, hh⟩ := hP
  have hx := Bd.exec
  have hby := Bd.bytes
  have hlk := Bd.notSynchronized
  have hml : c.maxLocals = 3 := hml0
  have hown : s.vm.findClass "java/lang/String" = some m.cls := findClass_of_methodNamed Bd.named
  have hnm := (name_of_methodNamed Bd.named Bd.method).1
  have hret := Bd.returns
  have X0 : Stand p l e ({ frames := 1, cells := 0, slots := 0, locals := 14 } : Room) s m #[(.ref sa), (.ref sb)] below meth c s₁ [] 0 0 := Stand.of_body Bd
  have e0 : s₁.heap = h0 := by rw [← hh, Bd.state]; rfl
  have N0 := Fr.nil n0
  refine Go.body ?_
  obtain ⟨Pf, hPf⟩ : ∃ P, P = Fin' s below ({ frames := 1, cells := 0, slots := 0, locals := 14 } : Room).cells ({ frames := 1, cells := 0, slots := 0, locals := 14 } : Room).slots (QrmSE_11 Z wD kD vcs sa sb va vb ka kb x0 y0 h0 n0) := ⟨_, rfl⟩
  rw [← hPf]
  refine Go.cast (ef_rmSE_11 m) ?_
  have hw59 := (hw _ (List.mem_of_getElem? (i := 59) rfl))
  have hw71 := (hw _ (List.mem_of_getElem? (i := 71) rfl))
  have hw73 := (hw _ (List.mem_of_getElem? (i := 73) rfl))
  have hw150 := (hw _ (List.mem_of_getElem? (i := 150) rfl))
  have hw151 := (hw _ (List.mem_of_getElem? (i := 151) rfl))
  have hw152 := (hw _ (List.mem_of_getElem? (i := 152) rfl))
  have hw153 := (hw _ (List.mem_of_getElem? (i := 153) rfl))
  have hw154 := (hw _ (List.mem_of_getElem? (i := 154) rfl))
  show Go p.tables e below Pf (s₁.setTop (mkF m 0 #[vr sa, vr sb, .unset] []))
  refine Go.by' (fun t k => (XS.aloadN X0.here hx rfl (hb hby d24_0) rfl rfl (XS.aloadN X0.here hx rfl (hb hby d24_1) rfl rfl k))) ?_
  refine Go.by' (fun t k => Jvm.RoadKit.acmp (g := (mkF m 2 #[vr sa, vr sb, .unset] [(.ref sb), (.ref sa)])) X0 hx rfl rfl rfl (pc0 := 2) (pc' := 7) (same := false) rfl (hb hby d24_2) rfl (decide_eq_false (fun q => hne (Value.ref.inj q))) (by decide) (by decide) k) ?_
  show Go p.tables e below Pf (s₁.setTop (mkF m 7 #[vr sa, vr sb, .unset] []))
  refine Go.by' (fun t k => (XS.aloadN X0.here hx rfl (hb hby d24_7) rfl rfl k)) ?_
  obtain ⟨T25, X25, e25, st25⟩ := instY X0 hx hZ hown hw150 e0 (Ins.self EB) (g := (mkF m 8 #[vr sa, vr sb, .unset] [(.ref sb)])) rfl rfl (hb hby d24_8)
  refine Go.by' st25 ?_
  show Go p.tables e below Pf (T25.setTop (mkF m 11 #[vr sa, vr sb, .unset] [(.int (1 : Int32))]))
  refine Go.by' (fun t k => (XS.ifNo X25.here hx rfl (hb hby d24_11) rfl ((if0 _ _).trans (feq (by decide)).1) (XS.aloadN X25.here hx rfl (hb hby d24_14) rfl rfl k))) ?_
  obtain ⟨T26, X26, e26, st26⟩ := castY X25 hx hZ hown hw150 e25 (Ins.self EB) (g := (mkF m 15 #[vr sa, vr sb, .unset] [(.ref sb)])) rfl rfl (hb hby d24_15)
  refine Go.by' st26 ?_
  show Go p.tables e below Pf (T26.setTop (mkF m 18 #[vr sa, vr sb, .unset] [(.ref sb)]))
  refine Go.by' (fun t k => (XS.astoreN X26.here hx rfl (hb hby d24_18) rfl rfl (l' := #[vr sa, vr sb, vr sb]) rfl k)) ?_
  obtain ⟨T27, X27, e27, st27⟩ := getS2 X26 hx hZ hown (host := "") (Or.inl hw59) Via.refl e26 (G.2.2.2.1.ext O0.2) (g := (mkF m 19 #[vr sa, vr sb, vr sb] [])) rfl (hb hby d24_19)
  refine Go.by' st27 ?_
  show Go p.tables e below Pf (T27.setTop (mkF m 22 #[vr sa, vr sb, vr sb] [(.int vcs)]))
  refine Go.by' (fun t k => (XS.ifNo X27.here hx rfl (hb hby d24_22) rfl ((if0 _ _).trans (feq G.2.2.2.2).1) (XS.aloadN X27.here hx rfl (hb hby d24_25) rfl rfl k))) ?_
  obtain ⟨T28, X28, e28, st28⟩ := getF X27 hx hZ hown (host := "") (Or.inl hw71) Via.refl e27 CA (g := (mkF m 26 #[vr sa, vr sb, vr sb] [(.ref sa)])) rfl rfl (hb hby d24_26)
  refine Go.by' st28 ?_
  show Go p.tables e below Pf (T28.setTop (mkF m 29 #[vr sa, vr sb, vr sb] [(.int (0 : Int32))]))
  refine Go.by' (fun t k => (XS.aloadN X28.here hx rfl (hb hby d24_29) rfl rfl k)) ?_
  obtain ⟨T29, X29, e29, st29⟩ := getF X28 hx hZ hown (host := "") (Or.inl hw71) Via.refl e28 CB (g := (mkF m 30 #[vr sa, vr sb, vr sb] [(.ref sb), (.int (0 : Int32))])) rfl rfl (hb hby d24_30)
  refine Go.by' st29 ?_
  show Go p.tables e below Pf (T29.setTop (mkF m 33 #[vr sa, vr sb, vr sb] [(.int (0 : Int32)), (.int (0 : Int32))]))
  refine Go.by' (fun t k => (XS.icmpNo X29.here hx rfl (hb hby d24_33) rfl (teq (by decide)).2 (XS.aloadN X29.here hx rfl (hb hby d24_36) rfl rfl k))) ?_
  obtain ⟨T30, X30, e30, st30⟩ := getF X29 hx hZ hown (host := "") (Or.inl hw73) Via.refl e29 FA (g := (mkF m 37 #[vr sa, vr sb, vr sb] [(.ref sa)])) rfl rfl (hb hby d24_37)
  refine Go.by' st30 ?_
  show Go p.tables e below Pf (T30.setTop (mkF m 40 #[vr sa, vr sb, vr sb] [(.ref va)]))
  refine Go.by' (fun t k => (XS.aloadN X30.here hx rfl (hb hby d24_40) rfl rfl k)) ?_
  obtain ⟨T31, X31, e31, st31⟩ := getF X30 hx hZ hown (host := "") (Or.inl hw73) Via.refl e30 FB (g := (mkF m 41 #[vr sa, vr sb, vr sb] [(.ref sb), (.ref va)])) rfl rfl (hb hby d24_41)
  refine Go.by' st31 ?_
  obtain ⟨_, _, ⟨T32, L32, k32, n32⟩, -, X32, ⟨Lc32, hQ32, l32, y32, z32⟩, st32⟩ := Jvm.LawKit.callS X31 hx (y := (⟨"java/lang/StringLatin1", "equals", "([B[B)Z"⟩ : MethodName)) hown (mvT hZ hw151) (mvT hZ hw152) (mvT hZ hw153) (mvT hZ hw154) (by decide) (backOf (W := 0) (rmLE_11 l Z a0 hw [] wD kD vcs G va vb ka kb x0 y0 h0 n0 O0 VA VB) hZ hw154 hw153 (by decide) (by decide)) (g := (mkF m 44 #[vr sa, vr sb, vr sb] [(.ref vb), (.ref va)])) rfl (by rw [hml]; rfl) (argsL := [(.ref va), (.ref vb)]) (rest := []) (lenOf pd_4 rfl) rfl (by show 2 * 0 + _ ≤ _; exact Nat.le_of_eq rfl) (hb hby d24_44) (fun _ _ => ⟨rfl, e31, (by decide : 0 + 0 ≤ _), (by decide : 0 + 0 ≤ _)⟩)
  dsimp only [Pt.U, Pt.locs, Pt.cells, Pt.slots] at X32 l32 y32 z32 st32 hQ32
  subst l32 y32 z32
  obtain ⟨r_32, rfl, rfl, e32, r32_0⟩ := hQ32
  try replace X32 := own_nil X32
  refine Go.by' st32 ?_
  rcases r32_0 with ⟨hq32_0, hz32⟩ | ⟨hq32, hz32⟩
  · subst hz32
    show Go p.tables e below Pf (T32.setTop (mkF m 47 #[vr sa, vr sb, vr sb] [(.int (1 : Int32))]))
    refine Go.by' (fun t k => (XS.ifNo X32.here hx rfl (hb hby d24_47) rfl ((if0 _ _).trans (feq (by decide)).1) (XS.iconst X32.here hx rfl (hb hby d24_50) (XS.goto X32.here hx rfl (pc0 := 51) (pc' := 55) rfl (hb hby d24_51) (by decide) (by decide) k)))) ?_
    show Go p.tables e below Pf (T32.setTop (mkF m 55 #[vr sa, vr sb, vr sb] [(.int (1 : Int32))]))
    rw [hPf]
    exact Go.retI' X32 hx hret hlk (by simp) rfl (hb hby d24_55) (by decide) (by decide) ⟨(1 : Int32), rfl, rfl, e32, (Or.inl ⟨hq32_0, rfl⟩)⟩
  · subst hz32
    show Go p.tables e below Pf (T32.setTop (mkF m 47 #[vr sa, vr sb, vr sb] [(.int (0 : Int32))]))
    refine Go.by' (fun t k => (XS.ifYes X32.here hx rfl (pc0 := 47) (pc' := 54) rfl (hb hby d24_47) rfl ((if0 _ _).trans (teq (by decide)).1) (by decide) (by decide) (XS.iconst X32.here hx rfl (hb hby d24_54) k))) ?_
    show Go p.tables e below Pf (T32.setTop (mkF m 55 #[vr sa, vr sb, vr sb] [(.int (0 : Int32))]))
    rw [hPf]
    exact Go.retI' X32 hx hret hlk (by simp) rfl (hb hby d24_55) (by decide) (by decide) ⟨(0 : Int32), rfl, rfl, e32, (Or.inr ⟨hq32, rfl⟩)⟩
theorem d3_0 : decode jdk_22_method_1_code 0 = .ok (.aload_n 0, 1) := by decide +kernel
theorem d3_1 : decode jdk_22_method_1_code 1 = .ok (.invokespecial 1, 3) := by decide +kernel
theorem d3_4 : decode jdk_22_method_1_code 4 = .ok (.return_, 1) := by decide +kernel
theorem pn_3 : plainName "java/util/AbstractCollection" = true := by first | (simp [plainName, overriddenIn]; done) | decide +kernel
set_option maxHeartbeats 4000000 in
theorem ef_rmAC (m : MethodId) {al : Addr} : entryFrame m #[(.ref al)] 1 = mkF m 0 #[vr al] [] := by first | (simp [entryFrame, mkF, argsToLocals, Value.category]; done) | rfl
def QrmAC (Z : State) (wD : Addr) (kD : ClassId) (vcs : Int32) (al : Addr) (h0 : Heap) (n0 : Nat) (v : Option Value) (h : Heap) (L : List Loc) : Prop := (v = none) ∧ (L = []) ∧ (h = h0)
set_option maxRecDepth 65536 in
set_option maxHeartbeats 40000000 in
theorem rmAC (l : Launch) (Z : State) (a0 : Array Value) (hw : ∀ d ∈ tables_1, d.before a0 Z = true) (ws : List Jvm.Cond) (wD : Addr) (kD : ClassId) (vcs : Int32) (G : Gh Z wD kD vcs) (al : Addr) (h0 : Heap) (n0 : Nat) (O0 : Old Z n0 h0) :
    MetFree l (⟨"java/util/AbstractCollection", "<init>", "()V"⟩ : MethodName) (head1 (Jvm.Cond.code (⟨"java/util/AbstractCollection", "<init>", "()V"⟩ : MethodName) jdk_22_method_1_code 1 none :: ws) ({ frames := 1, cells := 0, slots := 0, locals := 12 } : Room)) (fun aa' UU' => aa' = #[(.ref al)] ∧ Z.Warmed39 UU'.vm ∧ UU'.heap = h0) (fun _ _ _ _ _ => True) (fun _ UU' oo' VV' => ∃ v' L', oo' = .returned v' ∧ QrmAC Z wD kD vcs al h0 n0 v' VV'.heap L' ∧ FrameEnd UU' oo' VV' L' ({ frames := 1, cells := 0, slots := 0, locals := 12 } : Room).cells ({ frames := 1, cells := 0, slots := 0, locals := 12 } : Room).slots) := by
  refine MetFree.of_bodySF (plainFor_of_name pn_3) hisR ?_
  intro p e s m args below meth c s₁ Bd hml0 hP hK
  obtain ⟨rfl, hZ, hh⟩ := hP
  have hx := Bd.exec
  have hby := Bd.bytes
  have hlk := Bd.notSynchronized
  have hml : c.maxLocals = 1 := hml0
  have hown : s.vm.findClass "java/util/AbstractCollection" = some m.cls := findClass_of_methodNamed Bd.named
  have hnm := (name_of_methodNamed Bd.named Bd.method).1
  have hret := Bd.returns
  have X0 : Stand p l e ({ frames := 1, cells := 0, slots := 0, locals := 12 } : Room) s m #[(.ref al)] below meth c s₁ [] 0 0 := Stand.of_body Bd
  have e0 : s₁.heap = h0 := by rw [← hh, Bd.state]; rfl
  have N0 := Fr.nil n0
  refine Go.body ?_
  obtain ⟨Pf, hPf⟩ : ∃ P, P = Fin' s below ({ frames := 1, cells := 0, slots := 0, locals := 12 } : Room).cells ({ frames := 1, cells := 0, slots := 0, locals := 12 } : Room).slots (QrmAC Z wD kD vcs al h0 n0) := ⟨_, rfl⟩
  rw [← hPf]
  refine Go.cast (ef_rmAC m) ?_
  have hw18 := (hw _ (List.mem_of_getElem? (i := 18) rfl))
  have hw19 := (hw _ (List.mem_of_getElem? (i := 19) rfl))
  have hw20 := (hw _ (List.mem_of_getElem? (i := 20) rfl))
  show Go p.tables e below Pf (s₁.setTop (mkF m 0 #[vr al] []))
  refine Go.by' (fun t k => (XS.aloadN X0.here hx rfl (hb hby d3_0) rfl rfl k)) ?_
  obtain ⟨T33, X33, e33, st33⟩ := initO X0 hx hZ hown hw18 hw19 hw20 e0 (g := (mkF m 1 #[vr al] [(.ref al)])) rfl (by rw [hml]; rfl) rfl (hb hby d3_1) (by decide) (W := 0) (by show 2 * 0 + _ ≤ _; exact Nat.le_of_eq rfl) (by decide)
  refine Go.by' st33 ?_
  show Go p.tables e below Pf (T33.setTop (mkF m 4 #[vr al] []))
  rw [hPf]
  exact Go.retV' X33 hx hret hlk (hb hby d3_4) (by decide) (by decide) ⟨rfl, rfl, e33⟩
theorem d2_0 : decode jdk_39_method_1_code 0 = .ok (.aload_n 0, 1) := by decide +kernel
theorem d2_1 : decode jdk_39_method_1_code 1 = .ok (.invokespecial 1, 3) := by decide +kernel
theorem pd_5 : parseMethodDescriptor "()V" = some ⟨[], none⟩ := by decide +kernel
theorem d2_4 : decode jdk_39_method_1_code 4 = .ok (.aload_n 0, 1) := by decide +kernel
theorem d2_5 : decode jdk_39_method_1_code 5 = .ok (.iconst 0, 1) := by decide +kernel
theorem d2_6 : decode jdk_39_method_1_code 6 = .ok (.putfield 7, 3) := by decide +kernel
theorem d2_9 : decode jdk_39_method_1_code 9 = .ok (.return_, 1) := by decide +kernel
theorem pn_2 : plainName "java/util/AbstractList" = true := by first | (simp [plainName, overriddenIn]; done) | decide +kernel
set_option maxHeartbeats 4000000 in
theorem ef_rmAB (m : MethodId) {al : Addr} : entryFrame m #[(.ref al)] 1 = mkF m 0 #[vr al] [] := by first | (simp [entryFrame, mkF, argsToLocals, Value.category]; done) | rfl
def QrmAB (Z : State) (wD : Addr) (kD : ClassId) (vcs : Int32) (al : Addr) (h0 : Heap) (n0 : Nat) (v : Option Value) (h : Heap) (L : List Loc) : Prop := (v = none) ∧ (Fr n0 L) ∧ (Keep h0 h [al]) ∧ (Exa Z h al "java/util/ArrayList") ∧ (Fld Z h al "java/util/AbstractList" "modCount" "I" (.int (0 : Int32))) ∧ (Fld Z h al "java/util/ArrayList" "elementData" "[Ljava/lang/Object;" .null) ∧ (Fld Z h al "java/util/ArrayList" "size" "I" (.int (0 : Int32)))
set_option maxRecDepth 65536 in
set_option maxHeartbeats 40000000 in
theorem rmAB (l : Launch) (Z : State) (a0 : Array Value) (hw : ∀ d ∈ tables_1, d.before a0 Z = true) (ws : List Jvm.Cond) (wD : Addr) (kD : ClassId) (vcs : Int32) (G : Gh Z wD kD vcs) (al : Addr) (h0 : Heap) (n0 : Nat) (O0 : Old Z n0 h0) (EX : Exa Z h0 al "java/util/ArrayList") (FM : Fld Z h0 al "java/util/AbstractList" "modCount" "I" (.int (0 : Int32))) (F_elementData : Fld Z h0 al "java/util/ArrayList" "elementData" "[Ljava/lang/Object;" .null) (F_size : Fld Z h0 al "java/util/ArrayList" "size" "I" (.int (0 : Int32))) (g_al : n0 ≤ al) :
    MetFree l (⟨"java/util/AbstractList", "<init>", "()V"⟩ : MethodName) (head1 (Jvm.Cond.code (⟨"java/util/AbstractList", "<init>", "()V"⟩ : MethodName) jdk_39_method_1_code 1 none :: ws) ({ frames := 2, cells := 0, slots := 0, locals := 24 } : Room)) (fun aa' UU' => aa' = #[(.ref al)] ∧ Z.Warmed39 UU'.vm ∧ UU'.heap = h0) (fun _ _ _ _ _ => True) (fun _ UU' oo' VV' => ∃ v' L', oo' = .returned v' ∧ QrmAB Z wD kD vcs al h0 n0 v' VV'.heap L' ∧ FrameEnd UU' oo' VV' L' ({ frames := 2, cells := 0, slots := 0, locals := 24 } : Room).cells ({ frames := 2, cells := 0, slots := 0, locals := 24 } : Room).slots) := by
  refine MetFree.of_bodySF (plainFor_of_name pn_2) hisR ?_
  intro p e s m args below meth c s₁ Bd hml0 hP hK
  obtain ⟨rfl, hZ, hh⟩ := hP
  have hx := Bd.exec
  have hby := Bd.bytes
  have hlk := Bd.notSynchronized
  have hml : c.maxLocals = 1 := hml0
  have hown : s.vm.findClass "java/util/AbstractList" = some m.cls := findClass_of_methodNamed Bd.named
  have hnm := (name_of_methodNamed Bd.named Bd.method).1
  have hret := Bd.returns
  have X0 : Stand p l e ({ frames := 2, cells := 0, slots := 0, locals := 24 } : Room) s m #[(.ref al)] below meth c s₁ [] 0 0 := Stand.of_body Bd
  have e0 : s₁.heap = h0 := by rw [← hh, Bd.state]; rfl
  have N0 := Fr.nil n0
  have KC0 : Keep h0 h0 [al] := Keep.refl _ _
  refine Go.body ?_
  obtain ⟨Pf, hPf⟩ : ∃ P, P = Fin' s below ({ frames := 2, cells := 0, slots := 0, locals := 24 } : Room).cells ({ frames := 2, cells := 0, slots := 0, locals := 24 } : Room).slots (QrmAB Z wD kD vcs al h0 n0) := ⟨_, rfl⟩
  rw [← hPf]
  refine Go.cast (ef_rmAB m) ?_
  have hw1 := (hw _ (List.mem_of_getElem? (i := 1) rfl))
  have hw12 := (hw _ (List.mem_of_getElem? (i := 12) rfl))
  have hw13 := (hw _ (List.mem_of_getElem? (i := 13) rfl))
  have hw16 := (hw _ (List.mem_of_getElem? (i := 16) rfl))
  have hw17 := (hw _ (List.mem_of_getElem? (i := 17) rfl))
  have hw21 := (hw _ (List.mem_of_getElem? (i := 21) rfl))
  have hw22 := (hw _ (List.mem_of_getElem? (i := 22) rfl))
  have hw25 := (hw _ (List.mem_of_getElem? (i := 25) rfl))
  have hw40 := (hw _ (List.mem_of_getElem? (i := 40) rfl))
  show Go p.tables e below Pf (s₁.setTop (mkF m 0 #[vr al] []))
  refine Go.by' (fun t k => (XS.aloadN X0.here hx rfl (hb hby d2_0) rfl rfl k)) ?_
  obtain ⟨_, _, ⟨T34, L34, k34, n34⟩, -, X34, ⟨Lc34, hQ34, l34, y34, z34⟩, st34⟩ := X0.specialBack hx (y := (⟨"java/util/AbstractCollection", "<init>", "()V"⟩ : MethodName)) rfl hown (mvT hZ hw12) (mvT hZ hw13) (mvT hZ hw17) (by decide) (backOf (W := 0) (rmAC l Z a0 hw [] wD kD vcs G al h0 n0 O0 ) hZ hw17 hw16 (by decide) (by decide)) (g := (mkF m 1 #[vr al] [(.ref al)])) rfl (by rw [hml]; rfl) (Steps.refl _) (a := al) (argsL := []) (rest := []) (lenOf pd_5 rfl) rfl (by show 2 * 0 + _ ≤ _; exact Nat.le_of_eq rfl) (hb hby d2_1) (fun _ _ => ⟨rfl, e0, (by decide : 0 + 0 ≤ _), (by decide : 0 + 0 ≤ _)⟩)
  dsimp only [Pt.U, Pt.locs, Pt.cells, Pt.slots] at X34 l34 y34 z34 st34 hQ34
  subst l34 y34 z34
  obtain ⟨rfl, rfl, e34⟩ := hQ34
  try replace X34 := own_nil X34
  refine Go.by' (fun t k => st34.trans k) ?_
  show Go p.tables e below Pf (T34.setTop (mkF m 4 #[vr al] []))
  refine Go.by' (fun t k => (XS.aloadN X34.here hx rfl (hb hby d2_4) rfl rfl (XS.iconst X34.here hx rfl (hb hby d2_5) k))) ?_
  obtain ⟨T35, h35, X35, e35, W35, st35⟩ := putF X34 hx hZ hown (host := "") (Or.inl hw21) Via.refl e34 FM EX (Or.inl hw22) hw1 (ty := .int) (by decide) rfl rfl (g := (mkF m 6 #[vr al] [(.int (0 : Int32)), (.ref al)])) rfl rfl (hb hby d2_6)
  refine Go.by' st35 ?_
  have Fw35 : Fld Z h35 al "java/util/AbstractList" "modCount" "I" (Value.int (0 : Int32)) := FM.same W35
  have N35 := Fr.snoc X35 N0 g_al
  obtain ⟨lc35, X35, N35⟩ := own_pack X35 N35
  have O35 := O0.wr W35 g_al
  have KC35 : Keep h0 h35 [al] := KC0.wr W35 (Or.inl (List.mem_of_getElem? (i := 0) rfl))
  show Go p.tables e below Pf (T35.setTop (mkF m 9 #[vr al] []))
  rw [hPf]
  exact Go.retV' X35 hx hret hlk (hb hby d2_9) (by decide) (by decide) ⟨rfl, N35, (by rw [e35]; exact KC35), (by rw [e35]; exact (EX.wr W35)), (by rw [e35]; exact Fw35), (by rw [e35]; exact (F_elementData.other W35 (Or.inr (slot_ne (Or.inl hw25) (Or.inl hw22) (by decide) (t := (.array (.object "java/lang/Object"))) (t' := .int) (by decide) (by decide))))), (by rw [e35]; exact (F_size.other W35 (Or.inr (slot_ne (Or.inl hw40) (Or.inl hw22) (by decide) (t := .int) (t' := .int) (by decide) (by decide)))))⟩
theorem d1_0 : decode jdk_38_method_2_code 0 = .ok (.aload_n 0, 1) := by decide +kernel
theorem d1_1 : decode jdk_38_method_2_code 1 = .ok (.invokespecial 1, 3) := by decide +kernel
theorem d1_4 : decode jdk_38_method_2_code 4 = .ok (.aload_n 0, 1) := by decide +kernel
theorem d1_5 : decode jdk_38_method_2_code 5 = .ok (.getstatic 39, 3) := by decide +kernel
theorem d1_8 : decode jdk_38_method_2_code 8 = .ok (.putfield 9, 3) := by decide +kernel
theorem d1_11 : decode jdk_38_method_2_code 11 = .ok (.return_, 1) := by decide +kernel
theorem pn_1 : plainName "java/util/ArrayList" = true := by first | (simp [plainName, overriddenIn]; done) | decide +kernel
set_option maxHeartbeats 4000000 in
theorem ef_rmAL (m : MethodId) {al : Addr} : entryFrame m #[(.ref al)] 1 = mkF m 0 #[vr al] [] := by first | (simp [entryFrame, mkF, argsToLocals, Value.category]; done) | rfl
def QrmAL (Z : State) (wD : Addr) (kD : ClassId) (vcs : Int32) (al : Addr) (h0 : Heap) (n0 : Nat) (v : Option Value) (h : Heap) (L : List Loc) : Prop := (v = none) ∧ (Fr n0 L) ∧ (Keep h0 h [al]) ∧ (Exa Z h al "java/util/ArrayList") ∧ (Fld Z h al "java/util/AbstractList" "modCount" "I" (.int (0 : Int32))) ∧ (Fld Z h al "java/util/ArrayList" "elementData" "[Ljava/lang/Object;" (.ref wD)) ∧ (Fld Z h al "java/util/ArrayList" "size" "I" (.int (0 : Int32)))
set_option maxRecDepth 65536 in
set_option maxHeartbeats 40000000 in
theorem rmAL (l : Launch) (Z : State) (a0 : Array Value) (hw : ∀ d ∈ tables_1, d.before a0 Z = true) (ws : List Jvm.Cond) (wD : Addr) (kD : ClassId) (vcs : Int32) (G : Gh Z wD kD vcs) (al : Addr) (h0 : Heap) (n0 : Nat) (O0 : Old Z n0 h0) (EX : Exa Z h0 al "java/util/ArrayList") (FM : Fld Z h0 al "java/util/AbstractList" "modCount" "I" (.int (0 : Int32))) (F_elementData : Fld Z h0 al "java/util/ArrayList" "elementData" "[Ljava/lang/Object;" .null) (F_size : Fld Z h0 al "java/util/ArrayList" "size" "I" (.int (0 : Int32))) (g_al : n0 ≤ al) :
    MetFree l (⟨"java/util/ArrayList", "<init>", "()V"⟩ : MethodName) (head1 (Jvm.Cond.code (⟨"java/util/ArrayList", "<init>", "()V"⟩ : MethodName) jdk_38_method_2_code 1 none :: ws) ({ frames := 3, cells := 0, slots := 0, locals := 36 } : Room)) (fun aa' UU' => aa' = #[(.ref al)] ∧ Z.Warmed39 UU'.vm ∧ UU'.heap = h0) (fun _ _ _ _ _ => True) (fun _ UU' oo' VV' => ∃ v' L', oo' = .returned v' ∧ QrmAL Z wD kD vcs al h0 n0 v' VV'.heap L' ∧ FrameEnd UU' oo' VV' L' ({ frames := 3, cells := 0, slots := 0, locals := 36 } : Room).cells ({ frames := 3, cells := 0, slots := 0, locals := 36 } : Room).slots) := by
  refine MetFree.of_bodySF (plainFor_of_name pn_1) hisR ?_
  intro p e s m args below meth c s₁ Bd hml0 hP hK
  obtain ⟨rfl, hZ, hh⟩ := hP
  have hx := Bd.exec
  have hby := Bd.bytes
  have hlk := Bd.notSynchronized
  have hml : c.maxLocals = 1 := hml0
  have hown : s.vm.findClass "java/util/ArrayList" = some m.cls := findClass_of_methodNamed Bd.named
  have hnm := (name_of_methodNamed Bd.named Bd.method).1
  have hret := Bd.returns
  have X0 : Stand p l e ({ frames := 3, cells := 0, slots := 0, locals := 36 } : Room) s m #[(.ref al)] below meth c s₁ [] 0 0 := Stand.of_body Bd
  have e0 : s₁.heap = h0 := by rw [← hh, Bd.state]; rfl
  have N0 := Fr.nil n0
  have KC0 : Keep h0 h0 [al] := Keep.refl _ _
  refine Go.body ?_
  obtain ⟨Pf, hPf⟩ : ∃ P, P = Fin' s below ({ frames := 3, cells := 0, slots := 0, locals := 36 } : Room).cells ({ frames := 3, cells := 0, slots := 0, locals := 36 } : Room).slots (QrmAL Z wD kD vcs al h0 n0) := ⟨_, rfl⟩
  rw [← hPf]
  refine Go.cast (ef_rmAL m) ?_
  have hw1 := (hw _ (List.mem_of_getElem? (i := 1) rfl))
  have hw6 := (hw _ (List.mem_of_getElem? (i := 6) rfl))
  have hw7 := (hw _ (List.mem_of_getElem? (i := 7) rfl))
  have hw10 := (hw _ (List.mem_of_getElem? (i := 10) rfl))
  have hw11 := (hw _ (List.mem_of_getElem? (i := 11) rfl))
  have hw22 := (hw _ (List.mem_of_getElem? (i := 22) rfl))
  have hw23 := (hw _ (List.mem_of_getElem? (i := 23) rfl))
  have hw24 := (hw _ (List.mem_of_getElem? (i := 24) rfl))
  have hw25 := (hw _ (List.mem_of_getElem? (i := 25) rfl))
  have hw40 := (hw _ (List.mem_of_getElem? (i := 40) rfl))
  show Go p.tables e below Pf (s₁.setTop (mkF m 0 #[vr al] []))
  refine Go.by' (fun t k => (XS.aloadN X0.here hx rfl (hb hby d1_0) rfl rfl k)) ?_
  obtain ⟨_, _, ⟨T36, L36, k36, n36⟩, -, X36, ⟨Lc36, hQ36, l36, y36, z36⟩, st36⟩ := X0.specialBack hx (y := (⟨"java/util/AbstractList", "<init>", "()V"⟩ : MethodName)) rfl hown (mvT hZ hw6) (mvT hZ hw7) (mvT hZ hw11) (by decide) (backOf (W := 0) (rmAB l Z a0 hw [] wD kD vcs G al h0 n0 O0 EX FM F_elementData F_size g_al) hZ hw11 hw10 (by decide) (by decide)) (g := (mkF m 1 #[vr al] [(.ref al)])) rfl (by rw [hml]; rfl) (Steps.refl _) (a := al) (argsL := []) (rest := []) (lenOf pd_5 rfl) rfl (by show 2 * 0 + _ ≤ _; exact Nat.le_of_eq rfl) (hb hby d1_1) (fun _ _ => ⟨rfl, e0, (by decide : 0 + 0 ≤ _), (by decide : 0 + 0 ≤ _)⟩)
  dsimp only [Pt.U, Pt.locs, Pt.cells, Pt.slots] at X36 l36 y36 z36 st36 hQ36
  subst l36 y36 z36
  obtain ⟨rfl, N36q, K36, f36_0, f36_1, f36_2, f36_3⟩ := hQ36
  have N36 := Fr.app N0 N36q
  obtain ⟨lc36, X36, N36⟩ := own_pack X36 N36
  refine Go.by' (fun t k => st36.trans k) ?_
  have O36 := O0.keep K36 (allS g_al all0)
  have KC36 : Keep h0 T36.heap [al] := KC0.trans K36 (allS (Or.inl (List.mem_of_getElem? (i := 0) rfl)) all0)
  show Go p.tables e below Pf (T36.setTop (mkF m 4 #[vr al] []))
  refine Go.by' (fun t k => (XS.aloadN X36.here hx rfl (hb hby d1_4) rfl rfl k)) ?_
  obtain ⟨T37, X37, e37, st37⟩ := getS2 X36 hx hZ hown (host := "") (Or.inl hw23) Via.refl rfl (G.1.ext O36.2) (g := (mkF m 5 #[vr al] [(.ref al)])) rfl (hb hby d1_5)
  refine Go.by' st37 ?_
  obtain ⟨T38, h38, X38, e38, W38, st38⟩ := putF X37 hx hZ hown (host := "") (Or.inl hw24) Via.refl e37 f36_2 f36_0 (Or.inl hw25) hw1 (ty := (.array (.object "java/lang/Object"))) (by decide) rfl rfl (g := (mkF m 8 #[vr al] [(.ref wD), (.ref al)])) rfl rfl (hb hby d1_8)
  refine Go.by' st38 ?_
  have Fw38 : Fld Z h38 al "java/util/ArrayList" "elementData" "[Ljava/lang/Object;" (Value.ref wD) := f36_2.same W38
  have N38 := Fr.snoc X38 N36 g_al
  obtain ⟨lc38, X38, N38⟩ := own_pack X38 N38
  have O38 := O36.wr W38 g_al
  have KC38 : Keep h0 h38 [al] := KC36.wr W38 (Or.inl (List.mem_of_getElem? (i := 0) rfl))
  show Go p.tables e below Pf (T38.setTop (mkF m 11 #[vr al] []))
  rw [hPf]
  exact Go.retV' X38 hx hret hlk (hb hby d1_11) (by decide) (by decide) ⟨rfl, N38, (by rw [e38]; exact KC38), (by rw [e38]; exact (f36_0.wr W38)), (by rw [e38]; exact (f36_1.other W38 (Or.inr (slot_ne (Or.inl hw22) (Or.inl hw25) (by decide) (t := .int) (t' := (.array (.object "java/lang/Object"))) (by decide) (by decide))))), (by rw [e38]; exact Fw38), (by rw [e38]; exact (f36_3.other W38 (Or.inr (slot_ne (Or.inl hw40) (Or.inl hw25) (by decide) (t := .int) (t' := (.array (.object "java/lang/Object"))) (by decide) (by decide)))))⟩
theorem d19_0 : decode jdk_29_method_65_code 0 = .ok (.iload_n 0, 1) := by decide +kernel
theorem d19_1 : decode jdk_29_method_65_code 1 = .ok (.iload_n 1, 1) := by decide +kernel
theorem d19_2 : decode jdk_29_method_65_code 2 = .ok (.if_icmp .lt 7, 3) := by decide +kernel
theorem d19_9 : decode jdk_29_method_65_code 9 = .ok (.iload_n 1, 1) := by decide +kernel
theorem d19_5 : decode jdk_29_method_65_code 5 = .ok (.iload_n 0, 1) := by decide +kernel
theorem d19_6 : decode jdk_29_method_65_code 6 = .ok (.goto 4, 3) := by decide +kernel
theorem d19_10 : decode jdk_29_method_65_code 10 = .ok (.ireturn, 1) := by decide +kernel
set_option maxHeartbeats 4000000 in
theorem ef_rmMax (m : MethodId) {ia : Int32} {ib : Int32} : entryFrame m #[(.int ia), (.int ib)] 2 = mkF m 0 #[vi ia, vi ib] [] := by first | (simp [entryFrame, mkF, argsToLocals, Value.category]; done) | rfl
def QrmMax (Z : State) (wD : Addr) (kD : ClassId) (vcs : Int32) (ia : Int32) (ib : Int32) (h0 : Heap) (n0 : Nat) (v : Option Value) (h : Heap) (L : List Loc) : Prop := ∃ (r : Int32), (v = some (.int r)) ∧ (L = []) ∧ (h = h0) ∧ ((ia < ib ∧ r = ib) ∨ (¬ (ia < ib) ∧ r = ia))
set_option maxRecDepth 65536 in
set_option maxHeartbeats 40000000 in
theorem rmMax (l : Launch) (Z : State) (a0 : Array Value) (hw : ∀ d ∈ tables_1, d.before a0 Z = true) (ws : List Jvm.Cond) (wD : Addr) (kD : ClassId) (vcs : Int32) (G : Gh Z wD kD vcs) (ia : Int32) (ib : Int32) (h0 : Heap) (n0 : Nat) (O0 : Old Z n0 h0) :
    MetFree l (⟨"java/lang/Math", "max", "(II)I"⟩ : MethodName) (head1 (Jvm.Cond.code (⟨"java/lang/Math", "max", "(II)I"⟩ : MethodName) jdk_29_method_65_code 2 (some .int) :: ws) ({ frames := 0, cells := 0, slots := 0, locals := 0 } : Room)) (fun aa' UU' => aa' = #[(.int ia), (.int ib)] ∧ Z.Warmed39 UU'.vm ∧ UU'.heap = h0) (fun _ _ _ _ _ => True) (fun _ UU' oo' VV' => ∃ v' L', oo' = .returned v' ∧ QrmMax Z wD kD vcs ia ib h0 n0 v' VV'.heap L' ∧ FrameEnd UU' oo' VV' L' ({ frames := 0, cells := 0, slots := 0, locals := 0 } : Room).cells ({ frames := 0, cells := 0, slots := 0, locals := 0 } : Room).slots) := by
  refine MetFree.of_bodySF (Jvm.Free.JP.mathPlain rfl (by decide +kernel)) hisR ?_
  intro p e s m args below meth c s₁ Bd hml0 hP hK
  obtain ⟨rfl, hZ, hh⟩ := hP
  have hx := Bd.exec
  have hby := Bd.bytes
  have hlk := Bd.notSynchronized
  have hml : c.maxLocals = 2 := hml0
  have hown : s.vm.findClass "java/lang/Math" = some m.cls := findClass_of_methodNamed Bd.named
  have hnm := (name_of_methodNamed Bd.named Bd.method).1
  have hret := Bd.returns
  have X0 : Stand p l e ({ frames := 0, cells := 0, slots := 0, locals := 0 } : Room) s m #[(.int ia), (.int ib)] below meth c s₁ [] 0 0 := Stand.of_body Bd
  have e0 : s₁.heap = h0 := by rw [← hh, Bd.state]; rfl
  have N0 := Fr.nil n0
  refine Go.body ?_
  obtain ⟨Pf, hPf⟩ : ∃ P, P = Fin' s below ({ frames := 0, cells := 0, slots := 0, locals := 0 } : Room).cells ({ frames := 0, cells := 0, slots := 0, locals := 0 } : Room).slots (QrmMax Z wD kD vcs ia ib h0 n0) := ⟨_, rfl⟩
  rw [← hPf]
  refine Go.cast (ef_rmMax m) ?_
  show Go p.tables e below Pf (s₁.setTop (mkF m 0 #[vi ia, vi ib] []))
  refine Go.by' (fun t k => (XS.iloadN X0.here hx rfl (hb hby d19_0) rfl (XS.iloadN X0.here hx rfl (hb hby d19_1) rfl k))) ?_
  show Go p.tables e below Pf (s₁.setTop (mkF m 2 #[vi ia, vi ib] [(.int ib), (.int ia)]))
  have jn40 : ∀ (T' : State) (w40_0 : Int32), Like X0 T' → T'.heap = h0 → ((ia < ib ∧ w40_0 = ib) ∨ (¬ (ia < ib) ∧ w40_0 = ia)) → Go p.tables e below Pf (T'.setTop (mkF m 10 #[vi ia, vi ib] [(.int w40_0)])) := by
    intro T40 w40_0 X40 e40 hm40
    unfold Like at X40
    show Go p.tables e below Pf (T40.setTop (mkF m 10 #[vi ia, vi ib] [(.int w40_0)]))
    rw [hPf]
    exact Go.retI' X40 hx hret hlk (by simp) rfl (hb hby d19_10) (by decide) (by decide) ⟨w40_0, rfl, rfl, e40, hm40⟩
  by_cases hc41 : ia < ib
  · refine Go.by' (fun t k => (XS.icmpYes X0.here hx rfl (pc0 := 2) (pc' := 9) rfl (hb hby d19_2) rfl (tlt hc41).1 (by decide) (by decide) (XS.iloadN X0.here hx rfl (hb hby d19_9) rfl k))) ?_
    show Go p.tables e below Pf (s₁.setTop (mkF m 10 #[vi ia, vi ib] [(.int ib)]))
    exact jn40 s₁ (ib) X0 e0  (Or.inl ⟨hc41, rfl⟩)
  · refine Go.by' (fun t k => (XS.icmpNo X0.here hx rfl (hb hby d19_2) rfl (flt hc41).1 (XS.iloadN X0.here hx rfl (hb hby d19_5) rfl (XS.goto X0.here hx rfl (pc0 := 6) (pc' := 10) rfl (hb hby d19_6) (by decide) (by decide) k)))) ?_
    show Go p.tables e below Pf (s₁.setTop (mkF m 10 #[vi ia, vi ib] [(.int ia)]))
    exact jn40 s₁ (ia) X0 e0  (Or.inr ⟨hc41, rfl⟩)
theorem d18_0 : decode jdk_38_method_6_code 0 = .ok (.aload_n 0, 1) := by decide +kernel
theorem d18_1 : decode jdk_38_method_6_code 1 = .ok (.getfield 9, 3) := by decide +kernel
theorem d18_4 : decode jdk_38_method_6_code 4 = .ok (.arraylength, 1) := by decide +kernel
theorem d18_5 : decode jdk_38_method_6_code 5 = .ok (.istore_n 2, 1) := by decide +kernel
theorem d18_6 : decode jdk_38_method_6_code 6 = .ok (.iload_n 2, 1) := by decide +kernel
theorem d18_7 : decode jdk_38_method_6_code 7 = .ok (.ifCond .gt 13, 3) := by decide +kernel
theorem d18_10 : decode jdk_38_method_6_code 10 = .ok (.aload_n 0, 1) := by decide +kernel
theorem d18_11 : decode jdk_38_method_6_code 11 = .ok (.getfield 9, 3) := by decide +kernel
theorem d18_14 : decode jdk_38_method_6_code 14 = .ok (.getstatic 39, 3) := by decide +kernel
theorem d18_17 : decode jdk_38_method_6_code 17 = .ok (.if_acmp .eq 28, 3) := by decide +kernel
theorem d18_45 : decode jdk_38_method_6_code 45 = .ok (.aload_n 0, 1) := by decide +kernel
theorem d18_46 : decode jdk_38_method_6_code 46 = .ok (.bipush 10, 2) := by decide +kernel
theorem d18_48 : decode jdk_38_method_6_code 48 = .ok (.iload_n 1, 1) := by decide +kernel
theorem d18_49 : decode jdk_38_method_6_code 49 = .ok (.invokestatic 79, 3) := by decide +kernel
theorem pd_6 : parseMethodDescriptor "(II)I" = some ⟨[.int, .int], some .int⟩ := by decide +kernel
theorem d18_52 : decode jdk_38_method_6_code 52 = .ok (.anewarray 7, 3) := by decide +kernel
theorem d18_55 : decode jdk_38_method_6_code 55 = .ok (.dup_x1, 1) := by decide +kernel
theorem d18_56 : decode jdk_38_method_6_code 56 = .ok (.putfield 9, 3) := by decide +kernel
theorem d18_59 : decode jdk_38_method_6_code 59 = .ok (.areturn, 1) := by decide +kernel
theorem pn_18 : plainName "java/util/ArrayList" = true := by first | (simp [plainName, overriddenIn]; done) | decide +kernel
set_option maxHeartbeats 4000000 in
theorem ef_rmG1 (m : MethodId) {al : Addr} : entryFrame m #[(.ref al), (.int (1 : Int32))] 4 = mkF m 0 #[vr al, vi (1 : Int32), .unset, .unset] [] := by first | (simp [entryFrame, mkF, argsToLocals, Value.category]; done) | rfl
def QrmG1 (Z : State) (wD : Addr) (kD : ClassId) (vcs : Int32) (al : Addr) (mc : Int32) (h0 : Heap) (n0 : Nat) (v : Option Value) (h : Heap) (L : List Loc) : Prop := ∃ (r : Addr) (kk : ClassId), (v = some (.ref r)) ∧ (Fr n0 L) ∧ (Keep h0 h [al]) ∧ (Arv Z h r kk (.object "java/lang/Object") (10 : Int32) [.null, .null, .null, .null, .null, .null, .null, .null, .null, .null] Value.null) ∧ (h0.size ≤ r) ∧ (Exa Z h al "java/util/ArrayList") ∧ (Fld Z h al "java/util/ArrayList" "elementData" "[Ljava/lang/Object;" (.ref r)) ∧ (Fld Z h al "java/util/ArrayList" "size" "I" (.int (0 : Int32))) ∧ (Fld Z h al "java/util/AbstractList" "modCount" "I" (.int mc)) ∧ (Ovr Z kk "java/lang/Object")
set_option maxRecDepth 65536 in
set_option maxHeartbeats 40000000 in
theorem rmG1 (l : Launch) (Z : State) (a0 : Array Value) (hw : ∀ d ∈ tables_1, d.before a0 Z = true) (ws : List Jvm.Cond) (wD : Addr) (kD : ClassId) (vcs : Int32) (G : Gh Z wD kD vcs) (al : Addr) (mc : Int32) (h0 : Heap) (n0 : Nat) (O0 : Old Z n0 h0) (EX : Exa Z h0 al "java/util/ArrayList") (FS : Fld Z h0 al "java/util/ArrayList" "size" "I" (.int (0 : Int32))) (FE : Fld Z h0 al "java/util/ArrayList" "elementData" "[Ljava/lang/Object;" (.ref wD)) (FM : Fld Z h0 al "java/util/AbstractList" "modCount" "I" (.int mc)) (g_al : n0 ≤ al) :
    MetFree l (⟨"java/util/ArrayList", "grow", "(I)[Ljava/lang/Object;"⟩ : MethodName) (head1 (Jvm.Cond.code (⟨"java/util/ArrayList", "grow", "(I)[Ljava/lang/Object;"⟩ : MethodName) jdk_38_method_6_code 4 (some (.array (.object "java/lang/Object"))) :: ws) ({ frames := 1, cells := 1, slots := 10, locals := 14 } : Room)) (fun aa' UU' => aa' = #[(.ref al), (.int (1 : Int32))] ∧ Z.Warmed39 UU'.vm ∧ UU'.heap = h0) (fun _ _ _ _ _ => True) (fun _ UU' oo' VV' => ∃ v' L', oo' = .returned v' ∧ QrmG1 Z wD kD vcs al mc h0 n0 v' VV'.heap L' ∧ FrameEnd UU' oo' VV' L' ({ frames := 1, cells := 1, slots := 10, locals := 14 } : Room).cells ({ frames := 1, cells := 1, slots := 10, locals := 14 } : Room).slots) := by
  refine MetFree.of_bodySF (plainFor_of_name pn_18) hisR ?_
  intro p e s m args below meth c s₁ Bd hml0 hP hK
  obtain ⟨rfl, hZ, hh⟩ := hP
  have hx := Bd.exec
  have hby := Bd.bytes
  have hlk := Bd.notSynchronized
  have hml : c.maxLocals = 4 := hml0
  have hown : s.vm.findClass "java/util/ArrayList" = some m.cls := findClass_of_methodNamed Bd.named
  have hnm := (name_of_methodNamed Bd.named Bd.method).1
  have hret := Bd.returns
  have X0 : Stand p l e ({ frames := 1, cells := 1, slots := 10, locals := 14 } : Room) s m #[(.ref al), (.int (1 : Int32))] below meth c s₁ [] 0 0 := Stand.of_body Bd
  have e0 : s₁.heap = h0 := by rw [← hh, Bd.state]; rfl
  have N0 := Fr.nil n0
  have KC0 : Keep h0 h0 [al] := Keep.refl _ _
  refine Go.body ?_
  obtain ⟨Pf, hPf⟩ : ∃ P, P = Fin' s below ({ frames := 1, cells := 1, slots := 10, locals := 14 } : Room).cells ({ frames := 1, cells := 1, slots := 10, locals := 14 } : Room).slots (QrmG1 Z wD kD vcs al mc h0 n0) := ⟨_, rfl⟩
  rw [← hPf]
  refine Go.cast (ef_rmG1 m) ?_
  have hw1 := (hw _ (List.mem_of_getElem? (i := 1) rfl))
  have hw22 := (hw _ (List.mem_of_getElem? (i := 22) rfl))
  have hw23 := (hw _ (List.mem_of_getElem? (i := 23) rfl))
  have hw24 := (hw _ (List.mem_of_getElem? (i := 24) rfl))
  have hw25 := (hw _ (List.mem_of_getElem? (i := 25) rfl))
  have hw40 := (hw _ (List.mem_of_getElem? (i := 40) rfl))
  have hw115 := (hw _ (List.mem_of_getElem? (i := 115) rfl))
  have hw116 := (hw _ (List.mem_of_getElem? (i := 116) rfl))
  have hw117 := (hw _ (List.mem_of_getElem? (i := 117) rfl))
  have hw118 := (hw _ (List.mem_of_getElem? (i := 118) rfl))
  have hw119 := (hw _ (List.mem_of_getElem? (i := 119) rfl))
  have hw120 := (hw _ (List.mem_of_getElem? (i := 120) rfl))
  show Go p.tables e below Pf (s₁.setTop (mkF m 0 #[vr al, vi (1 : Int32), .unset, .unset] []))
  refine Go.by' (fun t k => (XS.aloadN X0.here hx rfl (hb hby d18_0) rfl rfl k)) ?_
  obtain ⟨T42, X42, e42, st42⟩ := getF X0 hx hZ hown (host := "") (Or.inl hw24) Via.refl e0 FE (g := (mkF m 1 #[vr al, vi (1 : Int32), .unset, .unset] [(.ref al)])) rfl rfl (hb hby d18_1)
  refine Go.by' st42 ?_
  obtain ⟨cl43, Ar43, -, S43, P43, -, -⟩ := (id (G.2.2.1.ext O0.2))
  show Go p.tables e below Pf (T42.setTop (mkF m 4 #[vr al, vi (1 : Int32), .unset, .unset] [(.ref wD)]))
  refine Go.by' (fun t k => (X42.arraylength hx (by rw [e42]; exact Ar43.1) (State.isArrayOf_alike hZ.alike Ar43.2.1) (g := (mkF m 4 #[vr al, vi (1 : Int32), .unset, .unset] [(.ref wD)])) rfl rfl (hb hby d18_4) t k)) ?_
  rw [len_of S43 P43]
  show Go p.tables e below Pf (T42.setTop (mkF m 5 #[vr al, vi (1 : Int32), .unset, .unset] [(.int (0 : Int32))]))
  refine Go.by' (fun t k => (XS.istoreN X42.here hx rfl (hb hby d18_5) rfl (l' := #[vr al, vi (1 : Int32), vi (0 : Int32), .unset]) rfl (XS.iloadN X42.here hx rfl (hb hby d18_6) rfl (XS.ifNo X42.here hx rfl (hb hby d18_7) rfl ((if0 _ _).trans (flt (by decide)).2.2.1) (XS.aloadN X42.here hx rfl (hb hby d18_10) rfl rfl k))))) ?_
  obtain ⟨T44, X44, e44, st44⟩ := getF X42 hx hZ hown (host := "") (Or.inl hw24) Via.refl e42 FE (g := (mkF m 11 #[vr al, vi (1 : Int32), vi (0 : Int32), .unset] [(.ref al)])) rfl rfl (hb hby d18_11)
  refine Go.by' st44 ?_
  obtain ⟨T45, X45, e45, st45⟩ := getS2 X44 hx hZ hown (host := "") (Or.inl hw23) Via.refl e44 (G.1.ext O0.2) (g := (mkF m 14 #[vr al, vi (1 : Int32), vi (0 : Int32), .unset] [(.ref wD)])) rfl (hb hby d18_14)
  refine Go.by' st45 ?_
  refine Go.by' (fun t k => Jvm.RoadKit.acmp (g := (mkF m 17 #[vr al, vi (1 : Int32), vi (0 : Int32), .unset] [(.ref wD), (.ref wD)])) X45 hx rfl rfl rfl (pc0 := 17) (pc' := 45) (same := true) rfl (hb hby d18_17) rfl (decide_eq_true rfl) (by decide) (by decide) k) ?_
  show Go p.tables e below Pf (T45.setTop (mkF m 45 #[vr al, vi (1 : Int32), vi (0 : Int32), .unset] []))
  refine Go.by' (fun t k => (XS.aloadN X45.here hx rfl (hb hby d18_45) rfl rfl (XS.bipush X45.here hx rfl (hb hby d18_46) (XS.iloadN X45.here hx rfl (hb hby d18_48) rfl k)))) ?_
  obtain ⟨_, _, ⟨T46, L46, k46, n46⟩, -, X46, ⟨Lc46, hQ46, l46, y46, z46⟩, st46⟩ := Jvm.LawKit.callS X45 hx (y := (⟨"java/lang/Math", "max", "(II)I"⟩ : MethodName)) hown (mvT hZ hw115) (mvT hZ hw116) (mvT hZ hw117) (mvT hZ hw118) (by decide) (backOf (W := 1) (rmMax l Z a0 hw [] wD kD vcs G ((10 : Int32)) ((1 : Int32)) h0 n0 O0 ) hZ hw118 hw117 (by decide) (by decide)) (g := (mkF m 49 #[vr al, vi (1 : Int32), vi (0 : Int32), .unset] [(.int (1 : Int32)), (.int (10 : Int32)), (.ref al)])) rfl (by rw [hml]; rfl) (argsL := [(.int (10 : Int32)), (.int (1 : Int32))]) (rest := [(.ref al)]) (lenOf pd_6 rfl) rfl (by show 2 * 0 + _ ≤ _; exact Nat.le_of_eq rfl) (hb hby d18_49) (fun _ _ => ⟨rfl, e45, (by decide : 0 + 0 ≤ _), (by decide : 0 + 0 ≤ _)⟩)
  dsimp only [Pt.U, Pt.locs, Pt.cells, Pt.slots] at X46 l46 y46 z46 st46 hQ46
  subst l46 y46 z46
  obtain ⟨r_46, rfl, rfl, e46, r46_0⟩ := hQ46
  try replace X46 := own_nil X46
  refine Go.by' st46 ?_
  obtain rfl : r_46 = (10 : Int32) := by rcases r46_0 with ⟨h1, h2⟩ | ⟨h1, h2⟩ <;> first | exact h2 | exact absurd h1 (by decide)
  obtain ⟨T47, h47, k47, X47, e47, E47, A47, Ov47, st47⟩ := newR X46 hx hZ hown hw119 hw120 e46 (g := (mkF m 52 #[vr al, vi (1 : Int32), vi (0 : Int32), .unset] [(.int (10 : Int32)), (.ref al)])) rfl (hb hby d18_52) rfl (by decide) (cap := 10) (by decide) (by decide) (by decide) (by decide)
  obtain ⟨b47, g47⟩ : ∃ z, z = h0.size := ⟨_, rfl⟩
  rw [← g47] at A47 st47
  refine Go.by' st47 ?_
  have g_b47 : n0 ≤ b47 := Nat.le_trans (own_le O0) (Nat.le_of_eq g47.symm)
  have sz_b47 : h0.size ≤ b47 := Nat.le_trans KC0.1 (Nat.le_of_eq g47.symm)
  have O47 := O0.ext E47
  have KC47 : Keep h0 h47 [al] := KC0.ext E47
  have V47 : Arv Z h47 b47 k47 (.object "java/lang/Object") (10 : Int32) [.null, .null, .null, .null, .null, .null, .null, .null, .null, .null] Value.null := (Arv.new A47 (by decide)).pad (pad_rep [] Value.null 10)
  show Go p.tables e below Pf (T47.setTop (mkF m 55 #[vr al, vi (1 : Int32), vi (0 : Int32), .unset] [(.ref b47), (.ref al)]))
  refine Go.by' (fun t k => (XS.dupX1 X47.here hx rfl (hb hby d18_55) rfl rfl rfl k)) ?_
  obtain ⟨T48, h48, X48, e48, W48, st48⟩ := putF X47 hx hZ hown (host := "") (Or.inl hw24) Via.refl e47 (FE.ext E47) (EX.ext E47) (Or.inl hw25) hw1 (ty := (.array (.object "java/lang/Object"))) (by decide) rfl rfl (g := (mkF m 56 #[vr al, vi (1 : Int32), vi (0 : Int32), .unset] [(.ref b47), (.ref al), (.ref b47)])) rfl rfl (hb hby d18_56)
  refine Go.by' st48 ?_
  have Fw48 : Fld Z h48 al "java/util/ArrayList" "elementData" "[Ljava/lang/Object;" (Value.ref b47) := (FE.ext E47).same W48
  have N48 := Fr.snoc X48 N0 g_al
  obtain ⟨lc48, X48, N48⟩ := own_pack X48 N48
  have O48 := O47.wr W48 g_al
  have KC48 : Keep h0 h48 [al] := KC47.wr W48 (Or.inl (List.mem_of_getElem? (i := 0) rfl))
  have c49 := ((EX.ext E47).wr W48)
  have c50 := ((FS.ext E47).other W48 (Or.inr (slot_ne (Or.inl hw40) (Or.inl hw25) (by decide) (t := .int) (t' := (.array (.object "java/lang/Object"))) (by decide) (by decide))))
  have c51 := ((FM.ext E47).other W48 (Or.inr (slot_ne (Or.inl hw22) (Or.inl hw25) (by decide) (t := .int) (t' := (.array (.object "java/lang/Object"))) (by decide) (by decide))))
  show Go p.tables e below Pf (T48.setTop (mkF m 59 #[vr al, vi (1 : Int32), vi (0 : Int32), .unset] [(.ref b47)]))
  rw [hPf]
  exact Go.retA' X48 hx hret hlk rfl rfl (hb hby d18_59) (by decide) (by decide) ⟨b47, k47, rfl, N48, (by rw [e48]; exact KC48), (by rw [e48]; exact (V47.other W48 (Ne.symm (Nat.ne_of_lt (Nat.lt_of_lt_of_le EX.lt (Nat.le_of_eq g47.symm)))))), sz_b47, (by rw [e48]; exact c49), (by rw [e48]; exact Fw48), (by rw [e48]; exact c50), (by rw [e48]; exact c51), Ov47⟩
theorem d17_0 : decode jdk_38_method_7_code 0 = .ok (.aload_n 0, 1) := by decide +kernel
theorem d17_1 : decode jdk_38_method_7_code 1 = .ok (.aload_n 0, 1) := by decide +kernel
theorem d17_2 : decode jdk_38_method_7_code 2 = .ok (.getfield 48, 3) := by decide +kernel
theorem d17_5 : decode jdk_38_method_7_code 5 = .ok (.iconst 1, 1) := by decide +kernel
theorem d17_6 : decode jdk_38_method_7_code 6 = .ok (.iadd, 1) := by decide +kernel
theorem d17_7 : decode jdk_38_method_7_code 7 = .ok (.invokevirtual 69, 3) := by decide +kernel
theorem pd_7 : parseMethodDescriptor "(I)[Ljava/lang/Object;" = some ⟨[.int], some (.array (.object "java/lang/Object"))⟩ := by decide +kernel
theorem d17_10 : decode jdk_38_method_7_code 10 = .ok (.areturn, 1) := by decide +kernel
theorem pn_17 : plainName "java/util/ArrayList" = true := by first | (simp [plainName, overriddenIn]; done) | decide +kernel
set_option maxHeartbeats 4000000 in
theorem ef_rmG0 (m : MethodId) {al : Addr} : entryFrame m #[(.ref al)] 1 = mkF m 0 #[vr al] [] := by first | (simp [entryFrame, mkF, argsToLocals, Value.category]; done) | rfl
def QrmG0 (Z : State) (wD : Addr) (kD : ClassId) (vcs : Int32) (al : Addr) (mc : Int32) (h0 : Heap) (n0 : Nat) (v : Option Value) (h : Heap) (L : List Loc) : Prop := ∃ (r : Addr) (kk : ClassId), (v = some (.ref r)) ∧ (Fr n0 L) ∧ (Keep h0 h [al]) ∧ (Arv Z h r kk (.object "java/lang/Object") (10 : Int32) [.null, .null, .null, .null, .null, .null, .null, .null, .null, .null] Value.null) ∧ (h0.size ≤ r) ∧ (Exa Z h al "java/util/ArrayList") ∧ (Fld Z h al "java/util/ArrayList" "elementData" "[Ljava/lang/Object;" (.ref r)) ∧ (Fld Z h al "java/util/ArrayList" "size" "I" (.int (0 : Int32))) ∧ (Fld Z h al "java/util/AbstractList" "modCount" "I" (.int mc)) ∧ (Ovr Z kk "java/lang/Object")
set_option maxRecDepth 65536 in
set_option maxHeartbeats 40000000 in
theorem rmG0 (l : Launch) (Z : State) (a0 : Array Value) (hw : ∀ d ∈ tables_1, d.before a0 Z = true) (ws : List Jvm.Cond) (wD : Addr) (kD : ClassId) (vcs : Int32) (G : Gh Z wD kD vcs) (al : Addr) (mc : Int32) (h0 : Heap) (n0 : Nat) (O0 : Old Z n0 h0) (EX : Exa Z h0 al "java/util/ArrayList") (FS : Fld Z h0 al "java/util/ArrayList" "size" "I" (.int (0 : Int32))) (FE : Fld Z h0 al "java/util/ArrayList" "elementData" "[Ljava/lang/Object;" (.ref wD)) (FM : Fld Z h0 al "java/util/AbstractList" "modCount" "I" (.int mc)) (g_al : n0 ≤ al) :
    MetFree l (⟨"java/util/ArrayList", "grow", "()[Ljava/lang/Object;"⟩ : MethodName) (head1 (Jvm.Cond.code (⟨"java/util/ArrayList", "grow", "()[Ljava/lang/Object;"⟩ : MethodName) jdk_38_method_7_code 1 (some (.array (.object "java/lang/Object"))) :: ws) ({ frames := 2, cells := 1, slots := 10, locals := 29 } : Room)) (fun aa' UU' => aa' = #[(.ref al)] ∧ Z.Warmed39 UU'.vm ∧ UU'.heap = h0) (fun _ _ _ _ _ => True) (fun _ UU' oo' VV' => ∃ v' L', oo' = .returned v' ∧ QrmG0 Z wD kD vcs al mc h0 n0 v' VV'.heap L' ∧ FrameEnd UU' oo' VV' L' ({ frames := 2, cells := 1, slots := 10, locals := 29 } : Room).cells ({ frames := 2, cells := 1, slots := 10, locals := 29 } : Room).slots) := by
  refine MetFree.of_bodySF (plainFor_of_name pn_17) hisR ?_
  intro p e s m args below meth c s₁ Bd hml0 hP hK
  obtain ⟨rfl, hZ, hh⟩ := hP
  have hx := Bd.exec
  have hby := Bd.bytes
  have hlk := Bd.notSynchronized
  have hml : c.maxLocals = 1 := hml0
  have hown : s.vm.findClass "java/util/ArrayList" = some m.cls := findClass_of_methodNamed Bd.named
  have hnm := (name_of_methodNamed Bd.named Bd.method).1
  have hret := Bd.returns
  have X0 : Stand p l e ({ frames := 2, cells := 1, slots := 10, locals := 29 } : Room) s m #[(.ref al)] below meth c s₁ [] 0 0 := Stand.of_body Bd
  have e0 : s₁.heap = h0 := by rw [← hh, Bd.state]; rfl
  have N0 := Fr.nil n0
  have KC0 : Keep h0 h0 [al] := Keep.refl _ _
  refine Go.body ?_
  obtain ⟨Pf, hPf⟩ : ∃ P, P = Fin' s below ({ frames := 2, cells := 1, slots := 10, locals := 29 } : Room).cells ({ frames := 2, cells := 1, slots := 10, locals := 29 } : Room).slots (QrmG0 Z wD kD vcs al mc h0 n0) := ⟨_, rfl⟩
  rw [← hPf]
  refine Go.cast (ef_rmG0 m) ?_
  have hw2 := (hw _ (List.mem_of_getElem? (i := 2) rfl))
  have hw39 := (hw _ (List.mem_of_getElem? (i := 39) rfl))
  have hw110 := (hw _ (List.mem_of_getElem? (i := 110) rfl))
  have hw111 := (hw _ (List.mem_of_getElem? (i := 111) rfl))
  have hw112 := (hw _ (List.mem_of_getElem? (i := 112) rfl))
  have hw113 := (hw _ (List.mem_of_getElem? (i := 113) rfl))
  have hw114 := (hw _ (List.mem_of_getElem? (i := 114) rfl))
  show Go p.tables e below Pf (s₁.setTop (mkF m 0 #[vr al] []))
  refine Go.by' (fun t k => (XS.aloadN X0.here hx rfl (hb hby d17_0) rfl rfl (XS.aloadN X0.here hx rfl (hb hby d17_1) rfl rfl k))) ?_
  obtain ⟨T52, X52, e52, st52⟩ := getF X0 hx hZ hown (host := "") (Or.inl hw39) Via.refl e0 FS (g := (mkF m 2 #[vr al] [(.ref al), (.ref al)])) rfl rfl (hb hby d17_2)
  refine Go.by' st52 ?_
  show Go p.tables e below Pf (T52.setTop (mkF m 5 #[vr al] [(.int (0 : Int32)), (.ref al)]))
  refine Go.by' (fun t k => (XS.iconst X52.here hx rfl (hb hby d17_5) (XS.iadd X52.here hx rfl (hb hby d17_6) rfl k))) ?_
  show Go p.tables e below Pf (T52.setTop (mkF m 7 #[vr al] [(.int ((0 : Int32) + (1 : Int32))), (.ref al)]))
  refine Go.castF (a := ((0 : Int32) + (1 : Int32))) (b := (1 : Int32)) (fun z' : Int32 => mkF m 7 #[vr al] [(.int z'), (.ref al)]) (by decide) ?_
  obtain ⟨cq53, q53, q53'⟩ := EX.cell
  obtain ⟨_, _, ⟨T53, L53, k53, n53⟩, -, X53, ⟨Lc53, hQ53, l53, y53, z53⟩, st53⟩ := X52.privateBack hx (y := (⟨"java/util/ArrayList", "grow", "(I)[Ljava/lang/Object;"⟩ : MethodName)) hown (mvT hZ hw110) (mvT hZ hw111) (mvT hZ hw113) (Cond.privateMethod_at (mvP hZ hw112 (args := #[]))) (mvT hZ hw114) (by decide) (backOf (W := 0) (rmG1 l Z a0 hw [] wD kD vcs G al mc h0 n0 O0 EX FS FE FM g_al) hZ hw114 hw2 (by decide) (by decide)) (g := (mkF m 7 #[vr al] [(.int (1 : Int32)), (.ref al)])) rfl (by rw [hml]; rfl) (Steps.refl _) (a := al) (by rw [e52]; exact q53) q53' (argsL := [(.int (1 : Int32))]) (rest := []) (lenOf pd_7 rfl) rfl (by show 2 * 0 + _ ≤ _; exact Nat.le_of_eq rfl) (hb hby d17_7) (fun _ _ => ⟨rfl, e52, (by decide : 0 + 1 ≤ _), (by decide : 0 + 10 ≤ _)⟩)
  dsimp only [Pt.U, Pt.locs, Pt.cells, Pt.slots] at X53 l53 y53 z53 st53 hQ53
  subst l53 y53 z53
  obtain ⟨r_53, kk_53, rfl, N53q, K53, f53_0, f53_1, f53_2, f53_3, f53_4, f53_5, r53_0⟩ := hQ53
  have N53 := Fr.app N0 N53q
  obtain ⟨lc53, X53, N53⟩ := own_pack X53 N53
  refine Go.by' (fun t k => st53.trans k) ?_
  have g_r_53 : n0 ≤ r_53 := Nat.le_trans (own_le O0) f53_1
  have sz_r_53 : h0.size ≤ r_53 := Nat.le_trans KC0.1 f53_1
  have O53 := O0.keep K53 (allS g_al all0)
  have KC53 : Keep h0 T53.heap [al] := KC0.trans K53 (allS (Or.inl (List.mem_of_getElem? (i := 0) rfl)) all0)
  show Go p.tables e below Pf (T53.setTop (mkF m 10 #[vr al] [(.ref r_53)]))
  rw [hPf]
  exact Go.retA' X53 hx hret hlk rfl rfl (hb hby d17_10) (by decide) (by decide) ⟨r_53, kk_53, rfl, N53, KC53, f53_0, sz_r_53, f53_2, f53_3, f53_4, f53_5, r53_0⟩
theorem d16_0 : decode jdk_38_method_24_code 0 = .ok (.iload_n 3, 1) := by decide +kernel
theorem d16_1 : decode jdk_38_method_24_code 1 = .ok (.aload_n 2, 1) := by decide +kernel
theorem d16_2 : decode jdk_38_method_24_code 2 = .ok (.arraylength, 1) := by decide +kernel
theorem d16_3 : decode jdk_38_method_24_code 3 = .ok (.if_icmp .ne 8, 3) := by decide +kernel
theorem d16_6 : decode jdk_38_method_24_code 6 = .ok (.aload_n 0, 1) := by decide +kernel
theorem d16_7 : decode jdk_38_method_24_code 7 = .ok (.invokevirtual 129, 3) := by decide +kernel
theorem pd_8 : parseMethodDescriptor "()[Ljava/lang/Object;" = some ⟨[], some (.array (.object "java/lang/Object"))⟩ := by decide +kernel
theorem d16_10 : decode jdk_38_method_24_code 10 = .ok (.astore_n 2, 1) := by decide +kernel
theorem d16_11 : decode jdk_38_method_24_code 11 = .ok (.aload_n 2, 1) := by decide +kernel
theorem d16_12 : decode jdk_38_method_24_code 12 = .ok (.iload_n 3, 1) := by decide +kernel
theorem d16_13 : decode jdk_38_method_24_code 13 = .ok (.aload_n 1, 1) := by decide +kernel
theorem d16_14 : decode jdk_38_method_24_code 14 = .ok (.aastore, 1) := by decide +kernel
theorem d16_15 : decode jdk_38_method_24_code 15 = .ok (.aload_n 0, 1) := by decide +kernel
theorem d16_16 : decode jdk_38_method_24_code 16 = .ok (.iload_n 3, 1) := by decide +kernel
theorem d16_17 : decode jdk_38_method_24_code 17 = .ok (.iconst 1, 1) := by decide +kernel
theorem d16_18 : decode jdk_38_method_24_code 18 = .ok (.iadd, 1) := by decide +kernel
theorem d16_19 : decode jdk_38_method_24_code 19 = .ok (.putfield 48, 3) := by decide +kernel
theorem d16_22 : decode jdk_38_method_24_code 22 = .ok (.return_, 1) := by decide +kernel
theorem pn_16 : plainName "java/util/ArrayList" = true := by first | (simp [plainName, overriddenIn]; done) | decide +kernel
set_option maxHeartbeats 4000000 in
theorem ef_rmA3_0 (m : MethodId) {al : Addr} {ob : Addr} {wD : Addr} : entryFrame m #[(.ref al), (.ref ob), (.ref wD), (.int (0 : Int32))] 4 = mkF m 0 #[vr al, vr ob, vr wD, vi (0 : Int32)] [] := by first | (simp [entryFrame, mkF, argsToLocals, Value.category]; done) | rfl
def QrmA3_0 (Z : State) (wD : Addr) (kD : ClassId) (vcs : Int32) (al : Addr) (ob : Addr) (mc : Int32) (h0 : Heap) (n0 : Nat) (v : Option Value) (h : Heap) (L : List Loc) : Prop := ∃ (r : Addr) (kk : ClassId), (v = none) ∧ (Fr n0 L) ∧ (Keep h0 h [al]) ∧ (Arv Z h r kk (.object "java/lang/Object") (10 : Int32) [(.ref ob), .null, .null, .null, .null, .null, .null, .null, .null, .null] Value.null) ∧ (h0.size ≤ r) ∧ (Exa Z h al "java/util/ArrayList") ∧ (Fld Z h al "java/util/ArrayList" "elementData" "[Ljava/lang/Object;" (.ref r)) ∧ (Fld Z h al "java/util/ArrayList" "size" "I" (.int (1 : Int32))) ∧ (Fld Z h al "java/util/AbstractList" "modCount" "I" (.int mc)) ∧ (Ovr Z kk "java/lang/Object")
set_option maxRecDepth 65536 in
set_option maxHeartbeats 40000000 in
theorem rmA3_0 (l : Launch) (Z : State) (a0 : Array Value) (hw : ∀ d ∈ tables_1, d.before a0 Z = true) (ws : List Jvm.Cond) (wD : Addr) (kD : ClassId) (vcs : Int32) (G : Gh Z wD kD vcs) (al : Addr) (ob : Addr) (mc : Int32) (h0 : Heap) (n0 : Nat) (O0 : Old Z n0 h0) (EX : Exa Z h0 al "java/util/ArrayList") (FS : Fld Z h0 al "java/util/ArrayList" "size" "I" (.int (0 : Int32))) (FE : Fld Z h0 al "java/util/ArrayList" "elementData" "[Ljava/lang/Object;" (.ref wD)) (FM : Fld Z h0 al "java/util/AbstractList" "modCount" "I" (.int mc)) (g_al : n0 ≤ al) (EO : Exa Z h0 ob "com/example/slatewipe/slatewipe/vendors/mariadb/Columns$Column") :
    MetFree l (⟨"java/util/ArrayList", "add", "(Ljava/lang/Object;[Ljava/lang/Object;I)V"⟩ : MethodName) (head1 (Jvm.Cond.code (⟨"java/util/ArrayList", "add", "(Ljava/lang/Object;[Ljava/lang/Object;I)V"⟩ : MethodName) jdk_38_method_24_code 4 none :: ws) ({ frames := 3, cells := 1, slots := 10, locals := 41 } : Room)) (fun aa' UU' => aa' = #[(.ref al), (.ref ob), (.ref wD), (.int (0 : Int32))] ∧ Z.Warmed39 UU'.vm ∧ UU'.heap = h0) (fun _ _ _ _ _ => True) (fun _ UU' oo' VV' => ∃ v' L', oo' = .returned v' ∧ QrmA3_0 Z wD kD vcs al ob mc h0 n0 v' VV'.heap L' ∧ FrameEnd UU' oo' VV' L' ({ frames := 3, cells := 1, slots := 10, locals := 41 } : Room).cells ({ frames := 3, cells := 1, slots := 10, locals := 41 } : Room).slots) := by
  refine MetFree.of_bodySF (plainFor_of_name pn_16) hisR ?_
  intro p e s m args below meth c s₁ Bd hml0 hP hK
  obtain ⟨rfl, hZ, hh⟩ := hP
  have hx := Bd.exec
  have hby := Bd.bytes
  have hlk := Bd.notSynchronized
  have hml : c.maxLocals = 4 := hml0
  have hown : s.vm.findClass "java/util/ArrayList" = some m.cls := findClass_of_methodNamed Bd.named
  have hnm := (name_of_methodNamed Bd.named Bd.method).1
  have hret := Bd.returns
  have X0 : Stand p l e ({ frames := 3, cells := 1, slots := 10, locals := 41 } : Room) s m #[(.ref al), (.ref ob), (.ref wD), (.int (0 : Int32))] below meth c s₁ [] 0 0 := Stand.of_body Bd
  have e0 : s₁.heap = h0 := by rw [← hh, Bd.state]; rfl
  have N0 := Fr.nil n0
  have KC0 : Keep h0 h0 [al] := Keep.refl _ _
  refine Go.body ?_
  obtain ⟨Pf, hPf⟩ : ∃ P, P = Fin' s below ({ frames := 3, cells := 1, slots := 10, locals := 41 } : Room).cells ({ frames := 3, cells := 1, slots := 10, locals := 41 } : Room).slots (QrmA3_0 Z wD kD vcs al ob mc h0 n0) := ⟨_, rfl⟩
  rw [← hPf]
  refine Go.cast (ef_rmA3_0 m) ?_
  have hw1 := (hw _ (List.mem_of_getElem? (i := 1) rfl))
  have hw2 := (hw _ (List.mem_of_getElem? (i := 2) rfl))
  have hw22 := (hw _ (List.mem_of_getElem? (i := 22) rfl))
  have hw25 := (hw _ (List.mem_of_getElem? (i := 25) rfl))
  have hw39 := (hw _ (List.mem_of_getElem? (i := 39) rfl))
  have hw40 := (hw _ (List.mem_of_getElem? (i := 40) rfl))
  have hw105 := (hw _ (List.mem_of_getElem? (i := 105) rfl))
  have hw106 := (hw _ (List.mem_of_getElem? (i := 106) rfl))
  have hw107 := (hw _ (List.mem_of_getElem? (i := 107) rfl))
  have hw108 := (hw _ (List.mem_of_getElem? (i := 108) rfl))
  have hw109 := (hw _ (List.mem_of_getElem? (i := 109) rfl))
  have hw121 := (hw _ (List.mem_of_getElem? (i := 121) rfl))
  show Go p.tables e below Pf (s₁.setTop (mkF m 0 #[vr al, vr ob, vr wD, vi (0 : Int32)] []))
  refine Go.by' (fun t k => (XS.iloadN X0.here hx rfl (hb hby d16_0) rfl (XS.aloadN X0.here hx rfl (hb hby d16_1) rfl rfl k))) ?_
  obtain ⟨cl54, Ar54, -, S54, P54, -, -⟩ := (id (G.2.2.1.ext O0.2))
  show Go p.tables e below Pf (s₁.setTop (mkF m 2 #[vr al, vr ob, vr wD, vi (0 : Int32)] [(.ref wD), (.int (0 : Int32))]))
  refine Go.by' (fun t k => (X0.arraylength hx (by rw [e0]; exact Ar54.1) (State.isArrayOf_alike hZ.alike Ar54.2.1) (g := (mkF m 2 #[vr al, vr ob, vr wD, vi (0 : Int32)] [(.ref wD), (.int (0 : Int32))])) rfl rfl (hb hby d16_2) t k)) ?_
  rw [len_of S54 P54]
  show Go p.tables e below Pf (s₁.setTop (mkF m 3 #[vr al, vr ob, vr wD, vi (0 : Int32)] [(.int (0 : Int32)), (.int (0 : Int32))]))
  refine Go.by' (fun t k => (XS.icmpNo X0.here hx rfl (hb hby d16_3) rfl (teq (by decide)).2 (XS.aloadN X0.here hx rfl (hb hby d16_6) rfl rfl k))) ?_
  obtain ⟨cq55, q55, q55'⟩ := EX.cell
  obtain ⟨_, _, ⟨T55, L55, k55, n55⟩, -, X55, ⟨Lc55, hQ55, l55, y55, z55⟩, st55⟩ := X0.privateBack hx (y := (⟨"java/util/ArrayList", "grow", "()[Ljava/lang/Object;"⟩ : MethodName)) hown (mvT hZ hw105) (mvT hZ hw106) (mvT hZ hw108) (Cond.privateMethod_at (mvP hZ hw107 (args := #[]))) (mvT hZ hw109) (by decide) (backOf (W := 0) (rmG0 l Z a0 hw [] wD kD vcs G al mc h0 n0 O0 EX FS FE FM g_al) hZ hw109 hw2 (by decide) (by decide)) (g := (mkF m 7 #[vr al, vr ob, vr wD, vi (0 : Int32)] [(.ref al)])) rfl (by rw [hml]; rfl) (Steps.refl _) (a := al) (by rw [e0]; exact q55) q55' (argsL := []) (rest := []) (lenOf pd_8 rfl) rfl (by show 2 * 0 + _ ≤ _; exact Nat.le_of_eq rfl) (hb hby d16_7) (fun _ _ => ⟨rfl, e0, (by decide : 0 + 1 ≤ _), (by decide : 0 + 10 ≤ _)⟩)
  dsimp only [Pt.U, Pt.locs, Pt.cells, Pt.slots] at X55 l55 y55 z55 st55 hQ55
  subst l55 y55 z55
  obtain ⟨r_55, kk_55, rfl, N55q, K55, f55_0, f55_1, f55_2, f55_3, f55_4, f55_5, r55_0⟩ := hQ55
  have N55 := Fr.app N0 N55q
  obtain ⟨lc55, X55, N55⟩ := own_pack X55 N55
  refine Go.by' (fun t k => st55.trans k) ?_
  have g_r_55 : n0 ≤ r_55 := Nat.le_trans (own_le O0) f55_1
  have sz_r_55 : h0.size ≤ r_55 := Nat.le_trans KC0.1 f55_1
  have O55 := O0.keep K55 (allS g_al all0)
  have KC55 : Keep h0 T55.heap [al] := KC0.trans K55 (allS (Or.inl (List.mem_of_getElem? (i := 0) rfl)) all0)
  show Go p.tables e below Pf (T55.setTop (mkF m 10 #[vr al, vr ob, vr wD, vi (0 : Int32)] [(.ref r_55)]))
  refine Go.by' (fun t k => (XS.astoreN X55.here hx rfl (hb hby d16_10) rfl rfl (l' := #[vr al, vr ob, vr r_55, vi (0 : Int32)]) rfl (XS.aloadN X55.here hx rfl (hb hby d16_11) rfl rfl (XS.iloadN X55.here hx rfl (hb hby d16_12) rfl (XS.aloadN X55.here hx rfl (hb hby d16_13) rfl rfl k))))) ?_
  obtain ⟨cl56, Ar56, q56, S56, P56, H56, G56⟩ := (id f55_0)
  have hin56 : ¬ ((0 : Int32) < 0 ∨ cl56.slots.size ≤ ((0 : Int32)).toNatClampNeg) := inb_of S56 ⟨by decide, by decide⟩
  obtain ⟨T57, h57, X57, e57, W57, st57⟩ := stR X55 hx hZ rfl Ar56 (j := (0 : Int32)) hin56 rfl (Sto.ofV Ar56 q56 r55_0 (Ins.of_exa (EO.keep K55) hw121)) (g := (mkF m 14 #[vr al, vr ob, vr r_55, vi (0 : Int32)] [(.ref ob), (.int (0 : Int32)), (.ref r_55)])) rfl rfl (hb hby d16_14)
  refine Go.by' st57 ?_
  have V57 : Arv Z h57 r_55 kk_55 (.object "java/lang/Object") (10 : Int32) [(.ref ob), .null, .null, .null, .null, .null, .null, .null, .null, .null] Value.null := Arv.set Ar56 q56 S56 P56 H56 G56 rfl W57 0 rfl (Nat.le_of_ble_eq_true rfl)
  have N57 := Fr.snoc X57 N55 g_r_55
  obtain ⟨lc57, X57, N57⟩ := own_pack X57 N57
  have O57 := O55.wr W57 g_r_55
  have KC57 : Keep h0 h57 [al] := KC55.wr W57 (Or.inr sz_r_55)
  show Go p.tables e below Pf (T57.setTop (mkF m 15 #[vr al, vr ob, vr r_55, vi (0 : Int32)] []))
  refine Go.by' (fun t k => (XS.aloadN X57.here hx rfl (hb hby d16_15) rfl rfl (XS.iloadN X57.here hx rfl (hb hby d16_16) rfl (XS.iconst X57.here hx rfl (hb hby d16_17) (XS.iadd X57.here hx rfl (hb hby d16_18) rfl k))))) ?_
  show Go p.tables e below Pf (T57.setTop (mkF m 19 #[vr al, vr ob, vr r_55, vi (0 : Int32)] [(.int ((0 : Int32) + (1 : Int32))), (.ref al)]))
  refine Go.castF (a := ((0 : Int32) + (1 : Int32))) (b := (1 : Int32)) (fun z' : Int32 => mkF m 19 #[vr al, vr ob, vr r_55, vi (0 : Int32)] [(.int z'), (.ref al)]) (by decide) ?_
  obtain ⟨T58, h58, X58, e58, W58, st58⟩ := putF X57 hx hZ hown (host := "") (Or.inl hw39) Via.refl e57 (f55_4.other W57 (Or.inl (Nat.ne_of_lt (Nat.lt_of_lt_of_le EX.lt f55_1)))) (f55_2.wr W57) (Or.inl hw40) hw1 (ty := .int) (by decide) rfl rfl (g := (mkF m 19 #[vr al, vr ob, vr r_55, vi (0 : Int32)] [(.int (1 : Int32)), (.ref al)])) rfl rfl (hb hby d16_19)
  refine Go.by' st58 ?_
  have Fw58 : Fld Z h58 al "java/util/ArrayList" "size" "I" (Value.int (1 : Int32)) := (f55_4.other W57 (Or.inl (Nat.ne_of_lt (Nat.lt_of_lt_of_le EX.lt f55_1)))).same W58
  have N58 := Fr.snoc X58 N57 g_al
  obtain ⟨lc58, X58, N58⟩ := own_pack X58 N58
  have O58 := O57.wr W58 g_al
  have KC58 : Keep h0 h58 [al] := KC57.wr W58 (Or.inl (List.mem_of_getElem? (i := 0) rfl))
  have c59 := ((f55_2.wr W57).wr W58)
  have c60 := ((f55_3.other W57 (Or.inl (Nat.ne_of_lt (Nat.lt_of_lt_of_le EX.lt f55_1)))).other W58 (Or.inr (slot_ne (Or.inl hw25) (Or.inl hw40) (by decide) (t := (.array (.object "java/lang/Object"))) (t' := .int) (by decide) (by decide))))
  have c61 := ((f55_5.other W57 (Or.inl (Nat.ne_of_lt (Nat.lt_of_lt_of_le EX.lt f55_1)))).other W58 (Or.inr (slot_ne (Or.inl hw22) (Or.inl hw40) (by decide) (t := .int) (t' := .int) (by decide) (by decide))))
  show Go p.tables e below Pf (T58.setTop (mkF m 22 #[vr al, vr ob, vr r_55, vi (0 : Int32)] []))
  rw [hPf]
  exact Go.retV' X58 hx hret hlk (hb hby d16_22) (by decide) (by decide) ⟨r_55, kk_55, rfl, N58, (by rw [e58]; exact KC58), (by rw [e58]; exact (V57.other W58 (Ne.symm (Nat.ne_of_lt (Nat.lt_of_lt_of_le EX.lt f55_1))))), sz_r_55, (by rw [e58]; exact c59), (by rw [e58]; exact c60), (by rw [e58]; exact Fw58), (by rw [e58]; exact c61), r55_0⟩
theorem d15_0 : decode jdk_38_method_25_code 0 = .ok (.aload_n 0, 1) := by decide +kernel
theorem d15_1 : decode jdk_38_method_25_code 1 = .ok (.dup, 1) := by decide +kernel
theorem d15_2 : decode jdk_38_method_25_code 2 = .ok (.getfield 63, 3) := by decide +kernel
theorem d15_5 : decode jdk_38_method_25_code 5 = .ok (.iconst 1, 1) := by decide +kernel
theorem d15_6 : decode jdk_38_method_25_code 6 = .ok (.iadd, 1) := by decide +kernel
theorem d15_7 : decode jdk_38_method_25_code 7 = .ok (.putfield 63, 3) := by decide +kernel
theorem d15_10 : decode jdk_38_method_25_code 10 = .ok (.aload_n 0, 1) := by decide +kernel
theorem d15_11 : decode jdk_38_method_25_code 11 = .ok (.aload_n 1, 1) := by decide +kernel
theorem d15_12 : decode jdk_38_method_25_code 12 = .ok (.aload_n 0, 1) := by decide +kernel
theorem d15_13 : decode jdk_38_method_25_code 13 = .ok (.getfield 9, 3) := by decide +kernel
theorem d15_16 : decode jdk_38_method_25_code 16 = .ok (.aload_n 0, 1) := by decide +kernel
theorem d15_17 : decode jdk_38_method_25_code 17 = .ok (.getfield 48, 3) := by decide +kernel
theorem d15_20 : decode jdk_38_method_25_code 20 = .ok (.invokevirtual 131, 3) := by decide +kernel
theorem pd_9 : parseMethodDescriptor "(Ljava/lang/Object;[Ljava/lang/Object;I)V" = some ⟨[(.object "java/lang/Object"), (.array (.object "java/lang/Object")), .int], none⟩ := by decide +kernel
theorem d15_23 : decode jdk_38_method_25_code 23 = .ok (.iconst 1, 1) := by decide +kernel
theorem d15_24 : decode jdk_38_method_25_code 24 = .ok (.ireturn, 1) := by decide +kernel
theorem pn_15 : plainName "java/util/ArrayList" = true := by first | (simp [plainName, overriddenIn]; done) | decide +kernel
set_option maxHeartbeats 4000000 in
theorem ef_rmA1_0 (m : MethodId) {al : Addr} {ob : Addr} : entryFrame m #[(.ref al), (.ref ob)] 2 = mkF m 0 #[vr al, vr ob] [] := by first | (simp [entryFrame, mkF, argsToLocals, Value.category]; done) | rfl
def QrmA1_0 (Z : State) (wD : Addr) (kD : ClassId) (vcs : Int32) (al : Addr) (ob : Addr) (mc : Int32) (h0 : Heap) (n0 : Nat) (v : Option Value) (h : Heap) (L : List Loc) : Prop := ∃ (r : Addr) (kk : ClassId), (v = some (.int (1 : Int32))) ∧ (Fr n0 L) ∧ (Keep h0 h [al]) ∧ (Arv Z h r kk (.object "java/lang/Object") (10 : Int32) [(.ref ob), .null, .null, .null, .null, .null, .null, .null, .null, .null] Value.null) ∧ (h0.size ≤ r) ∧ (Exa Z h al "java/util/ArrayList") ∧ (Fld Z h al "java/util/ArrayList" "elementData" "[Ljava/lang/Object;" (.ref r)) ∧ (Fld Z h al "java/util/ArrayList" "size" "I" (.int (1 : Int32))) ∧ (Fld Z h al "java/util/AbstractList" "modCount" "I" (.int (mc + (1 : Int32)))) ∧ (Ovr Z kk "java/lang/Object")
set_option maxRecDepth 65536 in
set_option maxHeartbeats 40000000 in
theorem rmA1_0 (l : Launch) (Z : State) (a0 : Array Value) (hw : ∀ d ∈ tables_1, d.before a0 Z = true) (ws : List Jvm.Cond) (wD : Addr) (kD : ClassId) (vcs : Int32) (G : Gh Z wD kD vcs) (al : Addr) (ob : Addr) (mc : Int32) (h0 : Heap) (n0 : Nat) (O0 : Old Z n0 h0) (EX : Exa Z h0 al "java/util/ArrayList") (FS : Fld Z h0 al "java/util/ArrayList" "size" "I" (.int (0 : Int32))) (FE : Fld Z h0 al "java/util/ArrayList" "elementData" "[Ljava/lang/Object;" (.ref wD)) (FM : Fld Z h0 al "java/util/AbstractList" "modCount" "I" (.int mc)) (g_al : n0 ≤ al) (EO : Exa Z h0 ob "com/example/slatewipe/slatewipe/vendors/mariadb/Columns$Column") :
    MetFree l (⟨"java/util/ArrayList", "add", "(Ljava/lang/Object;)Z"⟩ : MethodName) (head1 (Jvm.Cond.code (⟨"java/util/ArrayList", "add", "(Ljava/lang/Object;)Z"⟩ : MethodName) jdk_38_method_25_code 2 (some .boolean) :: ws) ({ frames := 4, cells := 1, slots := 10, locals := 56 } : Room)) (fun aa' UU' => aa' = #[(.ref al), (.ref ob)] ∧ Z.Warmed39 UU'.vm ∧ UU'.heap = h0) (fun _ _ _ _ _ => True) (fun _ UU' oo' VV' => ∃ v' L', oo' = .returned v' ∧ QrmA1_0 Z wD kD vcs al ob mc h0 n0 v' VV'.heap L' ∧ FrameEnd UU' oo' VV' L' ({ frames := 4, cells := 1, slots := 10, locals := 56 } : Room).cells ({ frames := 4, cells := 1, slots := 10, locals := 56 } : Room).slots) := by
  refine MetFree.of_bodySF (plainFor_of_name pn_15) hisR ?_
  intro p e s m args below meth c s₁ Bd hml0 hP hK
  obtain ⟨rfl, hZ, hh⟩ := hP
  have hx := Bd.exec
  have hby := Bd.bytes
  have hlk := Bd.notSynchronized
  have hml : c.maxLocals = 2 := hml0
  have hown : s.vm.findClass "java/util/ArrayList" = some m.cls := findClass_of_methodNamed Bd.named
  have hnm := (name_of_methodNamed Bd.named Bd.method).1
  have hret := Bd.returns
  have X0 : Stand p l e ({ frames := 4, cells := 1, slots := 10, locals := 56 } : Room) s m #[(.ref al), (.ref ob)] below meth c s₁ [] 0 0 := Stand.of_body Bd
  have e0 : s₁.heap = h0 := by rw [← hh, Bd.state]; rfl
  have N0 := Fr.nil n0
  have KC0 : Keep h0 h0 [al] := Keep.refl _ _
  refine Go.body ?_
  obtain ⟨Pf, hPf⟩ : ∃ P, P = Fin' s below ({ frames := 4, cells := 1, slots := 10, locals := 56 } : Room).cells ({ frames := 4, cells := 1, slots := 10, locals := 56 } : Room).slots (QrmA1_0 Z wD kD vcs al ob mc h0 n0) := ⟨_, rfl⟩
  rw [← hPf]
  refine Go.cast (ef_rmA1_0 m) ?_
  have hw1 := (hw _ (List.mem_of_getElem? (i := 1) rfl))
  have hw2 := (hw _ (List.mem_of_getElem? (i := 2) rfl))
  have hw22 := (hw _ (List.mem_of_getElem? (i := 22) rfl))
  have hw24 := (hw _ (List.mem_of_getElem? (i := 24) rfl))
  have hw25 := (hw _ (List.mem_of_getElem? (i := 25) rfl))
  have hw39 := (hw _ (List.mem_of_getElem? (i := 39) rfl))
  have hw40 := (hw _ (List.mem_of_getElem? (i := 40) rfl))
  have hw98 := (hw _ (List.mem_of_getElem? (i := 98) rfl))
  have hw99 := (hw _ (List.mem_of_getElem? (i := 99) rfl))
  have hw100 := (hw _ (List.mem_of_getElem? (i := 100) rfl))
  have hw101 := (hw _ (List.mem_of_getElem? (i := 101) rfl))
  have hw102 := (hw _ (List.mem_of_getElem? (i := 102) rfl))
  have hw103 := (hw _ (List.mem_of_getElem? (i := 103) rfl))
  have hw104 := (hw _ (List.mem_of_getElem? (i := 104) rfl))
  show Go p.tables e below Pf (s₁.setTop (mkF m 0 #[vr al, vr ob] []))
  refine Go.by' (fun t k => (XS.aloadN X0.here hx rfl (hb hby d15_0) rfl rfl (XS.dup X0.here hx rfl (hb hby d15_1) rfl rfl k))) ?_
  obtain ⟨T62, X62, e62, st62⟩ := getF X0 hx hZ hown (host := "") (Or.inl hw98) (Via.of hw99) e0 FM (g := (mkF m 2 #[vr al, vr ob] [(.ref al), (.ref al)])) rfl rfl (hb hby d15_2)
  refine Go.by' st62 ?_
  show Go p.tables e below Pf (T62.setTop (mkF m 5 #[vr al, vr ob] [(.int mc), (.ref al)]))
  refine Go.by' (fun t k => (XS.iconst X62.here hx rfl (hb hby d15_5) (XS.iadd X62.here hx rfl (hb hby d15_6) rfl k))) ?_
  obtain ⟨T63, h63, X63, e63, W63, st63⟩ := putF X62 hx hZ hown (host := "") (Or.inl hw98) (Via.of hw99) e62 FM EX (Or.inl hw22) hw1 (ty := .int) (by decide) rfl rfl (g := (mkF m 7 #[vr al, vr ob] [(.int (mc + (1 : Int32))), (.ref al)])) rfl rfl (hb hby d15_7)
  refine Go.by' st63 ?_
  have Fw63 : Fld Z h63 al "java/util/AbstractList" "modCount" "I" (Value.int (mc + (1 : Int32))) := FM.same W63
  have N63 := Fr.snoc X63 N0 g_al
  obtain ⟨lc63, X63, N63⟩ := own_pack X63 N63
  have O63 := O0.wr W63 g_al
  have KC63 : Keep h0 h63 [al] := KC0.wr W63 (Or.inl (List.mem_of_getElem? (i := 0) rfl))
  show Go p.tables e below Pf (T63.setTop (mkF m 10 #[vr al, vr ob] []))
  refine Go.by' (fun t k => (XS.aloadN X63.here hx rfl (hb hby d15_10) rfl rfl (XS.aloadN X63.here hx rfl (hb hby d15_11) rfl rfl (XS.aloadN X63.here hx rfl (hb hby d15_12) rfl rfl k)))) ?_
  obtain ⟨T64, X64, e64, st64⟩ := getF X63 hx hZ hown (host := "") (Or.inl hw24) Via.refl e63 (FE.other W63 (Or.inr (slot_ne (Or.inl hw25) (Or.inl hw22) (by decide) (t := (.array (.object "java/lang/Object"))) (t' := .int) (by decide) (by decide)))) (g := (mkF m 13 #[vr al, vr ob] [(.ref al), (.ref ob), (.ref al)])) rfl rfl (hb hby d15_13)
  refine Go.by' st64 ?_
  show Go p.tables e below Pf (T64.setTop (mkF m 16 #[vr al, vr ob] [(.ref wD), (.ref ob), (.ref al)]))
  refine Go.by' (fun t k => (XS.aloadN X64.here hx rfl (hb hby d15_16) rfl rfl k)) ?_
  obtain ⟨T65, X65, e65, st65⟩ := getF X64 hx hZ hown (host := "") (Or.inl hw39) Via.refl e64 (FS.other W63 (Or.inr (slot_ne (Or.inl hw40) (Or.inl hw22) (by decide) (t := .int) (t' := .int) (by decide) (by decide)))) (g := (mkF m 17 #[vr al, vr ob] [(.ref al), (.ref wD), (.ref ob), (.ref al)])) rfl rfl (hb hby d15_17)
  refine Go.by' st65 ?_
  obtain ⟨cq66, q66, q66'⟩ := (EX.wr W63).cell
  obtain ⟨_, _, ⟨T66, L66, k66, n66⟩, -, X66, ⟨Lc66, hQ66, l66, y66, z66⟩, st66⟩ := X65.privateBack hx (y := (⟨"java/util/ArrayList", "add", "(Ljava/lang/Object;[Ljava/lang/Object;I)V"⟩ : MethodName)) hown (mvT hZ hw100) (mvT hZ hw101) (mvT hZ hw103) (Cond.privateMethod_at (mvP hZ hw102 (args := #[]))) (mvT hZ hw104) (by decide) (backOf (W := 0) (rmA3_0 l Z a0 hw [] wD kD vcs G al ob ((mc + (1 : Int32))) h63 n0 O63 (EX.wr W63) (FS.other W63 (Or.inr (slot_ne (Or.inl hw40) (Or.inl hw22) (by decide) (t := .int) (t' := .int) (by decide) (by decide)))) (FE.other W63 (Or.inr (slot_ne (Or.inl hw25) (Or.inl hw22) (by decide) (t := (.array (.object "java/lang/Object"))) (t' := .int) (by decide) (by decide)))) Fw63 g_al (EO.wr W63)) hZ hw104 hw2 (by decide) (by decide)) (g := (mkF m 20 #[vr al, vr ob] [(.int (0 : Int32)), (.ref wD), (.ref ob), (.ref al)])) rfl (by rw [hml]; rfl) (Steps.refl _) (a := al) (by rw [e65]; exact q66) q66' (argsL := [(.ref ob), (.ref wD), (.int (0 : Int32))]) (rest := []) (lenOf pd_9 rfl) rfl (by show 2 * 0 + _ ≤ _; exact Nat.le_of_eq rfl) (hb hby d15_20) (fun _ _ => ⟨rfl, e65, (by decide : 0 + 1 ≤ _), (by decide : 0 + 10 ≤ _)⟩)
  dsimp only [Pt.U, Pt.locs, Pt.cells, Pt.slots] at X66 l66 y66 z66 st66 hQ66
  subst l66 y66 z66
  obtain ⟨r_66, kk_66, rfl, N66q, K66, f66_0, f66_1, f66_2, f66_3, f66_4, f66_5, r66_0⟩ := hQ66
  have N66 := Fr.app N63 N66q
  obtain ⟨lc66, X66, N66⟩ := own_pack X66 N66
  refine Go.by' (fun t k => st66.trans k) ?_
  have g_r_66 : n0 ≤ r_66 := Nat.le_trans (own_le O63) f66_1
  have sz_r_66 : h0.size ≤ r_66 := Nat.le_trans KC63.1 f66_1
  have O66 := O63.keep K66 (allS g_al all0)
  have KC66 : Keep h0 T66.heap [al] := KC63.trans K66 (allS (Or.inl (List.mem_of_getElem? (i := 0) rfl)) all0)
  show Go p.tables e below Pf (T66.setTop (mkF m 23 #[vr al, vr ob] []))
  refine Go.by' (fun t k => (XS.iconst X66.here hx rfl (hb hby d15_23) k)) ?_
  show Go p.tables e below Pf (T66.setTop (mkF m 24 #[vr al, vr ob] [(.int (1 : Int32))]))
  rw [hPf]
  exact Go.retI' X66 hx hret hlk (by simp) rfl (hb hby d15_24) (by decide) (by decide) ⟨r_66, kk_66, rfl, N66, KC66, f66_0, sz_r_66, f66_2, f66_3, f66_4, f66_5, r66_0⟩
set_option maxHeartbeats 4000000 in
theorem ef_rmA3_1 (m : MethodId) {al : Addr} {ob : Addr} {ar : Addr} : entryFrame m #[(.ref al), (.ref ob), (.ref ar), (.int (1 : Int32))] 4 = mkF m 0 #[vr al, vr ob, vr ar, vi (1 : Int32)] [] := by first | (simp [entryFrame, mkF, argsToLocals, Value.category]; done) | rfl
def QrmA3_1 (Z : State) (wD : Addr) (kD : ClassId) (vcs : Int32) (al : Addr) (ob : Addr) (ar : Addr) (mc : Int32) (kk : ClassId) (el0 : Addr) (h0 : Heap) (n0 : Nat) (v : Option Value) (h : Heap) (L : List Loc) : Prop := (v = none) ∧ (Fr n0 L) ∧ (Keep h0 h [al, ar]) ∧ (Arv Z h ar kk (.object "java/lang/Object") (10 : Int32) [(.ref el0), (.ref ob), .null, .null, .null, .null, .null, .null, .null, .null] Value.null) ∧ (Exa Z h al "java/util/ArrayList") ∧ (Fld Z h al "java/util/ArrayList" "elementData" "[Ljava/lang/Object;" (.ref ar)) ∧ (Fld Z h al "java/util/ArrayList" "size" "I" (.int (2 : Int32))) ∧ (Fld Z h al "java/util/AbstractList" "modCount" "I" (.int mc))
set_option maxRecDepth 65536 in
set_option maxHeartbeats 40000000 in
theorem rmA3_1 (l : Launch) (Z : State) (a0 : Array Value) (hw : ∀ d ∈ tables_1, d.before a0 Z = true) (ws : List Jvm.Cond) (wD : Addr) (kD : ClassId) (vcs : Int32) (G : Gh Z wD kD vcs) (al : Addr) (ob : Addr) (ar : Addr) (mc : Int32) (kk : ClassId) (el0 : Addr) (h0 : Heap) (n0 : Nat) (O0 : Old Z n0 h0) (EX : Exa Z h0 al "java/util/ArrayList") (FS : Fld Z h0 al "java/util/ArrayList" "size" "I" (.int (1 : Int32))) (FE : Fld Z h0 al "java/util/ArrayList" "elementData" "[Ljava/lang/Object;" (.ref ar)) (FM : Fld Z h0 al "java/util/AbstractList" "modCount" "I" (.int mc)) (g_al : n0 ≤ al) (g_ar : n0 ≤ ar) (VA : Arv Z h0 ar kk (.object "java/lang/Object") (10 : Int32) [(.ref el0), .null, .null, .null, .null, .null, .null, .null, .null, .null] Value.null) (EO : Exa Z h0 ob "com/example/slatewipe/slatewipe/vendors/mariadb/Columns$Column") (hne : al ≠ ar) (OV : Ovr Z kk "java/lang/Object") :
    MetFree l (⟨"java/util/ArrayList", "add", "(Ljava/lang/Object;[Ljava/lang/Object;I)V"⟩ : MethodName) (head1 (Jvm.Cond.code (⟨"java/util/ArrayList", "add", "(Ljava/lang/Object;[Ljava/lang/Object;I)V"⟩ : MethodName) jdk_38_method_24_code 4 none :: ws) ({ frames := 0, cells := 0, slots := 0, locals := 0 } : Room)) (fun aa' UU' => aa' = #[(.ref al), (.ref ob), (.ref ar), (.int (1 : Int32))] ∧ Z.Warmed39 UU'.vm ∧ UU'.heap = h0) (fun _ _ _ _ _ => True) (fun _ UU' oo' VV' => ∃ v' L', oo' = .returned v' ∧ QrmA3_1 Z wD kD vcs al ob ar mc kk el0 h0 n0 v' VV'.heap L' ∧ FrameEnd UU' oo' VV' L' ({ frames := 0, cells := 0, slots := 0, locals := 0 } : Room).cells ({ frames := 0, cells := 0, slots := 0, locals := 0 } : Room).slots) := by
  refine MetFree.of_bodySF (plainFor_of_name pn_16) hisR ?_
  intro p e s m args below meth c s₁ Bd hml0 hP hK
  obtain ⟨rfl, hZ, hh⟩ := hP
  have hx := Bd.exec
  have hby := Bd.bytes
  have hlk := Bd.notSynchronized
  have hml : c.maxLocals = 4 := hml0
  have hown : s.vm.findClass "java/util/ArrayList" = some m.cls := findClass_of_methodNamed Bd.named
  have hnm := (name_of_methodNamed Bd.named Bd.method).1
  have hret := Bd.returns
  have X0 : Stand p l e ({ frames := 0, cells := 0, slots := 0, locals := 0 } : Room) s m #[(.ref al), (.ref ob), (.ref ar), (.int (1 : Int32))] below meth c s₁ [] 0 0 := Stand.of_body Bd
  have e0 : s₁.heap = h0 := by rw [← hh, Bd.state]; rfl
  have N0 := Fr.nil n0
  have KC0 : Keep h0 h0 [al, ar] := Keep.refl _ _
  refine Go.body ?_
  obtain ⟨Pf, hPf⟩ : ∃ P, P = Fin' s below ({ frames := 0, cells := 0, slots := 0, locals := 0 } : Room).cells ({ frames := 0, cells := 0, slots := 0, locals := 0 } : Room).slots (QrmA3_1 Z wD kD vcs al ob ar mc kk el0 h0 n0) := ⟨_, rfl⟩
  rw [← hPf]
  refine Go.cast (ef_rmA3_1 m) ?_
  have hw1 := (hw _ (List.mem_of_getElem? (i := 1) rfl))
  have hw22 := (hw _ (List.mem_of_getElem? (i := 22) rfl))
  have hw25 := (hw _ (List.mem_of_getElem? (i := 25) rfl))
  have hw39 := (hw _ (List.mem_of_getElem? (i := 39) rfl))
  have hw40 := (hw _ (List.mem_of_getElem? (i := 40) rfl))
  have hw121 := (hw _ (List.mem_of_getElem? (i := 121) rfl))
  show Go p.tables e below Pf (s₁.setTop (mkF m 0 #[vr al, vr ob, vr ar, vi (1 : Int32)] []))
  refine Go.by' (fun t k => (XS.iloadN X0.here hx rfl (hb hby d16_0) rfl (XS.aloadN X0.here hx rfl (hb hby d16_1) rfl rfl k))) ?_
  obtain ⟨cl67, Ar67, -, S67, P67, -, -⟩ := (id VA)
  show Go p.tables e below Pf (s₁.setTop (mkF m 2 #[vr al, vr ob, vr ar, vi (1 : Int32)] [(.ref ar), (.int (1 : Int32))]))
  refine Go.by' (fun t k => (X0.arraylength hx (by rw [e0]; exact Ar67.1) (State.isArrayOf_alike hZ.alike Ar67.2.1) (g := (mkF m 2 #[vr al, vr ob, vr ar, vi (1 : Int32)] [(.ref ar), (.int (1 : Int32))])) rfl rfl (hb hby d16_2) t k)) ?_
  rw [len_of S67 P67]
  show Go p.tables e below Pf (s₁.setTop (mkF m 3 #[vr al, vr ob, vr ar, vi (1 : Int32)] [(.int (10 : Int32)), (.int (1 : Int32))]))
  refine Go.by' (fun t k => (XS.icmpYes X0.here hx rfl (pc0 := 3) (pc' := 11) rfl (hb hby d16_3) rfl (feq (by decide)).2 (by decide) (by decide) (XS.aloadN X0.here hx rfl (hb hby d16_11) rfl rfl (XS.iloadN X0.here hx rfl (hb hby d16_12) rfl (XS.aloadN X0.here hx rfl (hb hby d16_13) rfl rfl k))))) ?_
  obtain ⟨cl68, Ar68, q68, S68, P68, H68, G68⟩ := (id VA)
  have hin68 : ¬ ((1 : Int32) < 0 ∨ cl68.slots.size ≤ ((1 : Int32)).toNatClampNeg) := inb_of S68 ⟨by decide, by decide⟩
  obtain ⟨T69, h69, X69, e69, W69, st69⟩ := stR X0 hx hZ e0 Ar68 (j := (1 : Int32)) hin68 rfl (Sto.ofV Ar68 q68 OV (Ins.of_exa EO hw121)) (g := (mkF m 14 #[vr al, vr ob, vr ar, vi (1 : Int32)] [(.ref ob), (.int (1 : Int32)), (.ref ar)])) rfl rfl (hb hby d16_14)
  refine Go.by' st69 ?_
  have V69 : Arv Z h69 ar kk (.object "java/lang/Object") (10 : Int32) [(.ref el0), (.ref ob), .null, .null, .null, .null, .null, .null, .null, .null] Value.null := Arv.set Ar68 q68 S68 P68 H68 G68 rfl W69 1 rfl (Nat.le_of_ble_eq_true rfl)
  have N69 := Fr.snoc X69 N0 g_ar
  obtain ⟨lc69, X69, N69⟩ := own_pack X69 N69
  have O69 := O0.wr W69 g_ar
  have KC69 : Keep h0 h69 [al, ar] := KC0.wr W69 (Or.inl (List.mem_of_getElem? (i := 1) rfl))
  show Go p.tables e below Pf (T69.setTop (mkF m 15 #[vr al, vr ob, vr ar, vi (1 : Int32)] []))
  refine Go.by' (fun t k => (XS.aloadN X69.here hx rfl (hb hby d16_15) rfl rfl (XS.iloadN X69.here hx rfl (hb hby d16_16) rfl (XS.iconst X69.here hx rfl (hb hby d16_17) (XS.iadd X69.here hx rfl (hb hby d16_18) rfl k))))) ?_
  show Go p.tables e below Pf (T69.setTop (mkF m 19 #[vr al, vr ob, vr ar, vi (1 : Int32)] [(.int ((1 : Int32) + (1 : Int32))), (.ref al)]))
  refine Go.castF (a := ((1 : Int32) + (1 : Int32))) (b := (2 : Int32)) (fun z' : Int32 => mkF m 19 #[vr al, vr ob, vr ar, vi (1 : Int32)] [(.int z'), (.ref al)]) (by decide) ?_
  obtain ⟨T70, h70, X70, e70, W70, st70⟩ := putF X69 hx hZ hown (host := "") (Or.inl hw39) Via.refl e69 (FS.other W69 (Or.inl hne)) (EX.wr W69) (Or.inl hw40) hw1 (ty := .int) (by decide) rfl rfl (g := (mkF m 19 #[vr al, vr ob, vr ar, vi (1 : Int32)] [(.int (2 : Int32)), (.ref al)])) rfl rfl (hb hby d16_19)
  refine Go.by' st70 ?_
  have Fw70 : Fld Z h70 al "java/util/ArrayList" "size" "I" (Value.int (2 : Int32)) := (FS.other W69 (Or.inl hne)).same W70
  have N70 := Fr.snoc X70 N69 g_al
  obtain ⟨lc70, X70, N70⟩ := own_pack X70 N70
  have O70 := O69.wr W70 g_al
  have KC70 : Keep h0 h70 [al, ar] := KC69.wr W70 (Or.inl (List.mem_of_getElem? (i := 0) rfl))
  have c71 := ((EX.wr W69).wr W70)
  have c72 := ((FE.other W69 (Or.inl hne)).other W70 (Or.inr (slot_ne (Or.inl hw25) (Or.inl hw40) (by decide) (t := (.array (.object "java/lang/Object"))) (t' := .int) (by decide) (by decide))))
  have c73 := ((FM.other W69 (Or.inl hne)).other W70 (Or.inr (slot_ne (Or.inl hw22) (Or.inl hw40) (by decide) (t := .int) (t' := .int) (by decide) (by decide))))
  show Go p.tables e below Pf (T70.setTop (mkF m 22 #[vr al, vr ob, vr ar, vi (1 : Int32)] []))
  rw [hPf]
  exact Go.retV' X70 hx hret hlk (hb hby d16_22) (by decide) (by decide) ⟨rfl, N70, (by rw [e70]; exact KC70), (by rw [e70]; exact (V69.other W70 (Ne.symm hne))), (by rw [e70]; exact c71), (by rw [e70]; exact c72), (by rw [e70]; exact Fw70), (by rw [e70]; exact c73)⟩
set_option maxHeartbeats 4000000 in
theorem ef_rmA1_1 (m : MethodId) {al : Addr} {ob : Addr} : entryFrame m #[(.ref al), (.ref ob)] 2 = mkF m 0 #[vr al, vr ob] [] := by first | (simp [entryFrame, mkF, argsToLocals, Value.category]; done) | rfl
def QrmA1_1 (Z : State) (wD : Addr) (kD : ClassId) (vcs : Int32) (al : Addr) (ob : Addr) (mc : Int32) (ar : Addr) (kk : ClassId) (el0 : Addr) (h0 : Heap) (n0 : Nat) (v : Option Value) (h : Heap) (L : List Loc) : Prop := (v = some (.int (1 : Int32))) ∧ (Fr n0 L) ∧ (Keep h0 h [al, ar]) ∧ (Arv Z h ar kk (.object "java/lang/Object") (10 : Int32) [(.ref el0), (.ref ob), .null, .null, .null, .null, .null, .null, .null, .null] Value.null) ∧ (Exa Z h al "java/util/ArrayList") ∧ (Fld Z h al "java/util/ArrayList" "elementData" "[Ljava/lang/Object;" (.ref ar)) ∧ (Fld Z h al "java/util/ArrayList" "size" "I" (.int (2 : Int32))) ∧ (Fld Z h al "java/util/AbstractList" "modCount" "I" (.int (mc + (1 : Int32))))
set_option maxRecDepth 65536 in
set_option maxHeartbeats 40000000 in
theorem rmA1_1 (l : Launch) (Z : State) (a0 : Array Value) (hw : ∀ d ∈ tables_1, d.before a0 Z = true) (ws : List Jvm.Cond) (wD : Addr) (kD : ClassId) (vcs : Int32) (G : Gh Z wD kD vcs) (al : Addr) (ob : Addr) (mc : Int32) (ar : Addr) (kk : ClassId) (el0 : Addr) (h0 : Heap) (n0 : Nat) (O0 : Old Z n0 h0) (EX : Exa Z h0 al "java/util/ArrayList") (FS : Fld Z h0 al "java/util/ArrayList" "size" "I" (.int (1 : Int32))) (FE : Fld Z h0 al "java/util/ArrayList" "elementData" "[Ljava/lang/Object;" (.ref ar)) (FM : Fld Z h0 al "java/util/AbstractList" "modCount" "I" (.int mc)) (g_al : n0 ≤ al) (g_ar : n0 ≤ ar) (VA : Arv Z h0 ar kk (.object "java/lang/Object") (10 : Int32) [(.ref el0), .null, .null, .null, .null, .null, .null, .null, .null, .null] Value.null) (EO : Exa Z h0 ob "com/example/slatewipe/slatewipe/vendors/mariadb/Columns$Column") (hne : al ≠ ar) (OV : Ovr Z kk "java/lang/Object") :
    MetFree l (⟨"java/util/ArrayList", "add", "(Ljava/lang/Object;)Z"⟩ : MethodName) (head1 (Jvm.Cond.code (⟨"java/util/ArrayList", "add", "(Ljava/lang/Object;)Z"⟩ : MethodName) jdk_38_method_25_code 2 (some .boolean) :: ws) ({ frames := 1, cells := 0, slots := 0, locals := 15 } : Room)) (fun aa' UU' => aa' = #[(.ref al), (.ref ob)] ∧ Z.Warmed39 UU'.vm ∧ UU'.heap = h0) (fun _ _ _ _ _ => True) (fun _ UU' oo' VV' => ∃ v' L', oo' = .returned v' ∧ QrmA1_1 Z wD kD vcs al ob mc ar kk el0 h0 n0 v' VV'.heap L' ∧ FrameEnd UU' oo' VV' L' ({ frames := 1, cells := 0, slots := 0, locals := 15 } : Room).cells ({ frames := 1, cells := 0, slots := 0, locals := 15 } : Room).slots) := by
  refine MetFree.of_bodySF (plainFor_of_name pn_15) hisR ?_
  intro p e s m args below meth c s₁ Bd hml0 hP hK
  obtain ⟨rfl, hZ, hh⟩ := hP
  have hx := Bd.exec
  have hby := Bd.bytes
  have hlk := Bd.notSynchronized
  have hml : c.maxLocals = 2 := hml0
  have hown : s.vm.findClass "java/util/ArrayList" = some m.cls := findClass_of_methodNamed Bd.named
  have hnm := (name_of_methodNamed Bd.named Bd.method).1
  have hret := Bd.returns
  have X0 : Stand p l e ({ frames := 1, cells := 0, slots := 0, locals := 15 } : Room) s m #[(.ref al), (.ref ob)] below meth c s₁ [] 0 0 := Stand.of_body Bd
  have e0 : s₁.heap = h0 := by rw [← hh, Bd.state]; rfl
  have N0 := Fr.nil n0
  have KC0 : Keep h0 h0 [al, ar] := Keep.refl _ _
  refine Go.body ?_
  obtain ⟨Pf, hPf⟩ : ∃ P, P = Fin' s below ({ frames := 1, cells := 0, slots := 0, locals := 15 } : Room).cells ({ frames := 1, cells := 0, slots := 0, locals := 15 } : Room).slots (QrmA1_1 Z wD kD vcs al ob mc ar kk el0 h0 n0) := ⟨_, rfl⟩
  rw [← hPf]
  refine Go.cast (ef_rmA1_1 m) ?_
  have hw1 := (hw _ (List.mem_of_getElem? (i := 1) rfl))
  have hw2 := (hw _ (List.mem_of_getElem? (i := 2) rfl))
  have hw22 := (hw _ (List.mem_of_getElem? (i := 22) rfl))
  have hw24 := (hw _ (List.mem_of_getElem? (i := 24) rfl))
  have hw25 := (hw _ (List.mem_of_getElem? (i := 25) rfl))
  have hw39 := (hw _ (List.mem_of_getElem? (i := 39) rfl))
  have hw40 := (hw _ (List.mem_of_getElem? (i := 40) rfl))
  have hw98 := (hw _ (List.mem_of_getElem? (i := 98) rfl))
  have hw99 := (hw _ (List.mem_of_getElem? (i := 99) rfl))
  have hw100 := (hw _ (List.mem_of_getElem? (i := 100) rfl))
  have hw101 := (hw _ (List.mem_of_getElem? (i := 101) rfl))
  have hw102 := (hw _ (List.mem_of_getElem? (i := 102) rfl))
  have hw103 := (hw _ (List.mem_of_getElem? (i := 103) rfl))
  have hw104 := (hw _ (List.mem_of_getElem? (i := 104) rfl))
  show Go p.tables e below Pf (s₁.setTop (mkF m 0 #[vr al, vr ob] []))
  refine Go.by' (fun t k => (XS.aloadN X0.here hx rfl (hb hby d15_0) rfl rfl (XS.dup X0.here hx rfl (hb hby d15_1) rfl rfl k))) ?_
  obtain ⟨T74, X74, e74, st74⟩ := getF X0 hx hZ hown (host := "") (Or.inl hw98) (Via.of hw99) e0 FM (g := (mkF m 2 #[vr al, vr ob] [(.ref al), (.ref al)])) rfl rfl (hb hby d15_2)
  refine Go.by' st74 ?_
  show Go p.tables e below Pf (T74.setTop (mkF m 5 #[vr al, vr ob] [(.int mc), (.ref al)]))
  refine Go.by' (fun t k => (XS.iconst X74.here hx rfl (hb hby d15_5) (XS.iadd X74.here hx rfl (hb hby d15_6) rfl k))) ?_
  obtain ⟨T75, h75, X75, e75, W75, st75⟩ := putF X74 hx hZ hown (host := "") (Or.inl hw98) (Via.of hw99) e74 FM EX (Or.inl hw22) hw1 (ty := .int) (by decide) rfl rfl (g := (mkF m 7 #[vr al, vr ob] [(.int (mc + (1 : Int32))), (.ref al)])) rfl rfl (hb hby d15_7)
  refine Go.by' st75 ?_
  have Fw75 : Fld Z h75 al "java/util/AbstractList" "modCount" "I" (Value.int (mc + (1 : Int32))) := FM.same W75
  have N75 := Fr.snoc X75 N0 g_al
  obtain ⟨lc75, X75, N75⟩ := own_pack X75 N75
  have O75 := O0.wr W75 g_al
  have KC75 : Keep h0 h75 [al, ar] := KC0.wr W75 (Or.inl (List.mem_of_getElem? (i := 0) rfl))
  show Go p.tables e below Pf (T75.setTop (mkF m 10 #[vr al, vr ob] []))
  refine Go.by' (fun t k => (XS.aloadN X75.here hx rfl (hb hby d15_10) rfl rfl (XS.aloadN X75.here hx rfl (hb hby d15_11) rfl rfl (XS.aloadN X75.here hx rfl (hb hby d15_12) rfl rfl k)))) ?_
  obtain ⟨T76, X76, e76, st76⟩ := getF X75 hx hZ hown (host := "") (Or.inl hw24) Via.refl e75 (FE.other W75 (Or.inr (slot_ne (Or.inl hw25) (Or.inl hw22) (by decide) (t := (.array (.object "java/lang/Object"))) (t' := .int) (by decide) (by decide)))) (g := (mkF m 13 #[vr al, vr ob] [(.ref al), (.ref ob), (.ref al)])) rfl rfl (hb hby d15_13)
  refine Go.by' st76 ?_
  show Go p.tables e below Pf (T76.setTop (mkF m 16 #[vr al, vr ob] [(.ref ar), (.ref ob), (.ref al)]))
  refine Go.by' (fun t k => (XS.aloadN X76.here hx rfl (hb hby d15_16) rfl rfl k)) ?_
  obtain ⟨T77, X77, e77, st77⟩ := getF X76 hx hZ hown (host := "") (Or.inl hw39) Via.refl e76 (FS.other W75 (Or.inr (slot_ne (Or.inl hw40) (Or.inl hw22) (by decide) (t := .int) (t' := .int) (by decide) (by decide)))) (g := (mkF m 17 #[vr al, vr ob] [(.ref al), (.ref ar), (.ref ob), (.ref al)])) rfl rfl (hb hby d15_17)
  refine Go.by' st77 ?_
  obtain ⟨cq78, q78, q78'⟩ := (EX.wr W75).cell
  obtain ⟨_, _, ⟨T78, L78, k78, n78⟩, -, X78, ⟨Lc78, hQ78, l78, y78, z78⟩, st78⟩ := X77.privateBack hx (y := (⟨"java/util/ArrayList", "add", "(Ljava/lang/Object;[Ljava/lang/Object;I)V"⟩ : MethodName)) hown (mvT hZ hw100) (mvT hZ hw101) (mvT hZ hw103) (Cond.privateMethod_at (mvP hZ hw102 (args := #[]))) (mvT hZ hw104) (by decide) (backOf (W := 0) (rmA3_1 l Z a0 hw [] wD kD vcs G al ob ar ((mc + (1 : Int32))) kk el0 h75 n0 O75 (EX.wr W75) (FS.other W75 (Or.inr (slot_ne (Or.inl hw40) (Or.inl hw22) (by decide) (t := .int) (t' := .int) (by decide) (by decide)))) (FE.other W75 (Or.inr (slot_ne (Or.inl hw25) (Or.inl hw22) (by decide) (t := (.array (.object "java/lang/Object"))) (t' := .int) (by decide) (by decide)))) Fw75 g_al g_ar (VA.other W75 (Ne.symm hne)) (EO.wr W75) hne OV) hZ hw104 hw2 (by decide) (by decide)) (g := (mkF m 20 #[vr al, vr ob] [(.int (1 : Int32)), (.ref ar), (.ref ob), (.ref al)])) rfl (by rw [hml]; rfl) (Steps.refl _) (a := al) (by rw [e77]; exact q78) q78' (argsL := [(.ref ob), (.ref ar), (.int (1 : Int32))]) (rest := []) (lenOf pd_9 rfl) rfl (by show 2 * 0 + _ ≤ _; exact Nat.le_of_eq rfl) (hb hby d15_20) (fun _ _ => ⟨rfl, e77, (by decide : 0 + 0 ≤ _), (by decide : 0 + 0 ≤ _)⟩)
  dsimp only [Pt.U, Pt.locs, Pt.cells, Pt.slots] at X78 l78 y78 z78 st78 hQ78
  subst l78 y78 z78
  obtain ⟨rfl, N78q, K78, f78_0, f78_1, f78_2, f78_3, f78_4⟩ := hQ78
  have N78 := Fr.app N75 N78q
  obtain ⟨lc78, X78, N78⟩ := own_pack X78 N78
  refine Go.by' (fun t k => st78.trans k) ?_
  have O78 := O75.keep K78 (allS g_al (allS g_ar all0))
  have KC78 : Keep h0 T78.heap [al, ar] := KC75.trans K78 (allS (Or.inl (List.mem_of_getElem? (i := 0) rfl)) (allS (Or.inl (List.mem_of_getElem? (i := 1) rfl)) all0))
  show Go p.tables e below Pf (T78.setTop (mkF m 23 #[vr al, vr ob] []))
  refine Go.by' (fun t k => (XS.iconst X78.here hx rfl (hb hby d15_23) k)) ?_
  show Go p.tables e below Pf (T78.setTop (mkF m 24 #[vr al, vr ob] [(.int (1 : Int32))]))
  rw [hPf]
  exact Go.retI' X78 hx hret hlk (by simp) rfl (hb hby d15_24) (by decide) (by decide) ⟨rfl, N78, KC78, f78_0, f78_1, f78_2, f78_3, f78_4⟩
theorem d6_0 : decode jdk_38_method_8_code 0 = .ok (.aload_n 0, 1) := by decide +kernel
theorem d6_1 : decode jdk_38_method_8_code 1 = .ok (.getfield 48, 3) := by decide +kernel
theorem d6_4 : decode jdk_38_method_8_code 4 = .ok (.ireturn, 1) := by decide +kernel
theorem pn_6 : plainName "java/util/ArrayList" = true := by first | (simp [plainName, overriddenIn]; done) | decide +kernel
set_option maxHeartbeats 4000000 in
theorem ef_rmSize (m : MethodId) {al : Addr} : entryFrame m #[(.ref al)] 1 = mkF m 0 #[vr al] [] := by first | (simp [entryFrame, mkF, argsToLocals, Value.category]; done) | rfl
def QrmSize (Z : State) (wD : Addr) (kD : ClassId) (vcs : Int32) (al : Addr) (sz : Int32) (h0 : Heap) (n0 : Nat) (v : Option Value) (h : Heap) (L : List Loc) : Prop := (v = some (.int sz)) ∧ (L = []) ∧ (h = h0)
set_option maxRecDepth 65536 in
set_option maxHeartbeats 40000000 in
theorem rmSize (l : Launch) (Z : State) (a0 : Array Value) (hw : ∀ d ∈ tables_1, d.before a0 Z = true) (ws : List Jvm.Cond) (wD : Addr) (kD : ClassId) (vcs : Int32) (G : Gh Z wD kD vcs) (al : Addr) (sz : Int32) (h0 : Heap) (n0 : Nat) (O0 : Old Z n0 h0) (FS : Fld Z h0 al "java/util/ArrayList" "size" "I" (.int sz)) :
    MetFree l (⟨"java/util/ArrayList", "size", "()I"⟩ : MethodName) (head1 (Jvm.Cond.code (⟨"java/util/ArrayList", "size", "()I"⟩ : MethodName) jdk_38_method_8_code 1 (some .int) :: ws) ({ frames := 0, cells := 0, slots := 0, locals := 0 } : Room)) (fun aa' UU' => aa' = #[(.ref al)] ∧ Z.Warmed39 UU'.vm ∧ UU'.heap = h0) (fun _ _ _ _ _ => True) (fun _ UU' oo' VV' => ∃ v' L', oo' = .returned v' ∧ QrmSize Z wD kD vcs al sz h0 n0 v' VV'.heap L' ∧ FrameEnd UU' oo' VV' L' ({ frames := 0, cells := 0, slots := 0, locals := 0 } : Room).cells ({ frames := 0, cells := 0, slots := 0, locals := 0 } : Room).slots) := by
  refine MetFree.of_bodySF (plainFor_of_name pn_6) hisR ?_
  intro p e s m args below meth c s₁ Bd hml0 hP hK
  obtain ⟨rfl, hZ, hh⟩ := hP
  have hx := Bd.exec
  have hby := Bd.bytes
  have hlk := Bd.notSynchronized
  have hml : c.maxLocals = 1 := hml0
  have hown : s.vm.findClass "java/util/ArrayList" = some m.cls := findClass_of_methodNamed Bd.named
  have hnm := (name_of_methodNamed Bd.named Bd.method).1
  have hret := Bd.returns
  have X0 : Stand p l e ({ frames := 0, cells := 0, slots := 0, locals := 0 } : Room) s m #[(.ref al)] below meth c s₁ [] 0 0 := Stand.of_body Bd
  have e0 : s₁.heap = h0 := by rw [← hh, Bd.state]; rfl
  have N0 := Fr.nil n0
  refine Go.body ?_
  obtain ⟨Pf, hPf⟩ : ∃ P, P = Fin' s below ({ frames := 0, cells := 0, slots := 0, locals := 0 } : Room).cells ({ frames := 0, cells := 0, slots := 0, locals := 0 } : Room).slots (QrmSize Z wD kD vcs al sz h0 n0) := ⟨_, rfl⟩
  rw [← hPf]
  refine Go.cast (ef_rmSize m) ?_
  have hw39 := (hw _ (List.mem_of_getElem? (i := 39) rfl))
  show Go p.tables e below Pf (s₁.setTop (mkF m 0 #[vr al] []))
  refine Go.by' (fun t k => (XS.aloadN X0.here hx rfl (hb hby d6_0) rfl rfl k)) ?_
  obtain ⟨T79, X79, e79, st79⟩ := getF X0 hx hZ hown (host := "") (Or.inl hw39) Via.refl e0 FS (g := (mkF m 1 #[vr al] [(.ref al)])) rfl rfl (hb hby d6_1)
  refine Go.by' st79 ?_
  show Go p.tables e below Pf (T79.setTop (mkF m 4 #[vr al] [(.int sz)]))
  rw [hPf]
  exact Go.retI' X79 hx hret hlk (by simp) rfl (hb hby d6_4) (by decide) (by decide) ⟨rfl, rfl, e79⟩
theorem d22_0 : decode jdk_41_method_11_code 0 = .ok (.iload_n 0, 1) := by decide +kernel
theorem d22_1 : decode jdk_41_method_11_code 1 = .ok (.ifCond .lt 8, 3) := by decide +kernel
theorem d22_4 : decode jdk_41_method_11_code 4 = .ok (.iload_n 0, 1) := by decide +kernel
theorem d22_5 : decode jdk_41_method_11_code 5 = .ok (.iload_n 1, 1) := by decide +kernel
theorem d22_6 : decode jdk_41_method_11_code 6 = .ok (.if_icmp .lt 10, 3) := by decide +kernel
theorem d22_16 : decode jdk_41_method_11_code 16 = .ok (.iload_n 0, 1) := by decide +kernel
theorem d22_17 : decode jdk_41_method_11_code 17 = .ok (.ireturn, 1) := by decide +kernel
theorem pn_22 : plainName "jdk/internal/util/Preconditions" = true := by first | (simp [plainName, overriddenIn]; done) | decide +kernel
set_option maxHeartbeats 4000000 in
theorem ef_rmPC (m : MethodId) {ia : Int32} {ib : Int32} : entryFrame m #[(.int ia), (.int ib), .null] 3 = mkF m 0 #[vi ia, vi ib, .val .null] [] := by first | (simp [entryFrame, mkF, argsToLocals, Value.category]; done) | rfl
def QrmPC (Z : State) (wD : Addr) (kD : ClassId) (vcs : Int32) (ia : Int32) (ib : Int32) (h0 : Heap) (n0 : Nat) (v : Option Value) (h : Heap) (L : List Loc) : Prop := (v = some (.int ia)) ∧ (L = []) ∧ (h = h0)
set_option maxRecDepth 65536 in
set_option maxHeartbeats 40000000 in
theorem rmPC (l : Launch) (Z : State) (a0 : Array Value) (hw : ∀ d ∈ tables_1, d.before a0 Z = true) (ws : List Jvm.Cond) (wD : Addr) (kD : ClassId) (vcs : Int32) (G : Gh Z wD kD vcs) (ia : Int32) (ib : Int32) (h0 : Heap) (n0 : Nat) (O0 : Old Z n0 h0) (hc0 : ¬ (ia < (0 : Int32))) (hc1 : ia < ib) :
    MetFree l (⟨"jdk/internal/util/Preconditions", "checkIndex", "(IILjava/util/function/BiFunction;)I"⟩ : MethodName) (head1 (Jvm.Cond.code (⟨"jdk/internal/util/Preconditions", "checkIndex", "(IILjava/util/function/BiFunction;)I"⟩ : MethodName) jdk_41_method_11_code 3 (some .int) :: ws) ({ frames := 0, cells := 0, slots := 0, locals := 0 } : Room)) (fun aa' UU' => aa' = #[(.int ia), (.int ib), .null] ∧ Z.Warmed39 UU'.vm ∧ UU'.heap = h0) (fun _ _ _ _ _ => True) (fun _ UU' oo' VV' => ∃ v' L', oo' = .returned v' ∧ QrmPC Z wD kD vcs ia ib h0 n0 v' VV'.heap L' ∧ FrameEnd UU' oo' VV' L' ({ frames := 0, cells := 0, slots := 0, locals := 0 } : Room).cells ({ frames := 0, cells := 0, slots := 0, locals := 0 } : Room).slots) := by
  refine MetFree.of_bodySF (plainFor_of_name pn_22) hisR ?_
  intro p e s m args below meth c s₁ Bd hml0 hP hK
  obtain ⟨rfl, hZ, hh⟩ := hP
  have hx := Bd.exec
  have hby := Bd.bytes
  have hlk := Bd.notSynchronized
  have hml : c.maxLocals = 3 := hml0
  have hown : s.vm.findClass "jdk/internal/util/Preconditions" = some m.cls := findClass_of_methodNamed Bd.named
  have hnm := (name_of_methodNamed Bd.named Bd.method).1
  have hret := Bd.returns
  have X0 : Stand p l e ({ frames := 0, cells := 0, slots := 0, locals := 0 } : Room) s m #[(.int ia), (.int ib), .null] below meth c s₁ [] 0 0 := Stand.of_body Bd
  have e0 : s₁.heap = h0 := by rw [← hh, Bd.state]; rfl
  have N0 := Fr.nil n0
  refine Go.body ?_
  obtain ⟨Pf, hPf⟩ : ∃ P, P = Fin' s below ({ frames := 0, cells := 0, slots := 0, locals := 0 } : Room).cells ({ frames := 0, cells := 0, slots := 0, locals := 0 } : Room).slots (QrmPC Z wD kD vcs ia ib h0 n0) := ⟨_, rfl⟩
  rw [← hPf]
  refine Go.cast (ef_rmPC m) ?_
  show Go p.tables e below Pf (s₁.setTop (mkF m 0 #[vi ia, vi ib, .val .null] []))
  refine Go.by' (fun t k => (XS.iloadN X0.here hx rfl (hb hby d22_0) rfl (XS.ifNo X0.here hx rfl (hb hby d22_1) rfl ((if0 _ _).trans (flt hc0).1) (XS.iloadN X0.here hx rfl (hb hby d22_4) rfl (XS.iloadN X0.here hx rfl (hb hby d22_5) rfl (XS.icmpYes X0.here hx rfl (pc0 := 6) (pc' := 16) rfl (hb hby d22_6) rfl (tlt hc1).1 (by decide) (by decide) (XS.iloadN X0.here hx rfl (hb hby d22_16) rfl k))))))) ?_
  show Go p.tables e below Pf (s₁.setTop (mkF m 17 #[vi ia, vi ib, .val .null] [(.int ia)]))
  rw [hPf]
  exact Go.retI' X0 hx hret hlk (by simp) rfl (hb hby d22_17) (by decide) (by decide) ⟨rfl, rfl, e0⟩
theorem d21_0 : decode jdk_31_method_17_code 0 = .ok (.iload_n 0, 1) := by decide +kernel
theorem d21_1 : decode jdk_31_method_17_code 1 = .ok (.iload_n 1, 1) := by decide +kernel
theorem d21_2 : decode jdk_31_method_17_code 2 = .ok (.aconst_null, 1) := by decide +kernel
theorem d21_3 : decode jdk_31_method_17_code 3 = .ok (.invokestatic 105, 3) := by decide +kernel
theorem pd_10 : parseMethodDescriptor "(IILjava/util/function/BiFunction;)I" = some ⟨[.int, .int, (.object "java/util/function/BiFunction")], some .int⟩ := by decide +kernel
theorem d21_6 : decode jdk_31_method_17_code 6 = .ok (.ireturn, 1) := by decide +kernel
theorem pn_21 : plainName "java/util/Objects" = true := by first | (simp [plainName, overriddenIn]; done) | decide +kernel
set_option maxHeartbeats 4000000 in
theorem ef_rmOC (m : MethodId) {ia : Int32} {ib : Int32} : entryFrame m #[(.int ia), (.int ib)] 2 = mkF m 0 #[vi ia, vi ib] [] := by first | (simp [entryFrame, mkF, argsToLocals, Value.category]; done) | rfl
def QrmOC (Z : State) (wD : Addr) (kD : ClassId) (vcs : Int32) (ia : Int32) (ib : Int32) (h0 : Heap) (n0 : Nat) (v : Option Value) (h : Heap) (L : List Loc) : Prop := (v = some (.int ia)) ∧ (L = []) ∧ (h = h0)
set_option maxRecDepth 65536 in
set_option maxHeartbeats 40000000 in
theorem rmOC (l : Launch) (Z : State) (a0 : Array Value) (hw : ∀ d ∈ tables_1, d.before a0 Z = true) (ws : List Jvm.Cond) (wD : Addr) (kD : ClassId) (vcs : Int32) (G : Gh Z wD kD vcs) (ia : Int32) (ib : Int32) (h0 : Heap) (n0 : Nat) (O0 : Old Z n0 h0) (hc0 : ¬ (ia < (0 : Int32))) (hc1 : ia < ib) :
    MetFree l (⟨"java/util/Objects", "checkIndex", "(II)I"⟩ : MethodName) (head1 (Jvm.Cond.code (⟨"java/util/Objects", "checkIndex", "(II)I"⟩ : MethodName) jdk_31_method_17_code 2 (some .int) :: ws) ({ frames := 1, cells := 0, slots := 0, locals := 14 } : Room)) (fun aa' UU' => aa' = #[(.int ia), (.int ib)] ∧ Z.Warmed39 UU'.vm ∧ UU'.heap = h0) (fun _ _ _ _ _ => True) (fun _ UU' oo' VV' => ∃ v' L', oo' = .returned v' ∧ QrmOC Z wD kD vcs ia ib h0 n0 v' VV'.heap L' ∧ FrameEnd UU' oo' VV' L' ({ frames := 1, cells := 0, slots := 0, locals := 14 } : Room).cells ({ frames := 1, cells := 0, slots := 0, locals := 14 } : Room).slots) := by
  refine MetFree.of_bodySF (plainFor_of_name pn_21) hisR ?_
  intro p e s m args below meth c s₁ Bd hml0 hP hK
  obtain ⟨rfl, hZ, hh⟩ := hP
  have hx := Bd.exec
  have hby := Bd.bytes
  have hlk := Bd.notSynchronized
  have hml : c.maxLocals = 2 := hml0
  have hown : s.vm.findClass "java/util/Objects" = some m.cls := findClass_of_methodNamed Bd.named
  have hnm := (name_of_methodNamed Bd.named Bd.method).1
  have hret := Bd.returns
  have X0 : Stand p l e ({ frames := 1, cells := 0, slots := 0, locals := 14 } : Room) s m #[(.int ia), (.int ib)] below meth c s₁ [] 0 0 := Stand.of_body Bd
  have e0 : s₁.heap = h0 := by rw [← hh, Bd.state]; rfl
  have N0 := Fr.nil n0
  refine Go.body ?_
  obtain ⟨Pf, hPf⟩ : ∃ P, P = Fin' s below ({ frames := 1, cells := 0, slots := 0, locals := 14 } : Room).cells ({ frames := 1, cells := 0, slots := 0, locals := 14 } : Room).slots (QrmOC Z wD kD vcs ia ib h0 n0) := ⟨_, rfl⟩
  rw [← hPf]
  refine Go.cast (ef_rmOC m) ?_
  have hw134 := (hw _ (List.mem_of_getElem? (i := 134) rfl))
  have hw135 := (hw _ (List.mem_of_getElem? (i := 135) rfl))
  have hw136 := (hw _ (List.mem_of_getElem? (i := 136) rfl))
  have hw137 := (hw _ (List.mem_of_getElem? (i := 137) rfl))
  show Go p.tables e below Pf (s₁.setTop (mkF m 0 #[vi ia, vi ib] []))
  refine Go.by' (fun t k => (XS.iloadN X0.here hx rfl (hb hby d21_0) rfl (XS.iloadN X0.here hx rfl (hb hby d21_1) rfl (XS.aconstNull X0.here hx rfl (hb hby d21_2) k)))) ?_
  obtain ⟨_, _, ⟨T80, L80, k80, n80⟩, -, X80, ⟨Lc80, hQ80, l80, y80, z80⟩, st80⟩ := Jvm.LawKit.callS X0 hx (y := (⟨"jdk/internal/util/Preconditions", "checkIndex", "(IILjava/util/function/BiFunction;)I"⟩ : MethodName)) hown (mvT hZ hw134) (mvT hZ hw135) (mvT hZ hw136) (mvT hZ hw137) (by decide) (backOf (W := 0) (rmPC l Z a0 hw [] wD kD vcs G ia ib h0 n0 O0 hc0 hc1) hZ hw137 hw136 (by decide) (by decide)) (g := (mkF m 3 #[vi ia, vi ib] [.null, (.int ib), (.int ia)])) rfl (by rw [hml]; rfl) (argsL := [(.int ia), (.int ib), .null]) (rest := []) (lenOf pd_10 rfl) rfl (by show 2 * 0 + _ ≤ _; exact Nat.le_of_eq rfl) (hb hby d21_3) (fun _ _ => ⟨rfl, e0, (by decide : 0 + 0 ≤ _), (by decide : 0 + 0 ≤ _)⟩)
  dsimp only [Pt.U, Pt.locs, Pt.cells, Pt.slots] at X80 l80 y80 z80 st80 hQ80
  subst l80 y80 z80
  obtain ⟨rfl, rfl, e80⟩ := hQ80
  try replace X80 := own_nil X80
  refine Go.by' st80 ?_
  show Go p.tables e below Pf (T80.setTop (mkF m 6 #[vi ia, vi ib] [(.int ia)]))
  rw [hPf]
  exact Go.retI' X80 hx hret hlk (by simp) rfl (hb hby d21_6) (by decide) (by decide) ⟨rfl, rfl, e80⟩
theorem d23_0 : decode jdk_38_method_18_code 0 = .ok (.aload_n 0, 1) := by decide +kernel
theorem d23_1 : decode jdk_38_method_18_code 1 = .ok (.getfield 9, 3) := by decide +kernel
theorem d23_4 : decode jdk_38_method_18_code 4 = .ok (.iload_n 1, 1) := by decide +kernel
theorem d23_5 : decode jdk_38_method_18_code 5 = .ok (.aaload, 1) := by decide +kernel
theorem d23_6 : decode jdk_38_method_18_code 6 = .ok (.areturn, 1) := by decide +kernel
theorem pn_23 : plainName "java/util/ArrayList" = true := by first | (simp [plainName, overriddenIn]; done) | decide +kernel
set_option maxHeartbeats 4000000 in
theorem ef_rmED0 (m : MethodId) {al : Addr} : entryFrame m #[(.ref al), (.int (0 : Int32))] 2 = mkF m 0 #[vr al, vi (0 : Int32)] [] := by first | (simp [entryFrame, mkF, argsToLocals, Value.category]; done) | rfl
def QrmED0 (Z : State) (wD : Addr) (kD : ClassId) (vcs : Int32) (al : Addr) (ar : Addr) (kk : ClassId) (v1 : Value) (v2 : Value) (v3 : Value) (v4 : Value) (v5 : Value) (v6 : Value) (v7 : Value) (v8 : Value) (v9 : Value) (el0 : Addr) (h0 : Heap) (n0 : Nat) (v : Option Value) (h : Heap) (L : List Loc) : Prop := (v = some (.ref el0)) ∧ (L = []) ∧ (h = h0)
set_option maxRecDepth 65536 in
set_option maxHeartbeats 40000000 in
theorem rmED0 (l : Launch) (Z : State) (a0 : Array Value) (hw : ∀ d ∈ tables_1, d.before a0 Z = true) (ws : List Jvm.Cond) (wD : Addr) (kD : ClassId) (vcs : Int32) (G : Gh Z wD kD vcs) (al : Addr) (ar : Addr) (kk : ClassId) (v1 : Value) (v2 : Value) (v3 : Value) (v4 : Value) (v5 : Value) (v6 : Value) (v7 : Value) (v8 : Value) (v9 : Value) (el0 : Addr) (h0 : Heap) (n0 : Nat) (O0 : Old Z n0 h0) (FE : Fld Z h0 al "java/util/ArrayList" "elementData" "[Ljava/lang/Object;" (.ref ar)) (VA : Arv Z h0 ar kk (.object "java/lang/Object") (10 : Int32) [(.ref el0), v1, v2, v3, v4, v5, v6, v7, v8, v9] Value.null) :
    MetFree l (⟨"java/util/ArrayList", "elementData", "(I)Ljava/lang/Object;"⟩ : MethodName) (head1 (Jvm.Cond.code (⟨"java/util/ArrayList", "elementData", "(I)Ljava/lang/Object;"⟩ : MethodName) jdk_38_method_18_code 2 (some (.object "java/lang/Object")) :: ws) ({ frames := 0, cells := 0, slots := 0, locals := 0 } : Room)) (fun aa' UU' => aa' = #[(.ref al), (.int (0 : Int32))] ∧ Z.Warmed39 UU'.vm ∧ UU'.heap = h0) (fun _ _ _ _ _ => True) (fun _ UU' oo' VV' => ∃ v' L', oo' = .returned v' ∧ QrmED0 Z wD kD vcs al ar kk v1 v2 v3 v4 v5 v6 v7 v8 v9 el0 h0 n0 v' VV'.heap L' ∧ FrameEnd UU' oo' VV' L' ({ frames := 0, cells := 0, slots := 0, locals := 0 } : Room).cells ({ frames := 0, cells := 0, slots := 0, locals := 0 } : Room).slots) := by
  refine MetFree.of_bodySF (plainFor_of_name pn_23) hisR ?_
  intro p e s m args below meth c s₁ Bd hml0 hP hK
  obtain ⟨rfl, hZ, hh⟩ := hP
  have hx := Bd.exec
  have hby := Bd.bytes
  have hlk := Bd.notSynchronized
  have hml : c.maxLocals = 2 := hml0
  have hown : s.vm.findClass "java/util/ArrayList" = some m.cls := findClass_of_methodNamed Bd.named
  have hnm := (name_of_methodNamed Bd.named Bd.method).1
  have hret := Bd.returns
  have X0 : Stand p l e ({ frames := 0, cells := 0, slots := 0, locals := 0 } : Room) s m #[(.ref al), (.int (0 : Int32))] below meth c s₁ [] 0 0 := Stand.of_body Bd
  have e0 : s₁.heap = h0 := by rw [← hh, Bd.state]; rfl
  have N0 := Fr.nil n0
  refine Go.body ?_
  obtain ⟨Pf, hPf⟩ : ∃ P, P = Fin' s below ({ frames := 0, cells := 0, slots := 0, locals := 0 } : Room).cells ({ frames := 0, cells := 0, slots := 0, locals := 0 } : Room).slots (QrmED0 Z wD kD vcs al ar kk v1 v2 v3 v4 v5 v6 v7 v8 v9 el0 h0 n0) := ⟨_, rfl⟩
  rw [← hPf]
  refine Go.cast (ef_rmED0 m) ?_
  have hw24 := (hw _ (List.mem_of_getElem? (i := 24) rfl))
  show Go p.tables e below Pf (s₁.setTop (mkF m 0 #[vr al, vi (0 : Int32)] []))
  refine Go.by' (fun t k => (XS.aloadN X0.here hx rfl (hb hby d23_0) rfl rfl k)) ?_
  obtain ⟨T81, X81, e81, st81⟩ := getF X0 hx hZ hown (host := "") (Or.inl hw24) Via.refl e0 FE (g := (mkF m 1 #[vr al, vi (0 : Int32)] [(.ref al)])) rfl rfl (hb hby d23_1)
  refine Go.by' st81 ?_
  show Go p.tables e below Pf (T81.setTop (mkF m 4 #[vr al, vi (0 : Int32)] [(.ref ar)]))
  refine Go.by' (fun t k => (XS.iloadN X81.here hx rfl (hb hby d23_4) rfl k)) ?_
  obtain ⟨cl82, Ar82, q82, S82, P82, H82, G82⟩ := (id VA)
  have hin82 : ¬ ((0 : Int32) < 0 ∨ cl82.slots.size ≤ ((0 : Int32)).toNatClampNeg) := inb_of S82 ⟨by decide, by decide⟩
  show Go p.tables e below Pf (T81.setTop (mkF m 5 #[vr al, vi (0 : Int32)] [(.int (0 : Int32)), (.ref ar)]))
  refine Go.by' (fun t k => (X81.aaload hx (j := (0 : Int32)) (v := (.ref el0)) (by rw [e81]; exact Ar82.1) (State.isArrayOf_alike hZ.alike Ar82.2.1) rfl Ar82.2.2 hin82 (H82.at hin82 rfl) (g := (mkF m 5 #[vr al, vi (0 : Int32)] [(.int (0 : Int32)), (.ref ar)])) rfl rfl (hb hby d23_5) t k)) ?_
  show Go p.tables e below Pf (T81.setTop (mkF m 6 #[vr al, vi (0 : Int32)] [(.ref el0)]))
  rw [hPf]
  exact Go.retA' X81 hx hret hlk rfl rfl (hb hby d23_6) (by decide) (by decide) ⟨rfl, rfl, e81⟩
theorem d20_0 : decode jdk_38_method_20_code 0 = .ok (.iload_n 1, 1) := by decide +kernel
theorem d20_1 : decode jdk_38_method_20_code 1 = .ok (.aload_n 0, 1) := by decide +kernel
theorem d20_2 : decode jdk_38_method_20_code 2 = .ok (.getfield 48, 3) := by decide +kernel
theorem d20_5 : decode jdk_38_method_20_code 5 = .ok (.invokestatic 118, 3) := by decide +kernel
theorem d20_8 : decode jdk_38_method_20_code 8 = .ok (.pop, 1) := by decide +kernel
theorem d20_9 : decode jdk_38_method_20_code 9 = .ok (.aload_n 0, 1) := by decide +kernel
theorem d20_10 : decode jdk_38_method_20_code 10 = .ok (.iload_n 1, 1) := by decide +kernel
theorem d20_11 : decode jdk_38_method_20_code 11 = .ok (.invokevirtual 123, 3) := by decide +kernel
theorem pd_11 : parseMethodDescriptor "(I)Ljava/lang/Object;" = some ⟨[.int], some (.object "java/lang/Object")⟩ := by decide +kernel
theorem d20_14 : decode jdk_38_method_20_code 14 = .ok (.areturn, 1) := by decide +kernel
theorem pn_20 : plainName "java/util/ArrayList" = true := by first | (simp [plainName, overriddenIn]; done) | decide +kernel
set_option maxHeartbeats 4000000 in
theorem ef_rmGet0 (m : MethodId) {al : Addr} : entryFrame m #[(.ref al), (.int (0 : Int32))] 2 = mkF m 0 #[vr al, vi (0 : Int32)] [] := by first | (simp [entryFrame, mkF, argsToLocals, Value.category]; done) | rfl
def QrmGet0 (Z : State) (wD : Addr) (kD : ClassId) (vcs : Int32) (al : Addr) (sz : Int32) (ar : Addr) (kk : ClassId) (v1 : Value) (v2 : Value) (v3 : Value) (v4 : Value) (v5 : Value) (v6 : Value) (v7 : Value) (v8 : Value) (v9 : Value) (el0 : Addr) (h0 : Heap) (n0 : Nat) (v : Option Value) (h : Heap) (L : List Loc) : Prop := (v = some (.ref el0)) ∧ (L = []) ∧ (h = h0)
set_option maxRecDepth 65536 in
set_option maxHeartbeats 40000000 in
theorem rmGet0 (l : Launch) (Z : State) (a0 : Array Value) (hw : ∀ d ∈ tables_1, d.before a0 Z = true) (ws : List Jvm.Cond) (wD : Addr) (kD : ClassId) (vcs : Int32) (G : Gh Z wD kD vcs) (al : Addr) (sz : Int32) (ar : Addr) (kk : ClassId) (v1 : Value) (v2 : Value) (v3 : Value) (v4 : Value) (v5 : Value) (v6 : Value) (v7 : Value) (v8 : Value) (v9 : Value) (el0 : Addr) (h0 : Heap) (n0 : Nat) (O0 : Old Z n0 h0) (FS : Fld Z h0 al "java/util/ArrayList" "size" "I" (.int sz)) (hsz : (0 : Int32) < sz) (EX : Exa Z h0 al "java/util/ArrayList") (FE : Fld Z h0 al "java/util/ArrayList" "elementData" "[Ljava/lang/Object;" (.ref ar)) (VA : Arv Z h0 ar kk (.object "java/lang/Object") (10 : Int32) [(.ref el0), v1, v2, v3, v4, v5, v6, v7, v8, v9] Value.null) :
    MetFree l (⟨"java/util/ArrayList", "get", "(I)Ljava/lang/Object;"⟩ : MethodName) (head1 (Jvm.Cond.code (⟨"java/util/ArrayList", "get", "(I)Ljava/lang/Object;"⟩ : MethodName) jdk_38_method_20_code 2 (some (.object "java/lang/Object")) :: ws) ({ frames := 2, cells := 0, slots := 0, locals := 27 } : Room)) (fun aa' UU' => aa' = #[(.ref al), (.int (0 : Int32))] ∧ Z.Warmed39 UU'.vm ∧ UU'.heap = h0) (fun _ _ _ _ _ => True) (fun _ UU' oo' VV' => ∃ v' L', oo' = .returned v' ∧ QrmGet0 Z wD kD vcs al sz ar kk v1 v2 v3 v4 v5 v6 v7 v8 v9 el0 h0 n0 v' VV'.heap L' ∧ FrameEnd UU' oo' VV' L' ({ frames := 2, cells := 0, slots := 0, locals := 27 } : Room).cells ({ frames := 2, cells := 0, slots := 0, locals := 27 } : Room).slots) := by
  refine MetFree.of_bodySF (plainFor_of_name pn_20) hisR ?_
  intro p e s m args below meth c s₁ Bd hml0 hP hK
  obtain ⟨rfl, hZ, hh⟩ := hP
  have hx := Bd.exec
  have hby := Bd.bytes
  have hlk := Bd.notSynchronized
  have hml : c.maxLocals = 2 := hml0
  have hown : s.vm.findClass "java/util/ArrayList" = some m.cls := findClass_of_methodNamed Bd.named
  have hnm := (name_of_methodNamed Bd.named Bd.method).1
  have hret := Bd.returns
  have X0 : Stand p l e ({ frames := 2, cells := 0, slots := 0, locals := 27 } : Room) s m #[(.ref al), (.int (0 : Int32))] below meth c s₁ [] 0 0 := Stand.of_body Bd
  have e0 : s₁.heap = h0 := by rw [← hh, Bd.state]; rfl
  have N0 := Fr.nil n0
  refine Go.body ?_
  obtain ⟨Pf, hPf⟩ : ∃ P, P = Fin' s below ({ frames := 2, cells := 0, slots := 0, locals := 27 } : Room).cells ({ frames := 2, cells := 0, slots := 0, locals := 27 } : Room).slots (QrmGet0 Z wD kD vcs al sz ar kk v1 v2 v3 v4 v5 v6 v7 v8 v9 el0 h0 n0) := ⟨_, rfl⟩
  rw [← hPf]
  refine Go.cast (ef_rmGet0 m) ?_
  have hw2 := (hw _ (List.mem_of_getElem? (i := 2) rfl))
  have hw39 := (hw _ (List.mem_of_getElem? (i := 39) rfl))
  have hw130 := (hw _ (List.mem_of_getElem? (i := 130) rfl))
  have hw131 := (hw _ (List.mem_of_getElem? (i := 131) rfl))
  have hw132 := (hw _ (List.mem_of_getElem? (i := 132) rfl))
  have hw133 := (hw _ (List.mem_of_getElem? (i := 133) rfl))
  have hw138 := (hw _ (List.mem_of_getElem? (i := 138) rfl))
  have hw139 := (hw _ (List.mem_of_getElem? (i := 139) rfl))
  have hw140 := (hw _ (List.mem_of_getElem? (i := 140) rfl))
  have hw141 := (hw _ (List.mem_of_getElem? (i := 141) rfl))
  have hw142 := (hw _ (List.mem_of_getElem? (i := 142) rfl))
  show Go p.tables e below Pf (s₁.setTop (mkF m 0 #[vr al, vi (0 : Int32)] []))
  refine Go.by' (fun t k => (XS.iloadN X0.here hx rfl (hb hby d20_0) rfl (XS.aloadN X0.here hx rfl (hb hby d20_1) rfl rfl k))) ?_
  obtain ⟨T83, X83, e83, st83⟩ := getF X0 hx hZ hown (host := "") (Or.inl hw39) Via.refl e0 FS (g := (mkF m 2 #[vr al, vi (0 : Int32)] [(.ref al), (.int (0 : Int32))])) rfl rfl (hb hby d20_2)
  refine Go.by' st83 ?_
  obtain ⟨_, _, ⟨T84, L84, k84, n84⟩, -, X84, ⟨Lc84, hQ84, l84, y84, z84⟩, st84⟩ := Jvm.LawKit.callS X83 hx (y := (⟨"java/util/Objects", "checkIndex", "(II)I"⟩ : MethodName)) hown (mvT hZ hw130) (mvT hZ hw131) (mvT hZ hw132) (mvT hZ hw133) (by decide) (backOf (W := 0) (rmOC l Z a0 hw [] wD kD vcs G ((0 : Int32)) sz h0 n0 O0 (by decide) hsz) hZ hw133 hw132 (by decide) (by decide)) (g := (mkF m 5 #[vr al, vi (0 : Int32)] [(.int sz), (.int (0 : Int32))])) rfl (by rw [hml]; rfl) (argsL := [(.int (0 : Int32)), (.int sz)]) (rest := []) (lenOf pd_6 rfl) rfl (by show 2 * 0 + _ ≤ _; exact Nat.le_of_eq rfl) (hb hby d20_5) (fun _ _ => ⟨rfl, e83, (by decide : 0 + 0 ≤ _), (by decide : 0 + 0 ≤ _)⟩)
  dsimp only [Pt.U, Pt.locs, Pt.cells, Pt.slots] at X84 l84 y84 z84 st84 hQ84
  subst l84 y84 z84
  obtain ⟨rfl, rfl, e84⟩ := hQ84
  try replace X84 := own_nil X84
  refine Go.by' st84 ?_
  show Go p.tables e below Pf (T84.setTop (mkF m 8 #[vr al, vi (0 : Int32)] [(.int (0 : Int32))]))
  refine Go.by' (fun t k => (XS.pop X84.here hx rfl (hb hby d20_8) rfl rfl (XS.aloadN X84.here hx rfl (hb hby d20_9) rfl rfl (XS.iloadN X84.here hx rfl (hb hby d20_10) rfl k)))) ?_
  obtain ⟨cq85, kq85, q85a, q85b, q85c⟩ := isOf hZ e84 EX
  obtain ⟨_, _, ⟨T85, L85, k85, n85⟩, -, X85, ⟨Lc85, hQ85, l85, y85, z85⟩, st85⟩ := X84.virtualBack hx (y := (⟨"java/util/ArrayList", "elementData", "(I)Ljava/lang/Object;"⟩ : MethodName)) (z := (⟨"java/util/ArrayList", "elementData", "(I)Ljava/lang/Object;"⟩ : MethodName)) hown (mvT hZ hw138) (mvT hZ hw139) (notFace_of_selects (args := #[]) (mvT hZ hw141)) (mvT hZ hw141) (mvT hZ hw140) (by decide) (backOf (W := 0) (rmED0 l Z a0 hw [] wD kD vcs G al ar kk v1 v2 v3 v4 v5 v6 v7 v8 v9 el0 h0 n0 O0 FE VA) hZ hw142 hw2 (by decide) (by decide)) q85a q85c (g := (mkF m 11 #[vr al, vi (0 : Int32)] [(.int (0 : Int32)), (.ref al)])) rfl (by rw [hml]; rfl) (Steps.refl _) (argsL := [(.int (0 : Int32))]) (rest := []) (lenOf pd_11 rfl) rfl (by show 2 * 0 + _ ≤ _; exact Nat.le_of_eq rfl) (hb hby d20_11) (fun _ _ => ⟨rfl, e84, (by decide : 0 + 0 ≤ _), (by decide : 0 + 0 ≤ _)⟩)
  dsimp only [Pt.U, Pt.locs, Pt.cells, Pt.slots] at X85 l85 y85 z85 st85 hQ85
  subst l85 y85 z85
  obtain ⟨rfl, rfl, e85⟩ := hQ85
  try replace X85 := own_nil X85
  refine Go.by' (fun t k => st85.trans k) ?_
  show Go p.tables e below Pf (T85.setTop (mkF m 14 #[vr al, vi (0 : Int32)] [(.ref el0)]))
  rw [hPf]
  exact Go.retA' X85 hx hret hlk rfl rfl (hb hby d20_14) (by decide) (by decide) ⟨rfl, rfl, e85⟩
set_option maxHeartbeats 4000000 in
theorem ef_rmED1 (m : MethodId) {al : Addr} : entryFrame m #[(.ref al), (.int (1 : Int32))] 2 = mkF m 0 #[vr al, vi (1 : Int32)] [] := by first | (simp [entryFrame, mkF, argsToLocals, Value.category]; done) | rfl
def QrmED1 (Z : State) (wD : Addr) (kD : ClassId) (vcs : Int32) (al : Addr) (ar : Addr) (kk : ClassId) (v0 : Value) (v2 : Value) (v3 : Value) (v4 : Value) (v5 : Value) (v6 : Value) (v7 : Value) (v8 : Value) (v9 : Value) (el1 : Addr) (h0 : Heap) (n0 : Nat) (v : Option Value) (h : Heap) (L : List Loc) : Prop := (v = some (.ref el1)) ∧ (L = []) ∧ (h = h0)
set_option maxRecDepth 65536 in
set_option maxHeartbeats 40000000 in
theorem rmED1 (l : Launch) (Z : State) (a0 : Array Value) (hw : ∀ d ∈ tables_1, d.before a0 Z = true) (ws : List Jvm.Cond) (wD : Addr) (kD : ClassId) (vcs : Int32) (G : Gh Z wD kD vcs) (al : Addr) (ar : Addr) (kk : ClassId) (v0 : Value) (v2 : Value) (v3 : Value) (v4 : Value) (v5 : Value) (v6 : Value) (v7 : Value) (v8 : Value) (v9 : Value) (el1 : Addr) (h0 : Heap) (n0 : Nat) (O0 : Old Z n0 h0) (FE : Fld Z h0 al "java/util/ArrayList" "elementData" "[Ljava/lang/Object;" (.ref ar)) (VA : Arv Z h0 ar kk (.object "java/lang/Object") (10 : Int32) [v0, (.ref el1), v2, v3, v4, v5, v6, v7, v8, v9] Value.null) :
    MetFree l (⟨"java/util/ArrayList", "elementData", "(I)Ljava/lang/Object;"⟩ : MethodName) (head1 (Jvm.Cond.code (⟨"java/util/ArrayList", "elementData", "(I)Ljava/lang/Object;"⟩ : MethodName) jdk_38_method_18_code 2 (some (.object "java/lang/Object")) :: ws) ({ frames := 0, cells := 0, slots := 0, locals := 0 } : Room)) (fun aa' UU' => aa' = #[(.ref al), (.int (1 : Int32))] ∧ Z.Warmed39 UU'.vm ∧ UU'.heap = h0) (fun _ _ _ _ _ => True) (fun _ UU' oo' VV' => ∃ v' L', oo' = .returned v' ∧ QrmED1 Z wD kD vcs al ar kk v0 v2 v3 v4 v5 v6 v7 v8 v9 el1 h0 n0 v' VV'.heap L' ∧ FrameEnd UU' oo' VV' L' ({ frames := 0, cells := 0, slots := 0, locals := 0 } : Room).cells ({ frames := 0, cells := 0, slots := 0, locals := 0 } : Room).slots) := by
  refine MetFree.of_bodySF (plainFor_of_name pn_23) hisR ?_
  intro p e s m args below meth c s₁ Bd hml0 hP hK
  obtain ⟨rfl, hZ, hh⟩ := hP
  have hx := Bd.exec
  have hby := Bd.bytes
  have hlk := Bd.notSynchronized
  have hml : c.maxLocals = 2 := hml0
  have hown : s.vm.findClass "java/util/ArrayList" = some m.cls := findClass_of_methodNamed Bd.named
  have hnm := (name_of_methodNamed Bd.named Bd.method).1
  have hret := Bd.returns
  have X0 : Stand p l e ({ frames := 0, cells := 0, slots := 0, locals := 0 } : Room) s m #[(.ref al), (.int (1 : Int32))] below meth c s₁ [] 0 0 := Stand.of_body Bd
  have e0 : s₁.heap = h0 := by rw [← hh, Bd.state]; rfl
  have N0 := Fr.nil n0
  refine Go.body ?_
  obtain ⟨Pf, hPf⟩ : ∃ P, P = Fin' s below ({ frames := 0, cells := 0, slots := 0, locals := 0 } : Room).cells ({ frames := 0, cells := 0, slots := 0, locals := 0 } : Room).slots (QrmED1 Z wD kD vcs al ar kk v0 v2 v3 v4 v5 v6 v7 v8 v9 el1 h0 n0) := ⟨_, rfl⟩
  rw [← hPf]
  refine Go.cast (ef_rmED1 m) ?_
  have hw24 := (hw _ (List.mem_of_getElem? (i := 24) rfl))
  show Go p.tables e below Pf (s₁.setTop (mkF m 0 #[vr al, vi (1 : Int32)] []))
  refine Go.by' (fun t k => (XS.aloadN X0.here hx rfl (hb hby d23_0) rfl rfl k)) ?_
  obtain ⟨T86, X86, e86, st86⟩ := getF X0 hx hZ hown (host := "") (Or.inl hw24) Via.refl e0 FE (g := (mkF m 1 #[vr al, vi (1 : Int32)] [(.ref al)])) rfl rfl (hb hby d23_1)
  refine Go.by' st86 ?_
  show Go p.tables e below Pf (T86.setTop (mkF m 4 #[vr al, vi (1 : Int32)] [(.ref ar)]))
  refine Go.by' (fun t k => (XS.iloadN X86.here hx rfl (hb hby d23_4) rfl k)) ?_
  obtain ⟨cl87, Ar87, q87, S87, P87, H87, G87⟩ := (id VA)
  have hin87 : ¬ ((1 : Int32) < 0 ∨ cl87.slots.size ≤ ((1 : Int32)).toNatClampNeg) := inb_of S87 ⟨by decide, by decide⟩
  show Go p.tables e below Pf (T86.setTop (mkF m 5 #[vr al, vi (1 : Int32)] [(.int (1 : Int32)), (.ref ar)]))
  refine Go.by' (fun t k => (X86.aaload hx (j := (1 : Int32)) (v := (.ref el1)) (by rw [e86]; exact Ar87.1) (State.isArrayOf_alike hZ.alike Ar87.2.1) rfl Ar87.2.2 hin87 (H87.at hin87 rfl) (g := (mkF m 5 #[vr al, vi (1 : Int32)] [(.int (1 : Int32)), (.ref ar)])) rfl rfl (hb hby d23_5) t k)) ?_
  show Go p.tables e below Pf (T86.setTop (mkF m 6 #[vr al, vi (1 : Int32)] [(.ref el1)]))
  rw [hPf]
  exact Go.retA' X86 hx hret hlk rfl rfl (hb hby d23_6) (by decide) (by decide) ⟨rfl, rfl, e86⟩
set_option maxHeartbeats 4000000 in
theorem ef_rmGet1 (m : MethodId) {al : Addr} : entryFrame m #[(.ref al), (.int (1 : Int32))] 2 = mkF m 0 #[vr al, vi (1 : Int32)] [] := by first | (simp [entryFrame, mkF, argsToLocals, Value.category]; done) | rfl
def QrmGet1 (Z : State) (wD : Addr) (kD : ClassId) (vcs : Int32) (al : Addr) (sz : Int32) (ar : Addr) (kk : ClassId) (v0 : Value) (v2 : Value) (v3 : Value) (v4 : Value) (v5 : Value) (v6 : Value) (v7 : Value) (v8 : Value) (v9 : Value) (el1 : Addr) (h0 : Heap) (n0 : Nat) (v : Option Value) (h : Heap) (L : List Loc) : Prop := (v = some (.ref el1)) ∧ (L = []) ∧ (h = h0)
set_option maxRecDepth 65536 in
set_option maxHeartbeats 40000000 in
theorem rmGet1 (l : Launch) (Z : State) (a0 : Array Value) (hw : ∀ d ∈ tables_1, d.before a0 Z = true) (ws : List Jvm.Cond) (wD : Addr) (kD : ClassId) (vcs : Int32) (G : Gh Z wD kD vcs) (al : Addr) (sz : Int32) (ar : Addr) (kk : ClassId) (v0 : Value) (v2 : Value) (v3 : Value) (v4 : Value) (v5 : Value) (v6 : Value) (v7 : Value) (v8 : Value) (v9 : Value) (el1 : Addr) (h0 : Heap) (n0 : Nat) (O0 : Old Z n0 h0) (FS : Fld Z h0 al "java/util/ArrayList" "size" "I" (.int sz)) (hsz : (1 : Int32) < sz) (EX : Exa Z h0 al "java/util/ArrayList") (FE : Fld Z h0 al "java/util/ArrayList" "elementData" "[Ljava/lang/Object;" (.ref ar)) (VA : Arv Z h0 ar kk (.object "java/lang/Object") (10 : Int32) [v0, (.ref el1), v2, v3, v4, v5, v6, v7, v8, v9] Value.null) :
    MetFree l (⟨"java/util/ArrayList", "get", "(I)Ljava/lang/Object;"⟩ : MethodName) (head1 (Jvm.Cond.code (⟨"java/util/ArrayList", "get", "(I)Ljava/lang/Object;"⟩ : MethodName) jdk_38_method_20_code 2 (some (.object "java/lang/Object")) :: ws) ({ frames := 2, cells := 0, slots := 0, locals := 27 } : Room)) (fun aa' UU' => aa' = #[(.ref al), (.int (1 : Int32))] ∧ Z.Warmed39 UU'.vm ∧ UU'.heap = h0) (fun _ _ _ _ _ => True) (fun _ UU' oo' VV' => ∃ v' L', oo' = .returned v' ∧ QrmGet1 Z wD kD vcs al sz ar kk v0 v2 v3 v4 v5 v6 v7 v8 v9 el1 h0 n0 v' VV'.heap L' ∧ FrameEnd UU' oo' VV' L' ({ frames := 2, cells := 0, slots := 0, locals := 27 } : Room).cells ({ frames := 2, cells := 0, slots := 0, locals := 27 } : Room).slots) := by
  refine MetFree.of_bodySF (plainFor_of_name pn_20) hisR ?_
  intro p e s m args below meth c s₁ Bd hml0 hP hK
  obtain ⟨rfl, hZ, hh⟩ := hP
  have hx := Bd.exec
  have hby := Bd.bytes
  have hlk := Bd.notSynchronized
  have hml : c.maxLocals = 2 := hml0
  have hown : s.vm.findClass "java/util/ArrayList" = some m.cls := findClass_of_methodNamed Bd.named
  have hnm := (name_of_methodNamed Bd.named Bd.method).1
  have hret := Bd.returns
  have X0 : Stand p l e ({ frames := 2, cells := 0, slots := 0, locals := 27 } : Room) s m #[(.ref al), (.int (1 : Int32))] below meth c s₁ [] 0 0 := Stand.of_body Bd
  have e0 : s₁.heap = h0 := by rw [← hh, Bd.state]; rfl
  have N0 := Fr.nil n0
  refine Go.body ?_
  obtain ⟨Pf, hPf⟩ : ∃ P, P = Fin' s below ({ frames := 2, cells := 0, slots := 0, locals := 27 } : Room).cells ({ frames := 2, cells := 0, slots := 0, locals := 27 } : Room).slots (QrmGet1 Z wD kD vcs al sz ar kk v0 v2 v3 v4 v5 v6 v7 v8 v9 el1 h0 n0) := ⟨_, rfl⟩
  rw [← hPf]
  refine Go.cast (ef_rmGet1 m) ?_
  have hw2 := (hw _ (List.mem_of_getElem? (i := 2) rfl))
  have hw39 := (hw _ (List.mem_of_getElem? (i := 39) rfl))
  have hw130 := (hw _ (List.mem_of_getElem? (i := 130) rfl))
  have hw131 := (hw _ (List.mem_of_getElem? (i := 131) rfl))
  have hw132 := (hw _ (List.mem_of_getElem? (i := 132) rfl))
  have hw133 := (hw _ (List.mem_of_getElem? (i := 133) rfl))
  have hw138 := (hw _ (List.mem_of_getElem? (i := 138) rfl))
  have hw139 := (hw _ (List.mem_of_getElem? (i := 139) rfl))
  have hw140 := (hw _ (List.mem_of_getElem? (i := 140) rfl))
  have hw141 := (hw _ (List.mem_of_getElem? (i := 141) rfl))
  have hw142 := (hw _ (List.mem_of_getElem? (i := 142) rfl))
  show Go p.tables e below Pf (s₁.setTop (mkF m 0 #[vr al, vi (1 : Int32)] []))
  refine Go.by' (fun t k => (XS.iloadN X0.here hx rfl (hb hby d20_0) rfl (XS.aloadN X0.here hx rfl (hb hby d20_1) rfl rfl k))) ?_
  obtain ⟨T88, X88, e88, st88⟩ := getF X0 hx hZ hown (host := "") (Or.inl hw39) Via.refl e0 FS (g := (mkF m 2 #[vr al, vi (1 : Int32)] [(.ref al), (.int (1 : Int32))])) rfl rfl (hb hby d20_2)
  refine Go.by' st88 ?_
  obtain ⟨_, _, ⟨T89, L89, k89, n89⟩, -, X89, ⟨Lc89, hQ89, l89, y89, z89⟩, st89⟩ := Jvm.LawKit.callS X88 hx (y := (⟨"java/util/Objects", "checkIndex", "(II)I"⟩ : MethodName)) hown (mvT hZ hw130) (mvT hZ hw131) (mvT hZ hw132) (mvT hZ hw133) (by decide) (backOf (W := 0) (rmOC l Z a0 hw [] wD kD vcs G ((1 : Int32)) sz h0 n0 O0 (by decide) hsz) hZ hw133 hw132 (by decide) (by decide)) (g := (mkF m 5 #[vr al, vi (1 : Int32)] [(.int sz), (.int (1 : Int32))])) rfl (by rw [hml]; rfl) (argsL := [(.int (1 : Int32)), (.int sz)]) (rest := []) (lenOf pd_6 rfl) rfl (by show 2 * 0 + _ ≤ _; exact Nat.le_of_eq rfl) (hb hby d20_5) (fun _ _ => ⟨rfl, e88, (by decide : 0 + 0 ≤ _), (by decide : 0 + 0 ≤ _)⟩)
  dsimp only [Pt.U, Pt.locs, Pt.cells, Pt.slots] at X89 l89 y89 z89 st89 hQ89
  subst l89 y89 z89
  obtain ⟨rfl, rfl, e89⟩ := hQ89
  try replace X89 := own_nil X89
  refine Go.by' st89 ?_
  show Go p.tables e below Pf (T89.setTop (mkF m 8 #[vr al, vi (1 : Int32)] [(.int (1 : Int32))]))
  refine Go.by' (fun t k => (XS.pop X89.here hx rfl (hb hby d20_8) rfl rfl (XS.aloadN X89.here hx rfl (hb hby d20_9) rfl rfl (XS.iloadN X89.here hx rfl (hb hby d20_10) rfl k)))) ?_
  obtain ⟨cq90, kq90, q90a, q90b, q90c⟩ := isOf hZ e89 EX
  obtain ⟨_, _, ⟨T90, L90, k90, n90⟩, -, X90, ⟨Lc90, hQ90, l90, y90, z90⟩, st90⟩ := X89.virtualBack hx (y := (⟨"java/util/ArrayList", "elementData", "(I)Ljava/lang/Object;"⟩ : MethodName)) (z := (⟨"java/util/ArrayList", "elementData", "(I)Ljava/lang/Object;"⟩ : MethodName)) hown (mvT hZ hw138) (mvT hZ hw139) (notFace_of_selects (args := #[]) (mvT hZ hw141)) (mvT hZ hw141) (mvT hZ hw140) (by decide) (backOf (W := 0) (rmED1 l Z a0 hw [] wD kD vcs G al ar kk v0 v2 v3 v4 v5 v6 v7 v8 v9 el1 h0 n0 O0 FE VA) hZ hw142 hw2 (by decide) (by decide)) q90a q90c (g := (mkF m 11 #[vr al, vi (1 : Int32)] [(.int (1 : Int32)), (.ref al)])) rfl (by rw [hml]; rfl) (Steps.refl _) (argsL := [(.int (1 : Int32))]) (rest := []) (lenOf pd_11 rfl) rfl (by show 2 * 0 + _ ≤ _; exact Nat.le_of_eq rfl) (hb hby d20_11) (fun _ _ => ⟨rfl, e89, (by decide : 0 + 0 ≤ _), (by decide : 0 + 0 ≤ _)⟩)
  dsimp only [Pt.U, Pt.locs, Pt.cells, Pt.slots] at X90 l90 y90 z90 st90 hQ90
  subst l90 y90 z90
  obtain ⟨rfl, rfl, e90⟩ := hQ90
  try replace X90 := own_nil X90
  refine Go.by' (fun t k => st90.trans k) ?_
  show Go p.tables e below Pf (T90.setTop (mkF m 14 #[vr al, vi (1 : Int32)] [(.ref el1)]))
  rw [hPf]
  exact Go.retA' X90 hx hret hlk rfl rfl (hb hby d20_14) (by decide) (by decide) ⟨rfl, rfl, e90⟩
theorem d7_0 : decode method_2_code 0 = .ok (.new 7, 3) := by decide +kernel
theorem d7_3 : decode method_2_code 3 = .ok (.dup, 1) := by decide +kernel
theorem d7_4 : decode method_2_code 4 = .ok (.iconst 1, 1) := by decide +kernel
theorem d7_5 : decode method_2_code 5 = .ok (.newarray .char, 2) := by decide +kernel
theorem d7_7 : decode method_2_code 7 = .ok (.dup, 1) := by decide +kernel
theorem d7_8 : decode method_2_code 8 = .ok (.iconst 0, 1) := by decide +kernel
theorem d7_9 : decode method_2_code 9 = .ok (.iload_n 0, 1) := by decide +kernel
theorem d7_10 : decode method_2_code 10 = .ok (.i2c, 1) := by decide +kernel
theorem d7_11 : decode method_2_code 11 = .ok (.castore, 1) := by decide +kernel
theorem d7_12 : decode method_2_code 12 = .ok (.invokespecial 9, 3) := by decide +kernel
theorem pd_12 : parseMethodDescriptor "([C)V" = some ⟨[(.array .char)], none⟩ := by decide +kernel
theorem d7_15 : decode method_2_code 15 = .ok (.areturn, 1) := by decide +kernel
theorem pn_7 : plainName "com/example/slatewipe/slatewipe/vendors/mariadb/ColumnSameTypesPinLaw" = true := by first | (simp [plainName, overriddenIn]; done) | decide +kernel
set_option maxHeartbeats 4000000 in
theorem ef_rmStr (m : MethodId) {ic : Int32} : entryFrame m #[(.int ic)] 1 = mkF m 0 #[vi ic] [] := by first | (simp [entryFrame, mkF, argsToLocals, Value.category]; done) | rfl
def QrmStr (Z : State) (wD : Addr) (kD : ClassId) (vcs : Int32) (ic : Int32) (h0 : Heap) (n0 : Nat) (v : Option Value) (h : Heap) (L : List Loc) : Prop := ∃ (r : Addr) (rb : Addr) (kb : ClassId), (v = some (.ref r)) ∧ (Fr n0 L) ∧ (Keep h0 h []) ∧ (Exa Z h r "java/lang/String") ∧ (h0.size ≤ r) ∧ (Fld Z h r "java/lang/String" "value" "[B" (.ref rb)) ∧ (Fld Z h r "java/lang/String" "coder" "B" (.int (0 : Int32))) ∧ (Arv Z h rb kb .byte (1 : Int32) [(.int (ic.toInt8.toInt32))] (.int (0 : Int32))) ∧ (h0.size ≤ rb)
set_option maxRecDepth 65536 in
set_option maxHeartbeats 40000000 in
theorem rmStr (l : Launch) (Z : State) (a0 : Array Value) (hw : ∀ d ∈ tables_1, d.before a0 Z = true) (ws : List Jvm.Cond) (wD : Addr) (kD : ClassId) (vcs : Int32) (G : Gh Z wD kD vcs) (ic : Int32) (h0 : Heap) (n0 : Nat) (O0 : Old Z n0 h0) (hlo : ¬ (ic < (0 : Int32))) (hhi : ¬ ((255 : Int32) < ic)) :
    MetFree l (⟨"com/example/slatewipe/slatewipe/vendors/mariadb/ColumnSameTypesPinLaw", "str", "(I)Ljava/lang/String;"⟩ : MethodName) (head1 (Jvm.Cond.code (⟨"com/example/slatewipe/slatewipe/vendors/mariadb/ColumnSameTypesPinLaw", "str", "(I)Ljava/lang/String;"⟩ : MethodName) method_2_code 1 (some (.object "java/lang/String")) :: ws) ({ frames := 4, cells := 3, slots := 6, locals := 66 } : Room)) (fun aa' UU' => aa' = #[(.int ic)] ∧ Z.Warmed39 UU'.vm ∧ UU'.heap = h0) (fun _ _ _ _ _ => True) (fun _ UU' oo' VV' => ∃ v' L', oo' = .returned v' ∧ QrmStr Z wD kD vcs ic h0 n0 v' VV'.heap L' ∧ FrameEnd UU' oo' VV' L' ({ frames := 4, cells := 3, slots := 6, locals := 66 } : Room).cells ({ frames := 4, cells := 3, slots := 6, locals := 66 } : Room).slots) := by
  refine MetFree.of_bodySF (plainFor_of_name pn_7) hisR ?_
  intro p e s m args below meth c s₁ Bd hml0 hP hK
  obtain ⟨rfl, hZ, hh⟩ := hP
  have hx := Bd.exec
  have hby := Bd.bytes
  have hlk := Bd.notSynchronized
  have hml : c.maxLocals = 1 := hml0
  have hown : s.vm.findClass "com/example/slatewipe/slatewipe/vendors/mariadb/ColumnSameTypesPinLaw" = some m.cls := findClass_of_methodNamed Bd.named
  have hnm := (name_of_methodNamed Bd.named Bd.method).1
  have hret := Bd.returns
  have X0 : Stand p l e ({ frames := 4, cells := 3, slots := 6, locals := 66 } : Room) s m #[(.int ic)] below meth c s₁ [] 0 0 := Stand.of_body Bd
  have e0 : s₁.heap = h0 := by rw [← hh, Bd.state]; rfl
  have N0 := Fr.nil n0
  have KC0 : Keep h0 h0 [] := Keep.refl _ _
  refine Go.body ?_
  obtain ⟨Pf, hPf⟩ : ∃ P, P = Fin' s below ({ frames := 4, cells := 3, slots := 6, locals := 66 } : Room).cells ({ frames := 4, cells := 3, slots := 6, locals := 66 } : Room).slots (QrmStr Z wD kD vcs ic h0 n0) := ⟨_, rfl⟩
  rw [← hPf]
  refine Go.cast (ef_rmStr m) ?_
  have hw47 := (hw _ (List.mem_of_getElem? (i := 47) rfl))
  have hw48 := (hw _ (List.mem_of_getElem? (i := 48) rfl))
  have hw49 := (hw _ (List.mem_of_getElem? (i := 49) rfl))
  have hw50 := (hw _ (List.mem_of_getElem? (i := 50) rfl))
  have hw51 := (hw _ (List.mem_of_getElem? (i := 51) rfl))
  have hw52 := (hw _ (List.mem_of_getElem? (i := 52) rfl))
  have hw53 := (hw _ (List.mem_of_getElem? (i := 53) rfl))
  have hw72 := (hw _ (List.mem_of_getElem? (i := 72) rfl))
  have hw74 := (hw _ (List.mem_of_getElem? (i := 74) rfl))
  obtain ⟨T91, h91, X91, e91, E91, A91, D91, -, st91⟩ := newO X0 hx hZ hown hw47 hw48 hw49 e0 (g := (mkF m 0 #[vi ic] [])) rfl (hb hby d7_0) (by decide) (by decide)
  obtain ⟨b91, g91⟩ : ∃ z, z = h0.size := ⟨_, rfl⟩
  rw [← g91] at A91 D91 st91
  refine Go.by' st91 ?_
  have g_b91 : n0 ≤ b91 := Nat.le_trans (own_le O0) (Nat.le_of_eq g91.symm)
  have sz_b91 : h0.size ≤ b91 := Nat.le_trans KC0.1 (Nat.le_of_eq g91.symm)
  have O91 := O0.ext E91
  have KC91 : Keep h0 h91 [] := KC0.ext E91
  have Fn91_72 : Fld Z h91 b91 "java/lang/String" "coder" "B" (Value.int (0 : Int32)) := D91 (Or.inr hw72) (ty := .byte) (by decide)
  have Fn91_74 : Fld Z h91 b91 "java/lang/String" "value" "[B" Value.null := D91 (Or.inr hw74) (ty := (.array .byte)) (by decide)
  show Go p.tables e below Pf (T91.setTop (mkF m 3 #[vi ic] [(.ref b91)]))
  refine Go.by' (fun t k => (XS.dup X91.here hx rfl (hb hby d7_3) rfl rfl (XS.iconst X91.here hx rfl (hb hby d7_4) k))) ?_
  obtain ⟨T92, h92, k92, X92, e92, E92, A92, st92⟩ := newP (aty := .char) X91 hx hZ hw50 e91 (g := (mkF m 5 #[vi ic] [(.int (1 : Int32)), (.ref b91), (.ref b91)])) rfl (hb hby d7_5) rfl (by decide) (cap := 1) (by decide) (by decide) (by decide) (by decide)
  obtain ⟨b92, g92⟩ : ∃ z, z = h91.size := ⟨_, rfl⟩
  rw [← g92] at A92 st92
  refine Go.by' st92 ?_
  have g_b92 : n0 ≤ b92 := Nat.le_trans (own_le O91) (Nat.le_of_eq g92.symm)
  have sz_b92 : h0.size ≤ b92 := Nat.le_trans KC91.1 (Nat.le_of_eq g92.symm)
  have O92 := O91.ext E92
  have KC92 : Keep h0 h92 [] := KC91.ext E92
  have V92 : Arv Z h92 b92 k92 .char (1 : Int32) [(.int (0 : Int32))] (Value.int (0 : Int32)) := (Arv.new A92 (by decide)).pad (pad_rep [] (Value.int (0 : Int32)) 1)
  show Go p.tables e below Pf (T92.setTop (mkF m 7 #[vi ic] [(.ref b92), (.ref b91), (.ref b91)]))
  refine Go.by' (fun t k => (XS.dup X92.here hx rfl (hb hby d7_7) rfl rfl (XS.iconst X92.here hx rfl (hb hby d7_8) (XS.iloadN X92.here hx rfl (hb hby d7_9) rfl (XS.i2c X92.here hx rfl (hb hby d7_10) rfl k))))) ?_
  show Go p.tables e below Pf (T92.setTop (mkF m 11 #[vi ic] [(.int (ic.toUInt32.toUInt16.toUInt32.toInt32)), (.int (0 : Int32)), (.ref b92), (.ref b92), (.ref b91), (.ref b91)]))
  refine Go.castF (a := (ic.toUInt32.toUInt16.toUInt32.toInt32)) (b := ic) (fun z' : Int32 => mkF m 11 #[vi ic] [(.int z'), (.int (0 : Int32)), (.ref b92), (.ref b92), (.ref b91), (.ref b91)]) (own_i2c hlo hhi) ?_
  obtain ⟨cl93, Ar93, q93, S93, P93, H93, G93⟩ := (id V92)
  have hin93 : ¬ ((0 : Int32) < 0 ∨ cl93.slots.size ≤ ((0 : Int32)).toNatClampNeg) := inb_of S93 ⟨by decide, by decide⟩
  obtain ⟨T94, h94, X94, e94, W94, st94⟩ := stC X92 hx hZ e92 Ar93 (j := (0 : Int32)) hin93 (g := (mkF m 11 #[vi ic] [(.int ic), (.int (0 : Int32)), (.ref b92), (.ref b92), (.ref b91), (.ref b91)])) rfl rfl (hb hby d7_11)
  refine Go.by' st94 ?_
  rw [(own_nc hlo hhi : nar .char ic = ic)] at W94
  have V94 : Arv Z h94 b92 k92 .char (1 : Int32) [(.int ic)] (Value.int (0 : Int32)) := Arv.set Ar93 q93 S93 P93 H93 G93 (by have q := fits_nar_char ic; rw [(own_nc hlo hhi : nar .char ic = ic)] at q; exact q) W94 0 rfl (Nat.le_of_ble_eq_true rfl)
  have N94 := Fr.snoc X94 N0 g_b92
  obtain ⟨lc94, X94, N94⟩ := own_pack X94 N94
  have O94 := O92.wr W94 g_b92
  have KC94 : Keep h0 h94 [] := KC92.wr W94 (Or.inr sz_b92)
  have c96 := ((A91.ext E92).wr W94)
  have c97 := ((Fn91_74.ext E92).other W94 (Or.inl (Nat.ne_of_lt (Nat.lt_of_lt_of_le A91.lt (Nat.le_of_eq g92.symm)))))
  have c98 := ((Fn91_72.ext E92).other W94 (Or.inl (Nat.ne_of_lt (Nat.lt_of_lt_of_le A91.lt (Nat.le_of_eq g92.symm)))))
  obtain ⟨_, _, ⟨T95, L95, k95, n95⟩, -, X95, ⟨Lc95, hQ95, l95, y95, z95⟩, st95⟩ := X94.specialBack hx (y := (⟨"java/lang/String", "<init>", "([C)V"⟩ : MethodName)) rfl hown (mvT hZ hw51) (mvT hZ hw52) (mvT hZ hw53) (by decide) (backOf (W := 1) (rmS1_1 l Z a0 hw [] wD kD vcs G b91 b92 k92 ic h94 n0 O94 c96 c97 c98 g_b91 V94 (Nat.ne_of_lt (Nat.lt_of_lt_of_le A91.lt (Nat.le_of_eq g92.symm))) hhi) hZ hw53 hw49 (by decide) (by decide)) (g := (mkF m 12 #[vi ic] [(.ref b92), (.ref b91), (.ref b91)])) rfl (by rw [hml]; rfl) (Steps.refl _) (a := b91) (argsL := [(.ref b92)]) (rest := [(.ref b91)]) (lenOf pd_12 rfl) rfl (by show 2 * 0 + _ ≤ _; exact Nat.le_of_eq rfl) (hb hby d7_12) (fun _ _ => ⟨rfl, e94, (by decide : 2 + 1 ≤ _), (by decide : 5 + 1 ≤ _)⟩)
  dsimp only [Pt.U, Pt.locs, Pt.cells, Pt.slots] at X95 l95 y95 z95 st95 hQ95
  subst l95 y95 z95
  obtain ⟨rb_95, kb_95, rfl, N95q, K95, f95_0, f95_1, f95_2, f95_3, f95_4⟩ := hQ95
  have N95 := Fr.app N94 N95q
  obtain ⟨lc95, X95, N95⟩ := own_pack X95 N95
  refine Go.by' (fun t k => st95.trans k) ?_
  have g_rb_95 : n0 ≤ rb_95 := Nat.le_trans (own_le O94) f95_4
  have sz_rb_95 : h0.size ≤ rb_95 := Nat.le_trans KC94.1 f95_4
  have O95 := O94.keep K95 (allS g_b91 all0)
  have KC95 : Keep h0 T95.heap [] := KC94.trans K95 (allS (Or.inr sz_b91) all0)
  show Go p.tables e below Pf (T95.setTop (mkF m 15 #[vi ic] [(.ref b91)]))
  rw [hPf]
  exact Go.retA' X95 hx hret hlk rfl rfl (hb hby d7_15) (by decide) (by decide) ⟨b91, rb_95, kb_95, rfl, N95, KC95, f95_0, sz_b91, f95_1, f95_2, f95_3, sz_rb_95⟩
theorem d14_0 : decode jdk_30_method_1_code 0 = .ok (.aload_n 0, 1) := by decide +kernel
theorem d14_1 : decode jdk_30_method_1_code 1 = .ok (.invokespecial 1, 3) := by decide +kernel
theorem d14_4 : decode jdk_30_method_1_code 4 = .ok (.return_, 1) := by decide +kernel
theorem pn_14 : plainName "java/lang/Record" = true := by first | (simp [plainName, overriddenIn]; done) | decide +kernel
set_option maxHeartbeats 4000000 in
theorem ef_rmRec (m : MethodId) {al : Addr} : entryFrame m #[(.ref al)] 1 = mkF m 0 #[vr al] [] := by first | (simp [entryFrame, mkF, argsToLocals, Value.category]; done) | rfl
def QrmRec (Z : State) (wD : Addr) (kD : ClassId) (vcs : Int32) (al : Addr) (h0 : Heap) (n0 : Nat) (v : Option Value) (h : Heap) (L : List Loc) : Prop := (v = none) ∧ (L = []) ∧ (h = h0)
set_option maxRecDepth 65536 in
set_option maxHeartbeats 40000000 in
theorem rmRec (l : Launch) (Z : State) (a0 : Array Value) (hw : ∀ d ∈ tables_1, d.before a0 Z = true) (ws : List Jvm.Cond) (wD : Addr) (kD : ClassId) (vcs : Int32) (G : Gh Z wD kD vcs) (al : Addr) (h0 : Heap) (n0 : Nat) (O0 : Old Z n0 h0) :
    MetFree l (⟨"java/lang/Record", "<init>", "()V"⟩ : MethodName) (head1 (Jvm.Cond.code (⟨"java/lang/Record", "<init>", "()V"⟩ : MethodName) jdk_30_method_1_code 1 none :: ws) ({ frames := 1, cells := 0, slots := 0, locals := 12 } : Room)) (fun aa' UU' => aa' = #[(.ref al)] ∧ Z.Warmed39 UU'.vm ∧ UU'.heap = h0) (fun _ _ _ _ _ => True) (fun _ UU' oo' VV' => ∃ v' L', oo' = .returned v' ∧ QrmRec Z wD kD vcs al h0 n0 v' VV'.heap L' ∧ FrameEnd UU' oo' VV' L' ({ frames := 1, cells := 0, slots := 0, locals := 12 } : Room).cells ({ frames := 1, cells := 0, slots := 0, locals := 12 } : Room).slots) := by
  refine MetFree.of_bodySF (plainFor_of_name pn_14) hisR ?_
  intro p e s m args below meth c s₁ Bd hml0 hP hK
  obtain ⟨rfl, hZ, hh⟩ := hP
  have hx := Bd.exec
  have hby := Bd.bytes
  have hlk := Bd.notSynchronized
  have hml : c.maxLocals = 1 := hml0
  have hown : s.vm.findClass "java/lang/Record" = some m.cls := findClass_of_methodNamed Bd.named
  have hnm := (name_of_methodNamed Bd.named Bd.method).1
  have hret := Bd.returns
  have X0 : Stand p l e ({ frames := 1, cells := 0, slots := 0, locals := 12 } : Room) s m #[(.ref al)] below meth c s₁ [] 0 0 := Stand.of_body Bd
  have e0 : s₁.heap = h0 := by rw [← hh, Bd.state]; rfl
  have N0 := Fr.nil n0
  refine Go.body ?_
  obtain ⟨Pf, hPf⟩ : ∃ P, P = Fin' s below ({ frames := 1, cells := 0, slots := 0, locals := 12 } : Room).cells ({ frames := 1, cells := 0, slots := 0, locals := 12 } : Room).slots (QrmRec Z wD kD vcs al h0 n0) := ⟨_, rfl⟩
  rw [← hPf]
  refine Go.cast (ef_rmRec m) ?_
  have hw19 := (hw _ (List.mem_of_getElem? (i := 19) rfl))
  have hw20 := (hw _ (List.mem_of_getElem? (i := 20) rfl))
  have hw83 := (hw _ (List.mem_of_getElem? (i := 83) rfl))
  show Go p.tables e below Pf (s₁.setTop (mkF m 0 #[vr al] []))
  refine Go.by' (fun t k => (XS.aloadN X0.here hx rfl (hb hby d14_0) rfl rfl k)) ?_
  obtain ⟨T99, X99, e99, st99⟩ := initO X0 hx hZ hown hw83 hw19 hw20 e0 (g := (mkF m 1 #[vr al] [(.ref al)])) rfl (by rw [hml]; rfl) rfl (hb hby d14_1) (by decide) (W := 0) (by show 2 * 0 + _ ≤ _; exact Nat.le_of_eq rfl) (by decide)
  refine Go.by' st99 ?_
  show Go p.tables e below Pf (T99.setTop (mkF m 4 #[vr al] []))
  rw [hPf]
  exact Go.retV' X99 hx hret hlk (hb hby d14_4) (by decide) (by decide) ⟨rfl, rfl, e99⟩
theorem d13_0 : decode prog_46_method_1_code 0 = .ok (.aload_n 0, 1) := by decide +kernel
theorem d13_1 : decode prog_46_method_1_code 1 = .ok (.invokespecial 1, 3) := by decide +kernel
theorem d13_4 : decode prog_46_method_1_code 4 = .ok (.aload_n 0, 1) := by decide +kernel
theorem d13_5 : decode prog_46_method_1_code 5 = .ok (.aload_n 1, 1) := by decide +kernel
theorem d13_6 : decode prog_46_method_1_code 6 = .ok (.putfield 7, 3) := by decide +kernel
theorem d13_9 : decode prog_46_method_1_code 9 = .ok (.aload_n 0, 1) := by decide +kernel
theorem d13_10 : decode prog_46_method_1_code 10 = .ok (.aload_n 2, 1) := by decide +kernel
theorem d13_11 : decode prog_46_method_1_code 11 = .ok (.putfield 13, 3) := by decide +kernel
theorem d13_14 : decode prog_46_method_1_code 14 = .ok (.aload_n 0, 1) := by decide +kernel
theorem d13_15 : decode prog_46_method_1_code 15 = .ok (.iload_n 3, 1) := by decide +kernel
theorem d13_16 : decode prog_46_method_1_code 16 = .ok (.putfield 16, 3) := by decide +kernel
theorem d13_19 : decode prog_46_method_1_code 19 = .ok (.return_, 1) := by decide +kernel
theorem pn_13 : plainName "com/example/slatewipe/slatewipe/vendors/mariadb/Columns$Column" = true := by first | (simp [plainName, overriddenIn]; done) | decide +kernel
set_option maxHeartbeats 4000000 in
theorem ef_rmCol (m : MethodId) {co : Addr} {s1 : Addr} {s2 : Addr} {fz : Int32} : entryFrame m #[(.ref co), (.ref s1), (.ref s2), (.int fz)] 4 = mkF m 0 #[vr co, vr s1, vr s2, vi fz] [] := by first | (simp [entryFrame, mkF, argsToLocals, Value.category]; done) | rfl
def QrmCol (Z : State) (wD : Addr) (kD : ClassId) (vcs : Int32) (co : Addr) (s1 : Addr) (s2 : Addr) (fz : Int32) (h0 : Heap) (n0 : Nat) (v : Option Value) (h : Heap) (L : List Loc) : Prop := (v = none) ∧ (Fr n0 L) ∧ (Keep h0 h [co]) ∧ (Exa Z h co "com/example/slatewipe/slatewipe/vendors/mariadb/Columns$Column") ∧ (Fld Z h co "com/example/slatewipe/slatewipe/vendors/mariadb/Columns$Column" "name" "Ljava/lang/String;" (.ref s1)) ∧ (Fld Z h co "com/example/slatewipe/slatewipe/vendors/mariadb/Columns$Column" "type" "Ljava/lang/String;" (.ref s2))
set_option maxRecDepth 65536 in
set_option maxHeartbeats 40000000 in
theorem rmCol (l : Launch) (Z : State) (a0 : Array Value) (hw : ∀ d ∈ tables_1, d.before a0 Z = true) (ws : List Jvm.Cond) (wD : Addr) (kD : ClassId) (vcs : Int32) (G : Gh Z wD kD vcs) (co : Addr) (s1 : Addr) (s2 : Addr) (fz : Int32) (h0 : Heap) (n0 : Nat) (O0 : Old Z n0 h0) (EX : Exa Z h0 co "com/example/slatewipe/slatewipe/vendors/mariadb/Columns$Column") (F1 : Fld Z h0 co "com/example/slatewipe/slatewipe/vendors/mariadb/Columns$Column" "name" "Ljava/lang/String;" .null) (F2 : Fld Z h0 co "com/example/slatewipe/slatewipe/vendors/mariadb/Columns$Column" "type" "Ljava/lang/String;" .null) (F3 : Fld Z h0 co "com/example/slatewipe/slatewipe/vendors/mariadb/Columns$Column" "nullable" "Z" (.int (0 : Int32))) (g_co : n0 ≤ co) (hz : fz = 0 ∨ fz = 1) :
    MetFree l (⟨"com/example/slatewipe/slatewipe/vendors/mariadb/Columns$Column", "<init>", "(Ljava/lang/String;Ljava/lang/String;Z)V"⟩ : MethodName) (head1 (Jvm.Cond.code (⟨"com/example/slatewipe/slatewipe/vendors/mariadb/Columns$Column", "<init>", "(Ljava/lang/String;Ljava/lang/String;Z)V"⟩ : MethodName) prog_46_method_1_code 4 none :: ws) ({ frames := 2, cells := 0, slots := 0, locals := 24 } : Room)) (fun aa' UU' => aa' = #[(.ref co), (.ref s1), (.ref s2), (.int fz)] ∧ Z.Warmed39 UU'.vm ∧ UU'.heap = h0) (fun _ _ _ _ _ => True) (fun _ UU' oo' VV' => ∃ v' L', oo' = .returned v' ∧ QrmCol Z wD kD vcs co s1 s2 fz h0 n0 v' VV'.heap L' ∧ FrameEnd UU' oo' VV' L' ({ frames := 2, cells := 0, slots := 0, locals := 24 } : Room).cells ({ frames := 2, cells := 0, slots := 0, locals := 24 } : Room).slots) := by
  refine MetFree.of_bodySF (plainFor_of_name pn_13) hisR ?_
  intro p e s m args below meth c s₁ Bd hml0 hP hK
  obtain ⟨rfl, hZ, hh⟩ := hP
  have hx := Bd.exec
  have hby := Bd.bytes
  have hlk := Bd.notSynchronized
  have hml : c.maxLocals = 4 := hml0
  have hown : s.vm.findClass "com/example/slatewipe/slatewipe/vendors/mariadb/Columns$Column" = some m.cls := findClass_of_methodNamed Bd.named
  have hnm := (name_of_methodNamed Bd.named Bd.method).1
  have hret := Bd.returns
  have X0 : Stand p l e ({ frames := 2, cells := 0, slots := 0, locals := 24 } : Room) s m #[(.ref co), (.ref s1), (.ref s2), (.int fz)] below meth c s₁ [] 0 0 := Stand.of_body Bd
  have e0 : s₁.heap = h0 := by rw [← hh, Bd.state]; rfl
  have N0 := Fr.nil n0
  have KC0 : Keep h0 h0 [co] := Keep.refl _ _
  refine Go.body ?_
  obtain ⟨Pf, hPf⟩ : ∃ P, P = Fin' s below ({ frames := 2, cells := 0, slots := 0, locals := 24 } : Room).cells ({ frames := 2, cells := 0, slots := 0, locals := 24 } : Room).slots (QrmCol Z wD kD vcs co s1 s2 fz h0 n0) := ⟨_, rfl⟩
  rw [← hPf]
  refine Go.cast (ef_rmCol m) ?_
  have hw42 := (hw _ (List.mem_of_getElem? (i := 42) rfl))
  have hw78 := (hw _ (List.mem_of_getElem? (i := 78) rfl))
  have hw79 := (hw _ (List.mem_of_getElem? (i := 79) rfl))
  have hw81 := (hw _ (List.mem_of_getElem? (i := 81) rfl))
  have hw82 := (hw _ (List.mem_of_getElem? (i := 82) rfl))
  have hw84 := (hw _ (List.mem_of_getElem? (i := 84) rfl))
  have hw85 := (hw _ (List.mem_of_getElem? (i := 85) rfl))
  have hw86 := (hw _ (List.mem_of_getElem? (i := 86) rfl))
  have hw87 := (hw _ (List.mem_of_getElem? (i := 87) rfl))
  have hw88 := (hw _ (List.mem_of_getElem? (i := 88) rfl))
  have hw89 := (hw _ (List.mem_of_getElem? (i := 89) rfl))
  show Go p.tables e below Pf (s₁.setTop (mkF m 0 #[vr co, vr s1, vr s2, vi fz] []))
  refine Go.by' (fun t k => (XS.aloadN X0.here hx rfl (hb hby d13_0) rfl rfl k)) ?_
  obtain ⟨_, _, ⟨T100, L100, k100, n100⟩, -, X100, ⟨Lc100, hQ100, l100, y100, z100⟩, st100⟩ := X0.specialBack hx (y := (⟨"java/lang/Record", "<init>", "()V"⟩ : MethodName)) rfl hown (mvT hZ hw78) (mvT hZ hw79) (mvT hZ hw82) (by decide) (backOf (W := 0) (rmRec l Z a0 hw [] wD kD vcs G co h0 n0 O0 ) hZ hw82 hw81 (by decide) (by decide)) (g := (mkF m 1 #[vr co, vr s1, vr s2, vi fz] [(.ref co)])) rfl (by rw [hml]; rfl) (Steps.refl _) (a := co) (argsL := []) (rest := []) (lenOf pd_5 rfl) rfl (by show 2 * 0 + _ ≤ _; exact Nat.le_of_eq rfl) (hb hby d13_1) (fun _ _ => ⟨rfl, e0, (by decide : 0 + 0 ≤ _), (by decide : 0 + 0 ≤ _)⟩)
  dsimp only [Pt.U, Pt.locs, Pt.cells, Pt.slots] at X100 l100 y100 z100 st100 hQ100
  subst l100 y100 z100
  obtain ⟨rfl, rfl, e100⟩ := hQ100
  try replace X100 := own_nil X100
  refine Go.by' (fun t k => st100.trans k) ?_
  show Go p.tables e below Pf (T100.setTop (mkF m 4 #[vr co, vr s1, vr s2, vi fz] []))
  refine Go.by' (fun t k => (XS.aloadN X100.here hx rfl (hb hby d13_4) rfl rfl (XS.aloadN X100.here hx rfl (hb hby d13_5) rfl rfl k))) ?_
  obtain ⟨T101, h101, X101, e101, W101, st101⟩ := putF X100 hx hZ hown (host := "") (Or.inl hw84) Via.refl e100 F1 EX (Or.inr ⟨hw85, rfl, hnm⟩) hw42 (ty := (.object "java/lang/String")) (by decide) rfl rfl (g := (mkF m 6 #[vr co, vr s1, vr s2, vi fz] [(.ref s1), (.ref co)])) rfl rfl (hb hby d13_6)
  refine Go.by' st101 ?_
  have Fw101 : Fld Z h101 co "com/example/slatewipe/slatewipe/vendors/mariadb/Columns$Column" "name" "Ljava/lang/String;" (Value.ref s1) := F1.same W101
  have N101 := Fr.snoc X101 N0 g_co
  obtain ⟨lc101, X101, N101⟩ := own_pack X101 N101
  have O101 := O0.wr W101 g_co
  have KC101 : Keep h0 h101 [co] := KC0.wr W101 (Or.inl (List.mem_of_getElem? (i := 0) rfl))
  show Go p.tables e below Pf (T101.setTop (mkF m 9 #[vr co, vr s1, vr s2, vi fz] []))
  refine Go.by' (fun t k => (XS.aloadN X101.here hx rfl (hb hby d13_9) rfl rfl (XS.aloadN X101.here hx rfl (hb hby d13_10) rfl rfl k))) ?_
  obtain ⟨T102, h102, X102, e102, W102, st102⟩ := putF X101 hx hZ hown (host := "") (Or.inl hw86) Via.refl e101 (F2.other W101 (Or.inr (slot_ne (Or.inr hw87) (Or.inr hw85) (by decide) (t := (.object "java/lang/String")) (t' := (.object "java/lang/String")) (by decide) (by decide)))) (EX.wr W101) (Or.inr ⟨hw87, rfl, hnm⟩) hw42 (ty := (.object "java/lang/String")) (by decide) rfl rfl (g := (mkF m 11 #[vr co, vr s1, vr s2, vi fz] [(.ref s2), (.ref co)])) rfl rfl (hb hby d13_11)
  refine Go.by' st102 ?_
  have Fw102 : Fld Z h102 co "com/example/slatewipe/slatewipe/vendors/mariadb/Columns$Column" "type" "Ljava/lang/String;" (Value.ref s2) := (F2.other W101 (Or.inr (slot_ne (Or.inr hw87) (Or.inr hw85) (by decide) (t := (.object "java/lang/String")) (t' := (.object "java/lang/String")) (by decide) (by decide)))).same W102
  have N102 := Fr.snoc X102 N101 g_co
  obtain ⟨lc102, X102, N102⟩ := own_pack X102 N102
  have O102 := O101.wr W102 g_co
  have KC102 : Keep h0 h102 [co] := KC101.wr W102 (Or.inl (List.mem_of_getElem? (i := 0) rfl))
  show Go p.tables e below Pf (T102.setTop (mkF m 14 #[vr co, vr s1, vr s2, vi fz] []))
  refine Go.by' (fun t k => (XS.aloadN X102.here hx rfl (hb hby d13_14) rfl rfl (XS.iloadN X102.here hx rfl (hb hby d13_15) rfl k))) ?_
  have c103 := ((EX.wr W101).wr W102)
  have c104 := ((F3.other W101 (Or.inr (slot_ne (Or.inr hw89) (Or.inr hw85) (by decide) (t := .boolean) (t' := (.object "java/lang/String")) (by decide) (by decide)))).other W102 (Or.inr (slot_ne (Or.inr hw89) (Or.inr hw87) (by decide) (t := .boolean) (t' := (.object "java/lang/String")) (by decide) (by decide))))
  obtain ⟨T105, h105, X105, e105, W105, st105⟩ := putFN X102 hx hZ hown hw88 Via.refl e102 c104 c103 (Or.inr ⟨hw89, rfl, hnm⟩) hw42 (ty := .boolean) (v' := (.int fz)) (by decide) (own_nb hz) (own_fb hz) (g := (mkF m 16 #[vr co, vr s1, vr s2, vi fz] [(.int fz), (.ref co)])) rfl rfl (hb hby d13_16)
  refine Go.by' st105 ?_
  have Fw105 : Fld Z h105 co "com/example/slatewipe/slatewipe/vendors/mariadb/Columns$Column" "nullable" "Z" (Value.int fz) := c104.same W105
  have N105 := Fr.snoc X105 N102 g_co
  obtain ⟨lc105, X105, N105⟩ := own_pack X105 N105
  have O105 := O102.wr W105 g_co
  have KC105 : Keep h0 h105 [co] := KC102.wr W105 (Or.inl (List.mem_of_getElem? (i := 0) rfl))
  have c106 := ((Fw101.other W102 (Or.inr (slot_ne (Or.inr hw85) (Or.inr hw87) (by decide) (t := (.object "java/lang/String")) (t' := (.object "java/lang/String")) (by decide) (by decide)))).other W105 (Or.inr (slot_ne (Or.inr hw85) (Or.inr hw89) (by decide) (t := (.object "java/lang/String")) (t' := .boolean) (by decide) (by decide))))
  show Go p.tables e below Pf (T105.setTop (mkF m 19 #[vr co, vr s1, vr s2, vi fz] []))
  rw [hPf]
  exact Go.retV' X105 hx hret hlk (hb hby d13_19) (by decide) (by decide) ⟨rfl, N105, (by rw [e105]; exact KC105), (by rw [e105]; exact (c103.wr W105)), (by rw [e105]; exact c106), (by rw [e105]; exact (Fw102.other W105 (Or.inr (slot_ne (Or.inr hw87) (Or.inr hw89) (by decide) (t := (.object "java/lang/String")) (t' := .boolean) (by decide) (by decide)))))⟩
theorem d5_0 : decode prog_46_method_2_code 0 = .ok (.aload_n 1, 1) := by decide +kernel
theorem d5_1 : decode prog_46_method_2_code 1 = .ok (.ifnull 18, 3) := by decide +kernel
theorem d5_19 : decode prog_46_method_2_code 19 = .ok (.iconst 0, 1) := by decide +kernel
theorem d5_20 : decode prog_46_method_2_code 20 = .ok (.ireturn, 1) := by decide +kernel
theorem pn_5 : plainName "com/example/slatewipe/slatewipe/vendors/mariadb/Columns$Column" = true := by first | (simp [plainName, overriddenIn]; done) | decide +kernel
set_option maxHeartbeats 4000000 in
theorem ef_rmTn (m : MethodId) {la : Addr} : entryFrame m #[(.ref la), .null] 5 = mkF m 0 #[vr la, .val .null, .unset, .unset, .unset] [] := by first | (simp [entryFrame, mkF, argsToLocals, Value.category]; done) | rfl
def QrmTn (Z : State) (wD : Addr) (kD : ClassId) (vcs : Int32) (la : Addr) (h0 : Heap) (n0 : Nat) (v : Option Value) (h : Heap) (L : List Loc) : Prop := (v = some (.int (0 : Int32))) ∧ (L = []) ∧ (h = h0)
set_option maxRecDepth 65536 in
set_option maxHeartbeats 40000000 in
theorem rmTn (l : Launch) (Z : State) (a0 : Array Value) (hw : ∀ d ∈ tables_1, d.before a0 Z = true) (ws : List Jvm.Cond) (wD : Addr) (kD : ClassId) (vcs : Int32) (G : Gh Z wD kD vcs) (la : Addr) (h0 : Heap) (n0 : Nat) (O0 : Old Z n0 h0) :
    MetFree l (⟨"com/example/slatewipe/slatewipe/vendors/mariadb/Columns$Column", "sameTypes", "(Ljava/util/List;Ljava/util/List;)Z"⟩ : MethodName) (head1 (Jvm.Cond.code (⟨"com/example/slatewipe/slatewipe/vendors/mariadb/Columns$Column", "sameTypes", "(Ljava/util/List;Ljava/util/List;)Z"⟩ : MethodName) prog_46_method_2_code 5 (some .boolean) :: ws) ({ frames := 0, cells := 0, slots := 0, locals := 0 } : Room)) (fun aa' UU' => aa' = #[(.ref la), .null] ∧ Z.Warmed39 UU'.vm ∧ UU'.heap = h0) (fun _ _ _ _ _ => True) (fun _ UU' oo' VV' => ∃ v' L', oo' = .returned v' ∧ QrmTn Z wD kD vcs la h0 n0 v' VV'.heap L' ∧ FrameEnd UU' oo' VV' L' ({ frames := 0, cells := 0, slots := 0, locals := 0 } : Room).cells ({ frames := 0, cells := 0, slots := 0, locals := 0 } : Room).slots) := by
  refine MetFree.of_bodySF (plainFor_of_name pn_5) hisR ?_
  intro p e s m args below meth c s₁ Bd hml0 hP hK
  obtain ⟨rfl, hZ, hh⟩ := hP
  have hx := Bd.exec
  have hby := Bd.bytes
  have hlk := Bd.notSynchronized
  have hml : c.maxLocals = 5 := hml0
  have hown : s.vm.findClass "com/example/slatewipe/slatewipe/vendors/mariadb/Columns$Column" = some m.cls := findClass_of_methodNamed Bd.named
  have hnm := (name_of_methodNamed Bd.named Bd.method).1
  have hret := Bd.returns
  have X0 : Stand p l e ({ frames := 0, cells := 0, slots := 0, locals := 0 } : Room) s m #[(.ref la), .null] below meth c s₁ [] 0 0 := Stand.of_body Bd
  have e0 : s₁.heap = h0 := by rw [← hh, Bd.state]; rfl
  have N0 := Fr.nil n0
  refine Go.body ?_
  obtain ⟨Pf, hPf⟩ : ∃ P, P = Fin' s below ({ frames := 0, cells := 0, slots := 0, locals := 0 } : Room).cells ({ frames := 0, cells := 0, slots := 0, locals := 0 } : Room).slots (QrmTn Z wD kD vcs la h0 n0) := ⟨_, rfl⟩
  rw [← hPf]
  refine Go.cast (ef_rmTn m) ?_
  show Go p.tables e below Pf (s₁.setTop (mkF m 0 #[vr la, .val .null, .unset, .unset, .unset] []))
  refine Go.by' (fun t k => (XS.aloadN X0.here hx rfl (hb hby d5_0) rfl rfl (XS.ifnullYes X0.here hx rfl (pc0 := 1) (pc' := 19) rfl (hb hby d5_1) rfl (by decide) (by decide) (XS.iconst X0.here hx rfl (hb hby d5_19) k)))) ?_
  show Go p.tables e below Pf (s₁.setTop (mkF m 20 #[vr la, .val .null, .unset, .unset, .unset] [(.int (0 : Int32))]))
  rw [hPf]
  exact Go.retI' X0 hx hret hlk (by simp) rfl (hb hby d5_20) (by decide) (by decide) ⟨rfl, rfl, e0⟩
theorem d5_4 : decode prog_46_method_2_code 4 = .ok (.aload_n 1, 1) := by decide +kernel
theorem d5_5 : decode prog_46_method_2_code 5 = .ok (.invokeinterface 20 1, 5) := by decide +kernel
theorem pd_13 : parseMethodDescriptor "()I" = some ⟨[], some .int⟩ := by decide +kernel
theorem d5_10 : decode prog_46_method_2_code 10 = .ok (.aload_n 0, 1) := by decide +kernel
theorem d5_11 : decode prog_46_method_2_code 11 = .ok (.invokeinterface 20 1, 5) := by decide +kernel
theorem d5_16 : decode prog_46_method_2_code 16 = .ok (.if_icmp .eq 5, 3) := by decide +kernel
set_option maxHeartbeats 4000000 in
theorem ef_rmTd (m : MethodId) {la : Addr} {lb : Addr} : entryFrame m #[(.ref la), (.ref lb)] 5 = mkF m 0 #[vr la, vr lb, .unset, .unset, .unset] [] := by first | (simp [entryFrame, mkF, argsToLocals, Value.category]; done) | rfl
def QrmTd (Z : State) (wD : Addr) (kD : ClassId) (vcs : Int32) (la : Addr) (lb : Addr) (za : Int32) (zb : Int32) (h0 : Heap) (n0 : Nat) (v : Option Value) (h : Heap) (L : List Loc) : Prop := (v = some (.int (0 : Int32))) ∧ (L = []) ∧ (h = h0)
set_option maxRecDepth 65536 in
set_option maxHeartbeats 40000000 in
theorem rmTd (l : Launch) (Z : State) (a0 : Array Value) (hw : ∀ d ∈ tables_1, d.before a0 Z = true) (ws : List Jvm.Cond) (wD : Addr) (kD : ClassId) (vcs : Int32) (G : Gh Z wD kD vcs) (la : Addr) (lb : Addr) (za : Int32) (zb : Int32) (h0 : Heap) (n0 : Nat) (O0 : Old Z n0 h0) (EA : Exa Z h0 la "java/util/ArrayList") (EB : Exa Z h0 lb "java/util/ArrayList") (SA : Fld Z h0 la "java/util/ArrayList" "size" "I" (.int za)) (SB : Fld Z h0 lb "java/util/ArrayList" "size" "I" (.int zb)) (hs : ¬ (zb = za)) :
    MetFree l (⟨"com/example/slatewipe/slatewipe/vendors/mariadb/Columns$Column", "sameTypes", "(Ljava/util/List;Ljava/util/List;)Z"⟩ : MethodName) (head1 (Jvm.Cond.code (⟨"com/example/slatewipe/slatewipe/vendors/mariadb/Columns$Column", "sameTypes", "(Ljava/util/List;Ljava/util/List;)Z"⟩ : MethodName) prog_46_method_2_code 5 (some .boolean) :: ws) ({ frames := 1, cells := 0, slots := 0, locals := 13 } : Room)) (fun aa' UU' => aa' = #[(.ref la), (.ref lb)] ∧ Z.Warmed39 UU'.vm ∧ UU'.heap = h0) (fun _ _ _ _ _ => True) (fun _ UU' oo' VV' => ∃ v' L', oo' = .returned v' ∧ QrmTd Z wD kD vcs la lb za zb h0 n0 v' VV'.heap L' ∧ FrameEnd UU' oo' VV' L' ({ frames := 1, cells := 0, slots := 0, locals := 13 } : Room).cells ({ frames := 1, cells := 0, slots := 0, locals := 13 } : Room).slots) := by
  refine MetFree.of_bodySF (plainFor_of_name pn_5) hisR ?_
  intro p e s m args below meth c s₁ Bd hml0 hP hK
  obtain ⟨rfl, hZ, hh⟩ := hP
  have hx := Bd.exec
  have hby := Bd.bytes
  have hlk := Bd.notSynchronized
  have hml : c.maxLocals = 5 := hml0
  have hown : s.vm.findClass "com/example/slatewipe/slatewipe/vendors/mariadb/Columns$Column" = some m.cls := findClass_of_methodNamed Bd.named
  have hnm := (name_of_methodNamed Bd.named Bd.method).1
  have hret := Bd.returns
  have X0 : Stand p l e ({ frames := 1, cells := 0, slots := 0, locals := 13 } : Room) s m #[(.ref la), (.ref lb)] below meth c s₁ [] 0 0 := Stand.of_body Bd
  have e0 : s₁.heap = h0 := by rw [← hh, Bd.state]; rfl
  have N0 := Fr.nil n0
  refine Go.body ?_
  obtain ⟨Pf, hPf⟩ : ∃ P, P = Fin' s below ({ frames := 1, cells := 0, slots := 0, locals := 13 } : Room).cells ({ frames := 1, cells := 0, slots := 0, locals := 13 } : Room).slots (QrmTd Z wD kD vcs la lb za zb h0 n0) := ⟨_, rfl⟩
  rw [← hPf]
  refine Go.cast (ef_rmTd m) ?_
  have hw2 := (hw _ (List.mem_of_getElem? (i := 2) rfl))
  have hw30 := (hw _ (List.mem_of_getElem? (i := 30) rfl))
  have hw31 := (hw _ (List.mem_of_getElem? (i := 31) rfl))
  have hw32 := (hw _ (List.mem_of_getElem? (i := 32) rfl))
  have hw33 := (hw _ (List.mem_of_getElem? (i := 33) rfl))
  have hw34 := (hw _ (List.mem_of_getElem? (i := 34) rfl))
  have hw35 := (hw _ (List.mem_of_getElem? (i := 35) rfl))
  have hw36 := (hw _ (List.mem_of_getElem? (i := 36) rfl))
  have hw37 := (hw _ (List.mem_of_getElem? (i := 37) rfl))
  have hw38 := (hw _ (List.mem_of_getElem? (i := 38) rfl))
  show Go p.tables e below Pf (s₁.setTop (mkF m 0 #[vr la, vr lb, .unset, .unset, .unset] []))
  refine Go.by' (fun t k => (XS.aloadN X0.here hx rfl (hb hby d5_0) rfl rfl (XS.ifnullNo X0.here hx rfl (hb hby d5_1) rfl (XS.aloadN X0.here hx rfl (hb hby d5_4) rfl rfl k)))) ?_
  obtain ⟨cq107, kq107, q107a, q107b, q107c⟩ := isOf hZ e0 EB
  obtain ⟨_, _, ⟨T107, L107, k107, n107⟩, -, X107, ⟨Lc107, hQ107, l107, y107, z107⟩, st107⟩ := X0.interfaceBack hx (xi := (⟨"java/util/List", "size", "()I"⟩ : MethodName)) (y := (⟨"java/util/ArrayList", "size", "()I"⟩ : MethodName)) hown (mvT hZ hw30) (mvT hZ hw31) (mvT hZ hw32) (mvT hZ hw33) (mvT hZ hw34) (mvT hZ hw35) (mvT hZ hw36) (mvT hZ hw37) (by decide) (backOf (W := 0) (rmSize l Z a0 hw [] wD kD vcs G lb zb h0 n0 O0 SB) hZ hw38 hw2 (by decide) (by decide)) q107a q107b q107c (g := (mkF m 5 #[vr la, vr lb, .unset, .unset, .unset] [(.ref lb)])) rfl (by rw [hml]; rfl) (Steps.refl _) (argsL := []) (rest := []) (lenOf pd_13 rfl) rfl (by show 2 * 0 + _ ≤ _; exact Nat.le_of_eq rfl) (hb hby d5_5) (fun _ _ => ⟨rfl, e0, (by decide : 0 + 0 ≤ _), (by decide : 0 + 0 ≤ _)⟩)
  dsimp only [Pt.U, Pt.locs, Pt.cells, Pt.slots] at X107 l107 y107 z107 st107 hQ107
  subst l107 y107 z107
  obtain ⟨rfl, rfl, e107⟩ := hQ107
  try replace X107 := own_nil X107
  refine Go.by' (fun t k => st107.trans k) ?_
  show Go p.tables e below Pf (T107.setTop (mkF m 10 #[vr la, vr lb, .unset, .unset, .unset] [(.int zb)]))
  refine Go.by' (fun t k => (XS.aloadN X107.here hx rfl (hb hby d5_10) rfl rfl k)) ?_
  obtain ⟨cq108, kq108, q108a, q108b, q108c⟩ := isOf hZ e107 EA
  obtain ⟨_, _, ⟨T108, L108, k108, n108⟩, -, X108, ⟨Lc108, hQ108, l108, y108, z108⟩, st108⟩ := X107.interfaceBack hx (xi := (⟨"java/util/List", "size", "()I"⟩ : MethodName)) (y := (⟨"java/util/ArrayList", "size", "()I"⟩ : MethodName)) hown (mvT hZ hw30) (mvT hZ hw31) (mvT hZ hw32) (mvT hZ hw33) (mvT hZ hw34) (mvT hZ hw35) (mvT hZ hw36) (mvT hZ hw37) (by decide) (backOf (W := 1) (rmSize l Z a0 hw [] wD kD vcs G la za h0 n0 O0 SA) hZ hw38 hw2 (by decide) (by decide)) q108a q108b q108c (g := (mkF m 11 #[vr la, vr lb, .unset, .unset, .unset] [(.ref la), (.int zb)])) rfl (by rw [hml]; rfl) (Steps.refl _) (argsL := []) (rest := [(.int zb)]) (lenOf pd_13 rfl) rfl (by show 2 * 0 + _ ≤ _; exact Nat.le_of_eq rfl) (hb hby d5_11) (fun _ _ => ⟨rfl, e107, (by decide : 0 + 0 ≤ _), (by decide : 0 + 0 ≤ _)⟩)
  dsimp only [Pt.U, Pt.locs, Pt.cells, Pt.slots] at X108 l108 y108 z108 st108 hQ108
  subst l108 y108 z108
  obtain ⟨rfl, rfl, e108⟩ := hQ108
  try replace X108 := own_nil X108
  refine Go.by' (fun t k => st108.trans k) ?_
  show Go p.tables e below Pf (T108.setTop (mkF m 16 #[vr la, vr lb, .unset, .unset, .unset] [(.int za), (.int zb)]))
  refine Go.by' (fun t k => (XS.icmpNo X108.here hx rfl (hb hby d5_16) rfl (feq hs).1 (XS.iconst X108.here hx rfl (hb hby d5_19) k))) ?_
  show Go p.tables e below Pf (T108.setTop (mkF m 20 #[vr la, vr lb, .unset, .unset, .unset] [(.int (0 : Int32))]))
  rw [hPf]
  exact Go.retI' X108 hx hret hlk (by simp) rfl (hb hby d5_20) (by decide) (by decide) ⟨rfl, rfl, e108⟩
theorem d5_21 : decode prog_46_method_2_code 21 = .ok (.iconst 0, 1) := by decide +kernel
theorem d5_22 : decode prog_46_method_2_code 22 = .ok (.istore_n 2, 1) := by decide +kernel
theorem d5_23 : decode prog_46_method_2_code 23 = .ok (.iload_n 2, 1) := by decide +kernel
theorem d5_24 : decode prog_46_method_2_code 24 = .ok (.aload_n 0, 1) := by decide +kernel
theorem d5_25 : decode prog_46_method_2_code 25 = .ok (.invokeinterface 20 1, 5) := by decide +kernel
theorem d5_30 : decode prog_46_method_2_code 30 = .ok (.if_icmp .ge 64, 3) := by decide +kernel
theorem d5_94 : decode prog_46_method_2_code 94 = .ok (.iconst 1, 1) := by decide +kernel
theorem d5_95 : decode prog_46_method_2_code 95 = .ok (.ireturn, 1) := by decide +kernel
set_option maxHeartbeats 4000000 in
theorem ef_rmT0 (m : MethodId) {la : Addr} {lb : Addr} : entryFrame m #[(.ref la), (.ref lb)] 5 = mkF m 0 #[vr la, vr lb, .unset, .unset, .unset] [] := by first | (simp [entryFrame, mkF, argsToLocals, Value.category]; done) | rfl
def QrmT0 (Z : State) (wD : Addr) (kD : ClassId) (vcs : Int32) (la : Addr) (lb : Addr) (h0 : Heap) (n0 : Nat) (v : Option Value) (h : Heap) (L : List Loc) : Prop := (v = some (.int (1 : Int32))) ∧ (L = []) ∧ (h = h0)
set_option maxRecDepth 65536 in
set_option maxHeartbeats 40000000 in
theorem rmT0 (l : Launch) (Z : State) (a0 : Array Value) (hw : ∀ d ∈ tables_1, d.before a0 Z = true) (ws : List Jvm.Cond) (wD : Addr) (kD : ClassId) (vcs : Int32) (G : Gh Z wD kD vcs) (la : Addr) (lb : Addr) (h0 : Heap) (n0 : Nat) (O0 : Old Z n0 h0) (EA : Exa Z h0 la "java/util/ArrayList") (EB : Exa Z h0 lb "java/util/ArrayList") (SA : Fld Z h0 la "java/util/ArrayList" "size" "I" (.int (0 : Int32))) (SB : Fld Z h0 lb "java/util/ArrayList" "size" "I" (.int (0 : Int32))) :
    MetFree l (⟨"com/example/slatewipe/slatewipe/vendors/mariadb/Columns$Column", "sameTypes", "(Ljava/util/List;Ljava/util/List;)Z"⟩ : MethodName) (head1 (Jvm.Cond.code (⟨"com/example/slatewipe/slatewipe/vendors/mariadb/Columns$Column", "sameTypes", "(Ljava/util/List;Ljava/util/List;)Z"⟩ : MethodName) prog_46_method_2_code 5 (some .boolean) :: ws) ({ frames := 1, cells := 0, slots := 0, locals := 13 } : Room)) (fun aa' UU' => aa' = #[(.ref la), (.ref lb)] ∧ Z.Warmed39 UU'.vm ∧ UU'.heap = h0) (fun _ _ _ _ _ => True) (fun _ UU' oo' VV' => ∃ v' L', oo' = .returned v' ∧ QrmT0 Z wD kD vcs la lb h0 n0 v' VV'.heap L' ∧ FrameEnd UU' oo' VV' L' ({ frames := 1, cells := 0, slots := 0, locals := 13 } : Room).cells ({ frames := 1, cells := 0, slots := 0, locals := 13 } : Room).slots) := by
  refine MetFree.of_bodySF (plainFor_of_name pn_5) hisR ?_
  intro p e s m args below meth c s₁ Bd hml0 hP hK
  obtain ⟨rfl, hZ, hh⟩ := hP
  have hx := Bd.exec
  have hby := Bd.bytes
  have hlk := Bd.notSynchronized
  have hml : c.maxLocals = 5 := hml0
  have hown : s.vm.findClass "com/example/slatewipe/slatewipe/vendors/mariadb/Columns$Column" = some m.cls := findClass_of_methodNamed Bd.named
  have hnm := (name_of_methodNamed Bd.named Bd.method).1
  have hret := Bd.returns
  have X0 : Stand p l e ({ frames := 1, cells := 0, slots := 0, locals := 13 } : Room) s m #[(.ref la), (.ref lb)] below meth c s₁ [] 0 0 := Stand.of_body Bd
  have e0 : s₁.heap = h0 := by rw [← hh, Bd.state]; rfl
  have N0 := Fr.nil n0
  refine Go.body ?_
  obtain ⟨Pf, hPf⟩ : ∃ P, P = Fin' s below ({ frames := 1, cells := 0, slots := 0, locals := 13 } : Room).cells ({ frames := 1, cells := 0, slots := 0, locals := 13 } : Room).slots (QrmT0 Z wD kD vcs la lb h0 n0) := ⟨_, rfl⟩
  rw [← hPf]
  refine Go.cast (ef_rmT0 m) ?_
  have hw2 := (hw _ (List.mem_of_getElem? (i := 2) rfl))
  have hw30 := (hw _ (List.mem_of_getElem? (i := 30) rfl))
  have hw31 := (hw _ (List.mem_of_getElem? (i := 31) rfl))
  have hw32 := (hw _ (List.mem_of_getElem? (i := 32) rfl))
  have hw33 := (hw _ (List.mem_of_getElem? (i := 33) rfl))
  have hw34 := (hw _ (List.mem_of_getElem? (i := 34) rfl))
  have hw35 := (hw _ (List.mem_of_getElem? (i := 35) rfl))
  have hw36 := (hw _ (List.mem_of_getElem? (i := 36) rfl))
  have hw37 := (hw _ (List.mem_of_getElem? (i := 37) rfl))
  have hw38 := (hw _ (List.mem_of_getElem? (i := 38) rfl))
  show Go p.tables e below Pf (s₁.setTop (mkF m 0 #[vr la, vr lb, .unset, .unset, .unset] []))
  refine Go.by' (fun t k => (XS.aloadN X0.here hx rfl (hb hby d5_0) rfl rfl (XS.ifnullNo X0.here hx rfl (hb hby d5_1) rfl (XS.aloadN X0.here hx rfl (hb hby d5_4) rfl rfl k)))) ?_
  obtain ⟨cq109, kq109, q109a, q109b, q109c⟩ := isOf hZ e0 EB
  obtain ⟨_, _, ⟨T109, L109, k109, n109⟩, -, X109, ⟨Lc109, hQ109, l109, y109, z109⟩, st109⟩ := X0.interfaceBack hx (xi := (⟨"java/util/List", "size", "()I"⟩ : MethodName)) (y := (⟨"java/util/ArrayList", "size", "()I"⟩ : MethodName)) hown (mvT hZ hw30) (mvT hZ hw31) (mvT hZ hw32) (mvT hZ hw33) (mvT hZ hw34) (mvT hZ hw35) (mvT hZ hw36) (mvT hZ hw37) (by decide) (backOf (W := 0) (rmSize l Z a0 hw [] wD kD vcs G lb ((0 : Int32)) h0 n0 O0 SB) hZ hw38 hw2 (by decide) (by decide)) q109a q109b q109c (g := (mkF m 5 #[vr la, vr lb, .unset, .unset, .unset] [(.ref lb)])) rfl (by rw [hml]; rfl) (Steps.refl _) (argsL := []) (rest := []) (lenOf pd_13 rfl) rfl (by show 2 * 0 + _ ≤ _; exact Nat.le_of_eq rfl) (hb hby d5_5) (fun _ _ => ⟨rfl, e0, (by decide : 0 + 0 ≤ _), (by decide : 0 + 0 ≤ _)⟩)
  dsimp only [Pt.U, Pt.locs, Pt.cells, Pt.slots] at X109 l109 y109 z109 st109 hQ109
  subst l109 y109 z109
  obtain ⟨rfl, rfl, e109⟩ := hQ109
  try replace X109 := own_nil X109
  refine Go.by' (fun t k => st109.trans k) ?_
  show Go p.tables e below Pf (T109.setTop (mkF m 10 #[vr la, vr lb, .unset, .unset, .unset] [(.int (0 : Int32))]))
  refine Go.by' (fun t k => (XS.aloadN X109.here hx rfl (hb hby d5_10) rfl rfl k)) ?_
  obtain ⟨cq110, kq110, q110a, q110b, q110c⟩ := isOf hZ e109 EA
  obtain ⟨_, _, ⟨T110, L110, k110, n110⟩, -, X110, ⟨Lc110, hQ110, l110, y110, z110⟩, st110⟩ := X109.interfaceBack hx (xi := (⟨"java/util/List", "size", "()I"⟩ : MethodName)) (y := (⟨"java/util/ArrayList", "size", "()I"⟩ : MethodName)) hown (mvT hZ hw30) (mvT hZ hw31) (mvT hZ hw32) (mvT hZ hw33) (mvT hZ hw34) (mvT hZ hw35) (mvT hZ hw36) (mvT hZ hw37) (by decide) (backOf (W := 1) (rmSize l Z a0 hw [] wD kD vcs G la ((0 : Int32)) h0 n0 O0 SA) hZ hw38 hw2 (by decide) (by decide)) q110a q110b q110c (g := (mkF m 11 #[vr la, vr lb, .unset, .unset, .unset] [(.ref la), (.int (0 : Int32))])) rfl (by rw [hml]; rfl) (Steps.refl _) (argsL := []) (rest := [(.int (0 : Int32))]) (lenOf pd_13 rfl) rfl (by show 2 * 0 + _ ≤ _; exact Nat.le_of_eq rfl) (hb hby d5_11) (fun _ _ => ⟨rfl, e109, (by decide : 0 + 0 ≤ _), (by decide : 0 + 0 ≤ _)⟩)
  dsimp only [Pt.U, Pt.locs, Pt.cells, Pt.slots] at X110 l110 y110 z110 st110 hQ110
  subst l110 y110 z110
  obtain ⟨rfl, rfl, e110⟩ := hQ110
  try replace X110 := own_nil X110
  refine Go.by' (fun t k => st110.trans k) ?_
  show Go p.tables e below Pf (T110.setTop (mkF m 16 #[vr la, vr lb, .unset, .unset, .unset] [(.int (0 : Int32)), (.int (0 : Int32))]))
  refine Go.by' (fun t k => (XS.icmpYes X110.here hx rfl (pc0 := 16) (pc' := 21) rfl (hb hby d5_16) rfl (teq (by decide)).1 (by decide) (by decide) (XS.iconst X110.here hx rfl (hb hby d5_21) (XS.istoreN X110.here hx rfl (hb hby d5_22) rfl (l' := #[vr la, vr lb, vi (0 : Int32), .unset, .unset]) rfl (XS.iloadN X110.here hx rfl (hb hby d5_23) rfl (XS.aloadN X110.here hx rfl (hb hby d5_24) rfl rfl k)))))) ?_
  obtain ⟨cq111, kq111, q111a, q111b, q111c⟩ := isOf hZ e110 EA
  obtain ⟨_, _, ⟨T111, L111, k111, n111⟩, -, X111, ⟨Lc111, hQ111, l111, y111, z111⟩, st111⟩ := X110.interfaceBack hx (xi := (⟨"java/util/List", "size", "()I"⟩ : MethodName)) (y := (⟨"java/util/ArrayList", "size", "()I"⟩ : MethodName)) hown (mvT hZ hw30) (mvT hZ hw31) (mvT hZ hw32) (mvT hZ hw33) (mvT hZ hw34) (mvT hZ hw35) (mvT hZ hw36) (mvT hZ hw37) (by decide) (backOf (W := 1) (rmSize l Z a0 hw [] wD kD vcs G la ((0 : Int32)) h0 n0 O0 SA) hZ hw38 hw2 (by decide) (by decide)) q111a q111b q111c (g := (mkF m 25 #[vr la, vr lb, vi (0 : Int32), .unset, .unset] [(.ref la), (.int (0 : Int32))])) rfl (by rw [hml]; rfl) (Steps.refl _) (argsL := []) (rest := [(.int (0 : Int32))]) (lenOf pd_13 rfl) rfl (by show 2 * 0 + _ ≤ _; exact Nat.le_of_eq rfl) (hb hby d5_25) (fun _ _ => ⟨rfl, e110, (by decide : 0 + 0 ≤ _), (by decide : 0 + 0 ≤ _)⟩)
  dsimp only [Pt.U, Pt.locs, Pt.cells, Pt.slots] at X111 l111 y111 z111 st111 hQ111
  subst l111 y111 z111
  obtain ⟨rfl, rfl, e111⟩ := hQ111
  try replace X111 := own_nil X111
  refine Go.by' (fun t k => st111.trans k) ?_
  show Go p.tables e below Pf (T111.setTop (mkF m 30 #[vr la, vr lb, vi (0 : Int32), .unset, .unset] [(.int (0 : Int32)), (.int (0 : Int32))]))
  refine Go.by' (fun t k => (XS.icmpYes X111.here hx rfl (pc0 := 30) (pc' := 94) rfl (hb hby d5_30) rfl (flt (by decide)).2.1 (by decide) (by decide) (XS.iconst X111.here hx rfl (hb hby d5_94) k))) ?_
  show Go p.tables e below Pf (T111.setTop (mkF m 95 #[vr la, vr lb, vi (0 : Int32), .unset, .unset] [(.int (1 : Int32))]))
  rw [hPf]
  exact Go.retI' X111 hx hret hlk (by simp) rfl (hb hby d5_95) (by decide) (by decide) ⟨rfl, rfl, e111⟩
theorem d5_33 : decode prog_46_method_2_code 33 = .ok (.aload_n 0, 1) := by decide +kernel
theorem d5_34 : decode prog_46_method_2_code 34 = .ok (.iload_n 2, 1) := by decide +kernel
theorem d5_35 : decode prog_46_method_2_code 35 = .ok (.invokeinterface 26 2, 5) := by decide +kernel
theorem d5_40 : decode prog_46_method_2_code 40 = .ok (.checkcast 8, 3) := by decide +kernel
theorem d5_43 : decode prog_46_method_2_code 43 = .ok (.astore_n 3, 1) := by decide +kernel
theorem d5_44 : decode prog_46_method_2_code 44 = .ok (.aload_n 1, 1) := by decide +kernel
theorem d5_45 : decode prog_46_method_2_code 45 = .ok (.iload_n 2, 1) := by decide +kernel
theorem d5_46 : decode prog_46_method_2_code 46 = .ok (.invokeinterface 26 2, 5) := by decide +kernel
theorem d5_51 : decode prog_46_method_2_code 51 = .ok (.checkcast 8, 3) := by decide +kernel
theorem d5_54 : decode prog_46_method_2_code 54 = .ok (.astore 4, 2) := by decide +kernel
theorem d5_56 : decode prog_46_method_2_code 56 = .ok (.aload_n 3, 1) := by decide +kernel
theorem d5_57 : decode prog_46_method_2_code 57 = .ok (.getfield 7, 3) := by decide +kernel
theorem d5_60 : decode prog_46_method_2_code 60 = .ok (.aload 4, 2) := by decide +kernel
theorem d5_62 : decode prog_46_method_2_code 62 = .ok (.getfield 7, 3) := by decide +kernel
theorem d5_65 : decode prog_46_method_2_code 65 = .ok (.invokevirtual 30, 3) := by decide +kernel
theorem pd_14 : parseMethodDescriptor "(Ljava/lang/Object;)Z" = some ⟨[(.object "java/lang/Object")], some .boolean⟩ := by decide +kernel
theorem d5_68 : decode prog_46_method_2_code 68 = .ok (.ifCond .eq 18, 3) := by decide +kernel
theorem d5_71 : decode prog_46_method_2_code 71 = .ok (.aload_n 3, 1) := by decide +kernel
theorem d5_72 : decode prog_46_method_2_code 72 = .ok (.getfield 13, 3) := by decide +kernel
theorem d5_75 : decode prog_46_method_2_code 75 = .ok (.aload 4, 2) := by decide +kernel
theorem d5_77 : decode prog_46_method_2_code 77 = .ok (.getfield 13, 3) := by decide +kernel
theorem d5_80 : decode prog_46_method_2_code 80 = .ok (.invokevirtual 30, 3) := by decide +kernel
theorem d5_83 : decode prog_46_method_2_code 83 = .ok (.ifCond .ne 5, 3) := by decide +kernel
theorem d5_88 : decode prog_46_method_2_code 88 = .ok (.iinc 2 1, 3) := by decide +kernel
theorem d5_91 : decode prog_46_method_2_code 91 = .ok (.goto (-68), 3) := by decide +kernel
theorem d5_86 : decode prog_46_method_2_code 86 = .ok (.iconst 0, 1) := by decide +kernel
theorem d5_87 : decode prog_46_method_2_code 87 = .ok (.ireturn, 1) := by decide +kernel
set_option maxHeartbeats 4000000 in
theorem ef_rmT1 (m : MethodId) {la : Addr} {lb : Addr} : entryFrame m #[(.ref la), (.ref lb)] 5 = mkF m 0 #[vr la, vr lb, .unset, .unset, .unset] [] := by first | (simp [entryFrame, mkF, argsToLocals, Value.category]; done) | rfl
def QrmT1 (Z : State) (wD : Addr) (kD : ClassId) (vcs : Int32) (la : Addr) (lb : Addr) (ra : Addr) (ka : ClassId) (rb : Addr) (kb : ClassId) (ap0 : Addr) (an0 : Addr) (an0v : Addr) (an0k : ClassId) (an0x : Int32) (at0 : Addr) (at0v : Addr) (at0k : ClassId) (at0x : Int32) (bp0 : Addr) (bn0 : Addr) (bn0v : Addr) (bn0k : ClassId) (bn0x : Int32) (bt0 : Addr) (bt0v : Addr) (bt0k : ClassId) (bt0x : Int32) (h0 : Heap) (n0 : Nat) (v : Option Value) (h : Heap) (L : List Loc) : Prop := ∃ (r : Int32), (v = some (.int r)) ∧ (L = []) ∧ (h = h0) ∧ ((an0x = bn0x ∧ at0x = bt0x ∧ r = (1 : Int32)) ∨ (¬ (an0x = bn0x ∧ at0x = bt0x) ∧ r = (0 : Int32)))
set_option maxRecDepth 65536 in
set_option maxHeartbeats 40000000 in
theorem rmT1 (l : Launch) (Z : State) (a0 : Array Value) (hw : ∀ d ∈ tables_1, d.before a0 Z = true) (ws : List Jvm.Cond) (wD : Addr) (kD : ClassId) (vcs : Int32) (G : Gh Z wD kD vcs) (la : Addr) (lb : Addr) (ra : Addr) (ka : ClassId) (rb : Addr) (kb : ClassId) (ap0 : Addr) (an0 : Addr) (an0v : Addr) (an0k : ClassId) (an0x : Int32) (at0 : Addr) (at0v : Addr) (at0k : ClassId) (at0x : Int32) (bp0 : Addr) (bn0 : Addr) (bn0v : Addr) (bn0k : ClassId) (bn0x : Int32) (bt0 : Addr) (bt0v : Addr) (bt0k : ClassId) (bt0x : Int32) (h0 : Heap) (n0 : Nat) (O0 : Old Z n0 h0) (EA : Exa Z h0 la "java/util/ArrayList") (EB : Exa Z h0 lb "java/util/ArrayList") (SA : Fld Z h0 la "java/util/ArrayList" "size" "I" (.int (1 : Int32))) (SB : Fld Z h0 lb "java/util/ArrayList" "size" "I" (.int (1 : Int32))) (EaD : Fld Z h0 la "java/util/ArrayList" "elementData" "[Ljava/lang/Object;" (.ref ra)) (Va : Arv Z h0 ra ka (.object "java/lang/Object") (10 : Int32) [(.ref ap0), .null, .null, .null, .null, .null, .null, .null, .null, .null] Value.null) (EbD : Fld Z h0 lb "java/util/ArrayList" "elementData" "[Ljava/lang/Object;" (.ref rb)) (Vb : Arv Z h0 rb kb (.object "java/lang/Object") (10 : Int32) [(.ref bp0), .null, .null, .null, .null, .null, .null, .null, .null, .null] Value.null) (Xa0 : Exa Z h0 ap0 "com/example/slatewipe/slatewipe/vendors/mariadb/Columns$Column") (Fan0 : Fld Z h0 ap0 "com/example/slatewipe/slatewipe/vendors/mariadb/Columns$Column" "name" "Ljava/lang/String;" (.ref an0)) (Xan0 : Exa Z h0 an0 "java/lang/String") (Van0 : Fld Z h0 an0 "java/lang/String" "value" "[B" (.ref an0v)) (Can0 : Fld Z h0 an0 "java/lang/String" "coder" "B" (.int (0 : Int32))) (Ban0 : Arv Z h0 an0v an0k .byte (1 : Int32) [(.int an0x)] (.int (0 : Int32))) (Fat0 : Fld Z h0 ap0 "com/example/slatewipe/slatewipe/vendors/mariadb/Columns$Column" "type" "Ljava/lang/String;" (.ref at0)) (Xat0 : Exa Z h0 at0 "java/lang/String") (Vat0 : Fld Z h0 at0 "java/lang/String" "value" "[B" (.ref at0v)) (Cat0 : Fld Z h0 at0 "java/lang/String" "coder" "B" (.int (0 : Int32))) (Bat0 : Arv Z h0 at0v at0k .byte (1 : Int32) [(.int at0x)] (.int (0 : Int32))) (Xb0 : Exa Z h0 bp0 "com/example/slatewipe/slatewipe/vendors/mariadb/Columns$Column") (Fbn0 : Fld Z h0 bp0 "com/example/slatewipe/slatewipe/vendors/mariadb/Columns$Column" "name" "Ljava/lang/String;" (.ref bn0)) (Xbn0 : Exa Z h0 bn0 "java/lang/String") (Vbn0 : Fld Z h0 bn0 "java/lang/String" "value" "[B" (.ref bn0v)) (Cbn0 : Fld Z h0 bn0 "java/lang/String" "coder" "B" (.int (0 : Int32))) (Bbn0 : Arv Z h0 bn0v bn0k .byte (1 : Int32) [(.int bn0x)] (.int (0 : Int32))) (Fbt0 : Fld Z h0 bp0 "com/example/slatewipe/slatewipe/vendors/mariadb/Columns$Column" "type" "Ljava/lang/String;" (.ref bt0)) (Xbt0 : Exa Z h0 bt0 "java/lang/String") (Vbt0 : Fld Z h0 bt0 "java/lang/String" "value" "[B" (.ref bt0v)) (Cbt0 : Fld Z h0 bt0 "java/lang/String" "coder" "B" (.int (0 : Int32))) (Bbt0 : Arv Z h0 bt0v bt0k .byte (1 : Int32) [(.int bt0x)] (.int (0 : Int32))) (hn0 : an0 ≠ bn0) (ht0 : at0 ≠ bt0) :
    MetFree l (⟨"com/example/slatewipe/slatewipe/vendors/mariadb/Columns$Column", "sameTypes", "(Ljava/util/List;Ljava/util/List;)Z"⟩ : MethodName) (head1 (Jvm.Cond.code (⟨"com/example/slatewipe/slatewipe/vendors/mariadb/Columns$Column", "sameTypes", "(Ljava/util/List;Ljava/util/List;)Z"⟩ : MethodName) prog_46_method_2_code 5 (some .boolean) :: ws) ({ frames := 3, cells := 0, slots := 0, locals := 40 } : Room)) (fun aa' UU' => aa' = #[(.ref la), (.ref lb)] ∧ Z.Warmed39 UU'.vm ∧ UU'.heap = h0) (fun _ _ _ _ _ => True) (fun _ UU' oo' VV' => ∃ v' L', oo' = .returned v' ∧ QrmT1 Z wD kD vcs la lb ra ka rb kb ap0 an0 an0v an0k an0x at0 at0v at0k at0x bp0 bn0 bn0v bn0k bn0x bt0 bt0v bt0k bt0x h0 n0 v' VV'.heap L' ∧ FrameEnd UU' oo' VV' L' ({ frames := 3, cells := 0, slots := 0, locals := 40 } : Room).cells ({ frames := 3, cells := 0, slots := 0, locals := 40 } : Room).slots) := by
  refine MetFree.of_bodySF (plainFor_of_name pn_5) hisR ?_
  intro p e s m args below meth c s₁ Bd hml0 hP hK
  obtain ⟨rfl, hZ, hh⟩ := hP
  have hx := Bd.exec
  have hby := Bd.bytes
  have hlk := Bd.notSynchronized
  have hml : c.maxLocals = 5 := hml0
  have hown : s.vm.findClass "com/example/slatewipe/slatewipe/vendors/mariadb/Columns$Column" = some m.cls := findClass_of_methodNamed Bd.named
  have hnm := (name_of_methodNamed Bd.named Bd.method).1
  have hret := Bd.returns
  have X0 : Stand p l e ({ frames := 3, cells := 0, slots := 0, locals := 40 } : Room) s m #[(.ref la), (.ref lb)] below meth c s₁ [] 0 0 := Stand.of_body Bd
  have e0 : s₁.heap = h0 := by rw [← hh, Bd.state]; rfl
  have N0 := Fr.nil n0
  refine Go.body ?_
  obtain ⟨Pf, hPf⟩ : ∃ P, P = Fin' s below ({ frames := 3, cells := 0, slots := 0, locals := 40 } : Room).cells ({ frames := 3, cells := 0, slots := 0, locals := 40 } : Room).slots (QrmT1 Z wD kD vcs la lb ra ka rb kb ap0 an0 an0v an0k an0x at0 at0v at0k at0x bp0 bn0 bn0v bn0k bn0x bt0 bt0v bt0k bt0x h0 n0) := ⟨_, rfl⟩
  rw [← hPf]
  refine Go.cast (ef_rmT1 m) ?_
  have hw2 := (hw _ (List.mem_of_getElem? (i := 2) rfl))
  have hw30 := (hw _ (List.mem_of_getElem? (i := 30) rfl))
  have hw31 := (hw _ (List.mem_of_getElem? (i := 31) rfl))
  have hw32 := (hw _ (List.mem_of_getElem? (i := 32) rfl))
  have hw33 := (hw _ (List.mem_of_getElem? (i := 33) rfl))
  have hw34 := (hw _ (List.mem_of_getElem? (i := 34) rfl))
  have hw35 := (hw _ (List.mem_of_getElem? (i := 35) rfl))
  have hw36 := (hw _ (List.mem_of_getElem? (i := 36) rfl))
  have hw37 := (hw _ (List.mem_of_getElem? (i := 37) rfl))
  have hw38 := (hw _ (List.mem_of_getElem? (i := 38) rfl))
  have hw49 := (hw _ (List.mem_of_getElem? (i := 49) rfl))
  have hw84 := (hw _ (List.mem_of_getElem? (i := 84) rfl))
  have hw86 := (hw _ (List.mem_of_getElem? (i := 86) rfl))
  have hw122 := (hw _ (List.mem_of_getElem? (i := 122) rfl))
  have hw123 := (hw _ (List.mem_of_getElem? (i := 123) rfl))
  have hw124 := (hw _ (List.mem_of_getElem? (i := 124) rfl))
  have hw125 := (hw _ (List.mem_of_getElem? (i := 125) rfl))
  have hw126 := (hw _ (List.mem_of_getElem? (i := 126) rfl))
  have hw127 := (hw _ (List.mem_of_getElem? (i := 127) rfl))
  have hw128 := (hw _ (List.mem_of_getElem? (i := 128) rfl))
  have hw129 := (hw _ (List.mem_of_getElem? (i := 129) rfl))
  have hw143 := (hw _ (List.mem_of_getElem? (i := 143) rfl))
  have hw145 := (hw _ (List.mem_of_getElem? (i := 145) rfl))
  have hw146 := (hw _ (List.mem_of_getElem? (i := 146) rfl))
  have hw147 := (hw _ (List.mem_of_getElem? (i := 147) rfl))
  have hw148 := (hw _ (List.mem_of_getElem? (i := 148) rfl))
  have hw149 := (hw _ (List.mem_of_getElem? (i := 149) rfl))
  show Go p.tables e below Pf (s₁.setTop (mkF m 0 #[vr la, vr lb, .unset, .unset, .unset] []))
  refine Go.by' (fun t k => (XS.aloadN X0.here hx rfl (hb hby d5_0) rfl rfl (XS.ifnullNo X0.here hx rfl (hb hby d5_1) rfl (XS.aloadN X0.here hx rfl (hb hby d5_4) rfl rfl k)))) ?_
  obtain ⟨cq112, kq112, q112a, q112b, q112c⟩ := isOf hZ e0 EB
  obtain ⟨_, _, ⟨T112, L112, k112, n112⟩, -, X112, ⟨Lc112, hQ112, l112, y112, z112⟩, st112⟩ := X0.interfaceBack hx (xi := (⟨"java/util/List", "size", "()I"⟩ : MethodName)) (y := (⟨"java/util/ArrayList", "size", "()I"⟩ : MethodName)) hown (mvT hZ hw30) (mvT hZ hw31) (mvT hZ hw32) (mvT hZ hw33) (mvT hZ hw34) (mvT hZ hw35) (mvT hZ hw36) (mvT hZ hw37) (by decide) (backOf (W := 0) (rmSize l Z a0 hw [] wD kD vcs G lb ((1 : Int32)) h0 n0 O0 SB) hZ hw38 hw2 (by decide) (by decide)) q112a q112b q112c (g := (mkF m 5 #[vr la, vr lb, .unset, .unset, .unset] [(.ref lb)])) rfl (by rw [hml]; rfl) (Steps.refl _) (argsL := []) (rest := []) (lenOf pd_13 rfl) rfl (by show 2 * 0 + _ ≤ _; exact Nat.le_of_eq rfl) (hb hby d5_5) (fun _ _ => ⟨rfl, e0, (by decide : 0 + 0 ≤ _), (by decide : 0 + 0 ≤ _)⟩)
  dsimp only [Pt.U, Pt.locs, Pt.cells, Pt.slots] at X112 l112 y112 z112 st112 hQ112
  subst l112 y112 z112
  obtain ⟨rfl, rfl, e112⟩ := hQ112
  try replace X112 := own_nil X112
  refine Go.by' (fun t k => st112.trans k) ?_
  show Go p.tables e below Pf (T112.setTop (mkF m 10 #[vr la, vr lb, .unset, .unset, .unset] [(.int (1 : Int32))]))
  refine Go.by' (fun t k => (XS.aloadN X112.here hx rfl (hb hby d5_10) rfl rfl k)) ?_
  obtain ⟨cq113, kq113, q113a, q113b, q113c⟩ := isOf hZ e112 EA
  obtain ⟨_, _, ⟨T113, L113, k113, n113⟩, -, X113, ⟨Lc113, hQ113, l113, y113, z113⟩, st113⟩ := X112.interfaceBack hx (xi := (⟨"java/util/List", "size", "()I"⟩ : MethodName)) (y := (⟨"java/util/ArrayList", "size", "()I"⟩ : MethodName)) hown (mvT hZ hw30) (mvT hZ hw31) (mvT hZ hw32) (mvT hZ hw33) (mvT hZ hw34) (mvT hZ hw35) (mvT hZ hw36) (mvT hZ hw37) (by decide) (backOf (W := 1) (rmSize l Z a0 hw [] wD kD vcs G la ((1 : Int32)) h0 n0 O0 SA) hZ hw38 hw2 (by decide) (by decide)) q113a q113b q113c (g := (mkF m 11 #[vr la, vr lb, .unset, .unset, .unset] [(.ref la), (.int (1 : Int32))])) rfl (by rw [hml]; rfl) (Steps.refl _) (argsL := []) (rest := [(.int (1 : Int32))]) (lenOf pd_13 rfl) rfl (by show 2 * 0 + _ ≤ _; exact Nat.le_of_eq rfl) (hb hby d5_11) (fun _ _ => ⟨rfl, e112, (by decide : 0 + 0 ≤ _), (by decide : 0 + 0 ≤ _)⟩)
  dsimp only [Pt.U, Pt.locs, Pt.cells, Pt.slots] at X113 l113 y113 z113 st113 hQ113
  subst l113 y113 z113
  obtain ⟨rfl, rfl, e113⟩ := hQ113
  try replace X113 := own_nil X113
  refine Go.by' (fun t k => st113.trans k) ?_
  show Go p.tables e below Pf (T113.setTop (mkF m 16 #[vr la, vr lb, .unset, .unset, .unset] [(.int (1 : Int32)), (.int (1 : Int32))]))
  refine Go.by' (fun t k => (XS.icmpYes X113.here hx rfl (pc0 := 16) (pc' := 21) rfl (hb hby d5_16) rfl (teq (by decide)).1 (by decide) (by decide) (XS.iconst X113.here hx rfl (hb hby d5_21) (XS.istoreN X113.here hx rfl (hb hby d5_22) rfl (l' := #[vr la, vr lb, vi (0 : Int32), .unset, .unset]) rfl (XS.iloadN X113.here hx rfl (hb hby d5_23) rfl (XS.aloadN X113.here hx rfl (hb hby d5_24) rfl rfl k)))))) ?_
  obtain ⟨cq114, kq114, q114a, q114b, q114c⟩ := isOf hZ e113 EA
  obtain ⟨_, _, ⟨T114, L114, k114, n114⟩, -, X114, ⟨Lc114, hQ114, l114, y114, z114⟩, st114⟩ := X113.interfaceBack hx (xi := (⟨"java/util/List", "size", "()I"⟩ : MethodName)) (y := (⟨"java/util/ArrayList", "size", "()I"⟩ : MethodName)) hown (mvT hZ hw30) (mvT hZ hw31) (mvT hZ hw32) (mvT hZ hw33) (mvT hZ hw34) (mvT hZ hw35) (mvT hZ hw36) (mvT hZ hw37) (by decide) (backOf (W := 1) (rmSize l Z a0 hw [] wD kD vcs G la ((1 : Int32)) h0 n0 O0 SA) hZ hw38 hw2 (by decide) (by decide)) q114a q114b q114c (g := (mkF m 25 #[vr la, vr lb, vi (0 : Int32), .unset, .unset] [(.ref la), (.int (0 : Int32))])) rfl (by rw [hml]; rfl) (Steps.refl _) (argsL := []) (rest := [(.int (0 : Int32))]) (lenOf pd_13 rfl) rfl (by show 2 * 0 + _ ≤ _; exact Nat.le_of_eq rfl) (hb hby d5_25) (fun _ _ => ⟨rfl, e113, (by decide : 0 + 0 ≤ _), (by decide : 0 + 0 ≤ _)⟩)
  dsimp only [Pt.U, Pt.locs, Pt.cells, Pt.slots] at X114 l114 y114 z114 st114 hQ114
  subst l114 y114 z114
  obtain ⟨rfl, rfl, e114⟩ := hQ114
  try replace X114 := own_nil X114
  refine Go.by' (fun t k => st114.trans k) ?_
  show Go p.tables e below Pf (T114.setTop (mkF m 30 #[vr la, vr lb, vi (0 : Int32), .unset, .unset] [(.int (1 : Int32)), (.int (0 : Int32))]))
  refine Go.by' (fun t k => (XS.icmpNo X114.here hx rfl (hb hby d5_30) rfl (tlt (by decide)).2.1 (XS.aloadN X114.here hx rfl (hb hby d5_33) rfl rfl (XS.iloadN X114.here hx rfl (hb hby d5_34) rfl k)))) ?_
  obtain ⟨cq115, kq115, q115a, q115b, q115c⟩ := isOf hZ e114 EA
  obtain ⟨_, _, ⟨T115, L115, k115, n115⟩, -, X115, ⟨Lc115, hQ115, l115, y115, z115⟩, st115⟩ := X114.interfaceBack hx (xi := (⟨"java/util/List", "get", "(I)Ljava/lang/Object;"⟩ : MethodName)) (y := (⟨"java/util/ArrayList", "get", "(I)Ljava/lang/Object;"⟩ : MethodName)) hown (mvT hZ hw122) (mvT hZ hw123) (mvT hZ hw124) (mvT hZ hw125) (mvT hZ hw126) (mvT hZ hw127) (mvT hZ hw128) (mvT hZ hw37) (by decide) (backOf (W := 0) (rmGet0 l Z a0 hw [] wD kD vcs G la ((1 : Int32)) ra ka (Value.null) (Value.null) (Value.null) (Value.null) (Value.null) (Value.null) (Value.null) (Value.null) (Value.null) ap0 h0 n0 O0 SA (by decide) EA EaD Va) hZ hw129 hw2 (by decide) (by decide)) q115a q115b q115c (g := (mkF m 35 #[vr la, vr lb, vi (0 : Int32), .unset, .unset] [(.int (0 : Int32)), (.ref la)])) rfl (by rw [hml]; rfl) (Steps.refl _) (argsL := [(.int (0 : Int32))]) (rest := []) (lenOf pd_11 rfl) rfl (by show 2 * 0 + _ ≤ _; exact Nat.le_of_eq rfl) (hb hby d5_35) (fun _ _ => ⟨rfl, e114, (by decide : 0 + 0 ≤ _), (by decide : 0 + 0 ≤ _)⟩)
  dsimp only [Pt.U, Pt.locs, Pt.cells, Pt.slots] at X115 l115 y115 z115 st115 hQ115
  subst l115 y115 z115
  obtain ⟨rfl, rfl, e115⟩ := hQ115
  try replace X115 := own_nil X115
  refine Go.by' (fun t k => st115.trans k) ?_
  obtain ⟨T116, X116, e116, st116⟩ := castY X115 hx hZ hown hw143 e115 (Ins.self Xa0) (g := (mkF m 40 #[vr la, vr lb, vi (0 : Int32), .unset, .unset] [(.ref ap0)])) rfl rfl (hb hby d5_40)
  refine Go.by' st116 ?_
  show Go p.tables e below Pf (T116.setTop (mkF m 43 #[vr la, vr lb, vi (0 : Int32), .unset, .unset] [(.ref ap0)]))
  refine Go.by' (fun t k => (XS.astoreN X116.here hx rfl (hb hby d5_43) rfl rfl (l' := #[vr la, vr lb, vi (0 : Int32), vr ap0, .unset]) rfl (XS.aloadN X116.here hx rfl (hb hby d5_44) rfl rfl (XS.iloadN X116.here hx rfl (hb hby d5_45) rfl k)))) ?_
  obtain ⟨cq117, kq117, q117a, q117b, q117c⟩ := isOf hZ e116 EB
  obtain ⟨_, _, ⟨T117, L117, k117, n117⟩, -, X117, ⟨Lc117, hQ117, l117, y117, z117⟩, st117⟩ := X116.interfaceBack hx (xi := (⟨"java/util/List", "get", "(I)Ljava/lang/Object;"⟩ : MethodName)) (y := (⟨"java/util/ArrayList", "get", "(I)Ljava/lang/Object;"⟩ : MethodName)) hown (mvT hZ hw122) (mvT hZ hw123) (mvT hZ hw124) (mvT hZ hw125) (mvT hZ hw126) (mvT hZ hw127) (mvT hZ hw128) (mvT hZ hw37) (by decide) (backOf (W := 0) (rmGet0 l Z a0 hw [] wD kD vcs G lb ((1 : Int32)) rb kb (Value.null) (Value.null) (Value.null) (Value.null) (Value.null) (Value.null) (Value.null) (Value.null) (Value.null) bp0 h0 n0 O0 SB (by decide) EB EbD Vb) hZ hw129 hw2 (by decide) (by decide)) q117a q117b q117c (g := (mkF m 46 #[vr la, vr lb, vi (0 : Int32), vr ap0, .unset] [(.int (0 : Int32)), (.ref lb)])) rfl (by rw [hml]; rfl) (Steps.refl _) (argsL := [(.int (0 : Int32))]) (rest := []) (lenOf pd_11 rfl) rfl (by show 2 * 0 + _ ≤ _; exact Nat.le_of_eq rfl) (hb hby d5_46) (fun _ _ => ⟨rfl, e116, (by decide : 0 + 0 ≤ _), (by decide : 0 + 0 ≤ _)⟩)
  dsimp only [Pt.U, Pt.locs, Pt.cells, Pt.slots] at X117 l117 y117 z117 st117 hQ117
  subst l117 y117 z117
  obtain ⟨rfl, rfl, e117⟩ := hQ117
  try replace X117 := own_nil X117
  refine Go.by' (fun t k => st117.trans k) ?_
  obtain ⟨T118, X118, e118, st118⟩ := castY X117 hx hZ hown hw143 e117 (Ins.self Xb0) (g := (mkF m 51 #[vr la, vr lb, vi (0 : Int32), vr ap0, .unset] [(.ref bp0)])) rfl rfl (hb hby d5_51)
  refine Go.by' st118 ?_
  show Go p.tables e below Pf (T118.setTop (mkF m 54 #[vr la, vr lb, vi (0 : Int32), vr ap0, .unset] [(.ref bp0)]))
  refine Go.by' (fun t k => (XS.astore X118.here hx rfl (hb hby d5_54) rfl rfl (l' := #[vr la, vr lb, vi (0 : Int32), vr ap0, vr bp0]) rfl (XS.aloadN X118.here hx rfl (hb hby d5_56) rfl rfl k))) ?_
  obtain ⟨T119, X119, e119, st119⟩ := getF X118 hx hZ hown (host := "") (Or.inl hw84) Via.refl e118 Fan0 (g := (mkF m 57 #[vr la, vr lb, vi (0 : Int32), vr ap0, vr bp0] [(.ref ap0)])) rfl rfl (hb hby d5_57)
  refine Go.by' st119 ?_
  show Go p.tables e below Pf (T119.setTop (mkF m 60 #[vr la, vr lb, vi (0 : Int32), vr ap0, vr bp0] [(.ref an0)]))
  refine Go.by' (fun t k => (XS.aload X119.here hx rfl (hb hby d5_60) rfl rfl k)) ?_
  obtain ⟨T120, X120, e120, st120⟩ := getF X119 hx hZ hown (host := "") (Or.inl hw84) Via.refl e119 Fbn0 (g := (mkF m 62 #[vr la, vr lb, vi (0 : Int32), vr ap0, vr bp0] [(.ref bp0), (.ref an0)])) rfl rfl (hb hby d5_62)
  refine Go.by' st120 ?_
  obtain ⟨cq121, kq121, q121a, q121b, q121c⟩ := isOf hZ e120 Xan0
  obtain ⟨_, _, ⟨T121, L121, k121, n121⟩, -, X121, ⟨Lc121, hQ121, l121, y121, z121⟩, st121⟩ := X120.virtualBack hx (y := (⟨"java/lang/String", "equals", "(Ljava/lang/Object;)Z"⟩ : MethodName)) (z := (⟨"java/lang/String", "equals", "(Ljava/lang/Object;)Z"⟩ : MethodName)) hown (mvT hZ hw145) (mvT hZ hw146) (notFace_of_selects (args := #[]) (mvT hZ hw148)) (mvT hZ hw148) (mvT hZ hw147) (by decide) (backOf (W := 0) (rmSE_11 l Z a0 hw [] wD kD vcs G an0 bn0 an0v bn0v an0k bn0k an0x bn0x h0 n0 O0 Xan0 Xbn0 Van0 Vbn0 Can0 Cbn0 hn0 Ban0 Bbn0) hZ hw149 hw49 (by decide) (by decide)) q121a q121c (g := (mkF m 65 #[vr la, vr lb, vi (0 : Int32), vr ap0, vr bp0] [(.ref bn0), (.ref an0)])) rfl (by rw [hml]; rfl) (Steps.refl _) (argsL := [(.ref bn0)]) (rest := []) (lenOf pd_14 rfl) rfl (by show 2 * 0 + _ ≤ _; exact Nat.le_of_eq rfl) (hb hby d5_65) (fun _ _ => ⟨rfl, e120, (by decide : 0 + 0 ≤ _), (by decide : 0 + 0 ≤ _)⟩)
  dsimp only [Pt.U, Pt.locs, Pt.cells, Pt.slots] at X121 l121 y121 z121 st121 hQ121
  subst l121 y121 z121
  obtain ⟨r_121, rfl, rfl, e121, r121_0⟩ := hQ121
  try replace X121 := own_nil X121
  refine Go.by' (fun t k => st121.trans k) ?_
  rcases r121_0 with ⟨hq121, hz121⟩ | ⟨hq121, hz121⟩
  · subst hz121
    show Go p.tables e below Pf (T121.setTop (mkF m 68 #[vr la, vr lb, vi (0 : Int32), vr ap0, vr bp0] [(.int (1 : Int32))]))
    refine Go.by' (fun t k => (XS.ifNo X121.here hx rfl (hb hby d5_68) rfl ((if0 _ _).trans (feq (by decide)).1) (XS.aloadN X121.here hx rfl (hb hby d5_71) rfl rfl k))) ?_
    obtain ⟨T122, X122, e122, st122⟩ := getF X121 hx hZ hown (host := "") (Or.inl hw86) Via.refl e121 Fat0 (g := (mkF m 72 #[vr la, vr lb, vi (0 : Int32), vr ap0, vr bp0] [(.ref ap0)])) rfl rfl (hb hby d5_72)
    refine Go.by' st122 ?_
    show Go p.tables e below Pf (T122.setTop (mkF m 75 #[vr la, vr lb, vi (0 : Int32), vr ap0, vr bp0] [(.ref at0)]))
    refine Go.by' (fun t k => (XS.aload X122.here hx rfl (hb hby d5_75) rfl rfl k)) ?_
    obtain ⟨T123, X123, e123, st123⟩ := getF X122 hx hZ hown (host := "") (Or.inl hw86) Via.refl e122 Fbt0 (g := (mkF m 77 #[vr la, vr lb, vi (0 : Int32), vr ap0, vr bp0] [(.ref bp0), (.ref at0)])) rfl rfl (hb hby d5_77)
    refine Go.by' st123 ?_
    obtain ⟨cq124, kq124, q124a, q124b, q124c⟩ := isOf hZ e123 Xat0
    obtain ⟨_, _, ⟨T124, L124, k124, n124⟩, -, X124, ⟨Lc124, hQ124, l124, y124, z124⟩, st124⟩ := X123.virtualBack hx (y := (⟨"java/lang/String", "equals", "(Ljava/lang/Object;)Z"⟩ : MethodName)) (z := (⟨"java/lang/String", "equals", "(Ljava/lang/Object;)Z"⟩ : MethodName)) hown (mvT hZ hw145) (mvT hZ hw146) (notFace_of_selects (args := #[]) (mvT hZ hw148)) (mvT hZ hw148) (mvT hZ hw147) (by decide) (backOf (W := 0) (rmSE_11 l Z a0 hw [] wD kD vcs G at0 bt0 at0v bt0v at0k bt0k at0x bt0x h0 n0 O0 Xat0 Xbt0 Vat0 Vbt0 Cat0 Cbt0 ht0 Bat0 Bbt0) hZ hw149 hw49 (by decide) (by decide)) q124a q124c (g := (mkF m 80 #[vr la, vr lb, vi (0 : Int32), vr ap0, vr bp0] [(.ref bt0), (.ref at0)])) rfl (by rw [hml]; rfl) (Steps.refl _) (argsL := [(.ref bt0)]) (rest := []) (lenOf pd_14 rfl) rfl (by show 2 * 0 + _ ≤ _; exact Nat.le_of_eq rfl) (hb hby d5_80) (fun _ _ => ⟨rfl, e123, (by decide : 0 + 0 ≤ _), (by decide : 0 + 0 ≤ _)⟩)
    dsimp only [Pt.U, Pt.locs, Pt.cells, Pt.slots] at X124 l124 y124 z124 st124 hQ124
    subst l124 y124 z124
    obtain ⟨r_124, rfl, rfl, e124, r124_0⟩ := hQ124
    try replace X124 := own_nil X124
    refine Go.by' (fun t k => st124.trans k) ?_
    rcases r124_0 with ⟨hq124, hz124⟩ | ⟨hq124, hz124⟩
    · subst hz124
      show Go p.tables e below Pf (T124.setTop (mkF m 83 #[vr la, vr lb, vi (0 : Int32), vr ap0, vr bp0] [(.int (1 : Int32))]))
      refine Go.by' (fun t k => (XS.ifYes X124.here hx rfl (pc0 := 83) (pc' := 88) rfl (hb hby d5_83) rfl ((if0 _ _).trans (feq (by decide)).2) (by decide) (by decide) (XS.iinc X124.here hx rfl (hb hby d5_88) rfl (l' := #[vr la, vr lb, vi ((0 : Int32) + (1 : Int32)), vr ap0, vr bp0]) rfl k))) ?_
      show Go p.tables e below Pf (T124.setTop (mkF m 91 #[vr la, vr lb, vi ((0 : Int32) + (1 : Int32)), vr ap0, vr bp0] []))
      refine Go.castF (a := ((0 : Int32) + (1 : Int32))) (b := (1 : Int32)) (fun z' : Int32 => mkF m 91 #[vr la, vr lb, vi z', vr ap0, vr bp0] []) (by decide) ?_
      show Go p.tables e below Pf (T124.setTop (mkF m 91 #[vr la, vr lb, vi (1 : Int32), vr ap0, vr bp0] []))
      refine Go.by' (fun t k => (XS.goto X124.here hx rfl (pc0 := 91) (pc' := 23) rfl (hb hby d5_91) (by decide) (by decide) (XS.iloadN X124.here hx rfl (hb hby d5_23) rfl (XS.aloadN X124.here hx rfl (hb hby d5_24) rfl rfl k)))) ?_
      obtain ⟨cq125, kq125, q125a, q125b, q125c⟩ := isOf hZ e124 EA
      obtain ⟨_, _, ⟨T125, L125, k125, n125⟩, -, X125, ⟨Lc125, hQ125, l125, y125, z125⟩, st125⟩ := X124.interfaceBack hx (xi := (⟨"java/util/List", "size", "()I"⟩ : MethodName)) (y := (⟨"java/util/ArrayList", "size", "()I"⟩ : MethodName)) hown (mvT hZ hw30) (mvT hZ hw31) (mvT hZ hw32) (mvT hZ hw33) (mvT hZ hw34) (mvT hZ hw35) (mvT hZ hw36) (mvT hZ hw37) (by decide) (backOf (W := 1) (rmSize l Z a0 hw [] wD kD vcs G la ((1 : Int32)) h0 n0 O0 SA) hZ hw38 hw2 (by decide) (by decide)) q125a q125b q125c (g := (mkF m 25 #[vr la, vr lb, vi (1 : Int32), vr ap0, vr bp0] [(.ref la), (.int (1 : Int32))])) rfl (by rw [hml]; rfl) (Steps.refl _) (argsL := []) (rest := [(.int (1 : Int32))]) (lenOf pd_13 rfl) rfl (by show 2 * 0 + _ ≤ _; exact Nat.le_of_eq rfl) (hb hby d5_25) (fun _ _ => ⟨rfl, e124, (by decide : 0 + 0 ≤ _), (by decide : 0 + 0 ≤ _)⟩)
      dsimp only [Pt.U, Pt.locs, Pt.cells, Pt.slots] at X125 l125 y125 z125 st125 hQ125
      subst l125 y125 z125
      obtain ⟨rfl, rfl, e125⟩ := hQ125
      try replace X125 := own_nil X125
      refine Go.by' (fun t k => st125.trans k) ?_
      show Go p.tables e below Pf (T125.setTop (mkF m 30 #[vr la, vr lb, vi (1 : Int32), vr ap0, vr bp0] [(.int (1 : Int32)), (.int (1 : Int32))]))
      refine Go.by' (fun t k => (XS.icmpYes X125.here hx rfl (pc0 := 30) (pc' := 94) rfl (hb hby d5_30) rfl (flt (by decide)).2.1 (by decide) (by decide) (XS.iconst X125.here hx rfl (hb hby d5_94) k))) ?_
      show Go p.tables e below Pf (T125.setTop (mkF m 95 #[vr la, vr lb, vi (1 : Int32), vr ap0, vr bp0] [(.int (1 : Int32))]))
      rw [hPf]
      exact Go.retI' X125 hx hret hlk (by simp) rfl (hb hby d5_95) (by decide) (by decide) ⟨(1 : Int32), rfl, rfl, e125, (Or.inl ⟨hq121, hq124, rfl⟩)⟩
    · subst hz124
      show Go p.tables e below Pf (T124.setTop (mkF m 83 #[vr la, vr lb, vi (0 : Int32), vr ap0, vr bp0] [(.int (0 : Int32))]))
      refine Go.by' (fun t k => (XS.ifNo X124.here hx rfl (hb hby d5_83) rfl ((if0 _ _).trans (teq (by decide)).2) (XS.iconst X124.here hx rfl (hb hby d5_86) k))) ?_
      show Go p.tables e below Pf (T124.setTop (mkF m 87 #[vr la, vr lb, vi (0 : Int32), vr ap0, vr bp0] [(.int (0 : Int32))]))
      rw [hPf]
      exact Go.retI' X124 hx hret hlk (by simp) rfl (hb hby d5_87) (by decide) (by decide) ⟨(0 : Int32), rfl, rfl, e124, (Or.inr ⟨fun q => hq124 q.2, rfl⟩)⟩
  · subst hz121
    show Go p.tables e below Pf (T121.setTop (mkF m 68 #[vr la, vr lb, vi (0 : Int32), vr ap0, vr bp0] [(.int (0 : Int32))]))
    refine Go.by' (fun t k => (XS.ifYes X121.here hx rfl (pc0 := 68) (pc' := 86) rfl (hb hby d5_68) rfl ((if0 _ _).trans (teq (by decide)).1) (by decide) (by decide) (XS.iconst X121.here hx rfl (hb hby d5_86) k))) ?_
    show Go p.tables e below Pf (T121.setTop (mkF m 87 #[vr la, vr lb, vi (0 : Int32), vr ap0, vr bp0] [(.int (0 : Int32))]))
    rw [hPf]
    exact Go.retI' X121 hx hret hlk (by simp) rfl (hb hby d5_87) (by decide) (by decide) ⟨(0 : Int32), rfl, rfl, e121, (Or.inr ⟨fun q => hq121 q.1, rfl⟩)⟩
set_option maxHeartbeats 4000000 in
theorem ef_rmT2 (m : MethodId) {la : Addr} {lb : Addr} : entryFrame m #[(.ref la), (.ref lb)] 5 = mkF m 0 #[vr la, vr lb, .unset, .unset, .unset] [] := by first | (simp [entryFrame, mkF, argsToLocals, Value.category]; done) | rfl
def QrmT2 (Z : State) (wD : Addr) (kD : ClassId) (vcs : Int32) (la : Addr) (lb : Addr) (ra : Addr) (ka : ClassId) (rb : Addr) (kb : ClassId) (ap0 : Addr) (an0 : Addr) (an0v : Addr) (an0k : ClassId) (an0x : Int32) (at0 : Addr) (at0v : Addr) (at0k : ClassId) (at0x : Int32) (bp0 : Addr) (bn0 : Addr) (bn0v : Addr) (bn0k : ClassId) (bn0x : Int32) (bt0 : Addr) (bt0v : Addr) (bt0k : ClassId) (bt0x : Int32) (ap1 : Addr) (an1 : Addr) (an1v : Addr) (an1k : ClassId) (an1x : Int32) (at1 : Addr) (at1v : Addr) (at1k : ClassId) (at1x : Int32) (bp1 : Addr) (bn1 : Addr) (bn1v : Addr) (bn1k : ClassId) (bn1x : Int32) (bt1 : Addr) (bt1v : Addr) (bt1k : ClassId) (bt1x : Int32) (h0 : Heap) (n0 : Nat) (v : Option Value) (h : Heap) (L : List Loc) : Prop := ∃ (r : Int32), (v = some (.int r)) ∧ (L = []) ∧ (h = h0) ∧ ((an0x = bn0x ∧ at0x = bt0x ∧ an1x = bn1x ∧ at1x = bt1x ∧ r = (1 : Int32)) ∨ (¬ (an0x = bn0x ∧ at0x = bt0x ∧ an1x = bn1x ∧ at1x = bt1x) ∧ r = (0 : Int32)))
set_option maxRecDepth 65536 in
set_option maxHeartbeats 40000000 in
theorem rmT2 (l : Launch) (Z : State) (a0 : Array Value) (hw : ∀ d ∈ tables_1, d.before a0 Z = true) (ws : List Jvm.Cond) (wD : Addr) (kD : ClassId) (vcs : Int32) (G : Gh Z wD kD vcs) (la : Addr) (lb : Addr) (ra : Addr) (ka : ClassId) (rb : Addr) (kb : ClassId) (ap0 : Addr) (an0 : Addr) (an0v : Addr) (an0k : ClassId) (an0x : Int32) (at0 : Addr) (at0v : Addr) (at0k : ClassId) (at0x : Int32) (bp0 : Addr) (bn0 : Addr) (bn0v : Addr) (bn0k : ClassId) (bn0x : Int32) (bt0 : Addr) (bt0v : Addr) (bt0k : ClassId) (bt0x : Int32) (ap1 : Addr) (an1 : Addr) (an1v : Addr) (an1k : ClassId) (an1x : Int32) (at1 : Addr) (at1v : Addr) (at1k : ClassId) (at1x : Int32) (bp1 : Addr) (bn1 : Addr) (bn1v : Addr) (bn1k : ClassId) (bn1x : Int32) (bt1 : Addr) (bt1v : Addr) (bt1k : ClassId) (bt1x : Int32) (h0 : Heap) (n0 : Nat) (O0 : Old Z n0 h0) (EA : Exa Z h0 la "java/util/ArrayList") (EB : Exa Z h0 lb "java/util/ArrayList") (SA : Fld Z h0 la "java/util/ArrayList" "size" "I" (.int (2 : Int32))) (SB : Fld Z h0 lb "java/util/ArrayList" "size" "I" (.int (2 : Int32))) (EaD : Fld Z h0 la "java/util/ArrayList" "elementData" "[Ljava/lang/Object;" (.ref ra)) (Va : Arv Z h0 ra ka (.object "java/lang/Object") (10 : Int32) [(.ref ap0), (.ref ap1), .null, .null, .null, .null, .null, .null, .null, .null] Value.null) (EbD : Fld Z h0 lb "java/util/ArrayList" "elementData" "[Ljava/lang/Object;" (.ref rb)) (Vb : Arv Z h0 rb kb (.object "java/lang/Object") (10 : Int32) [(.ref bp0), (.ref bp1), .null, .null, .null, .null, .null, .null, .null, .null] Value.null) (Xa0 : Exa Z h0 ap0 "com/example/slatewipe/slatewipe/vendors/mariadb/Columns$Column") (Fan0 : Fld Z h0 ap0 "com/example/slatewipe/slatewipe/vendors/mariadb/Columns$Column" "name" "Ljava/lang/String;" (.ref an0)) (Xan0 : Exa Z h0 an0 "java/lang/String") (Van0 : Fld Z h0 an0 "java/lang/String" "value" "[B" (.ref an0v)) (Can0 : Fld Z h0 an0 "java/lang/String" "coder" "B" (.int (0 : Int32))) (Ban0 : Arv Z h0 an0v an0k .byte (1 : Int32) [(.int an0x)] (.int (0 : Int32))) (Fat0 : Fld Z h0 ap0 "com/example/slatewipe/slatewipe/vendors/mariadb/Columns$Column" "type" "Ljava/lang/String;" (.ref at0)) (Xat0 : Exa Z h0 at0 "java/lang/String") (Vat0 : Fld Z h0 at0 "java/lang/String" "value" "[B" (.ref at0v)) (Cat0 : Fld Z h0 at0 "java/lang/String" "coder" "B" (.int (0 : Int32))) (Bat0 : Arv Z h0 at0v at0k .byte (1 : Int32) [(.int at0x)] (.int (0 : Int32))) (Xb0 : Exa Z h0 bp0 "com/example/slatewipe/slatewipe/vendors/mariadb/Columns$Column") (Fbn0 : Fld Z h0 bp0 "com/example/slatewipe/slatewipe/vendors/mariadb/Columns$Column" "name" "Ljava/lang/String;" (.ref bn0)) (Xbn0 : Exa Z h0 bn0 "java/lang/String") (Vbn0 : Fld Z h0 bn0 "java/lang/String" "value" "[B" (.ref bn0v)) (Cbn0 : Fld Z h0 bn0 "java/lang/String" "coder" "B" (.int (0 : Int32))) (Bbn0 : Arv Z h0 bn0v bn0k .byte (1 : Int32) [(.int bn0x)] (.int (0 : Int32))) (Fbt0 : Fld Z h0 bp0 "com/example/slatewipe/slatewipe/vendors/mariadb/Columns$Column" "type" "Ljava/lang/String;" (.ref bt0)) (Xbt0 : Exa Z h0 bt0 "java/lang/String") (Vbt0 : Fld Z h0 bt0 "java/lang/String" "value" "[B" (.ref bt0v)) (Cbt0 : Fld Z h0 bt0 "java/lang/String" "coder" "B" (.int (0 : Int32))) (Bbt0 : Arv Z h0 bt0v bt0k .byte (1 : Int32) [(.int bt0x)] (.int (0 : Int32))) (hn0 : an0 ≠ bn0) (ht0 : at0 ≠ bt0) (Xa1 : Exa Z h0 ap1 "com/example/slatewipe/slatewipe/vendors/mariadb/Columns$Column") (Fan1 : Fld Z h0 ap1 "com/example/slatewipe/slatewipe/vendors/mariadb/Columns$Column" "name" "Ljava/lang/String;" (.ref an1)) (Xan1 : Exa Z h0 an1 "java/lang/String") (Van1 : Fld Z h0 an1 "java/lang/String" "value" "[B" (.ref an1v)) (Can1 : Fld Z h0 an1 "java/lang/String" "coder" "B" (.int (0 : Int32))) (Ban1 : Arv Z h0 an1v an1k .byte (1 : Int32) [(.int an1x)] (.int (0 : Int32))) (Fat1 : Fld Z h0 ap1 "com/example/slatewipe/slatewipe/vendors/mariadb/Columns$Column" "type" "Ljava/lang/String;" (.ref at1)) (Xat1 : Exa Z h0 at1 "java/lang/String") (Vat1 : Fld Z h0 at1 "java/lang/String" "value" "[B" (.ref at1v)) (Cat1 : Fld Z h0 at1 "java/lang/String" "coder" "B" (.int (0 : Int32))) (Bat1 : Arv Z h0 at1v at1k .byte (1 : Int32) [(.int at1x)] (.int (0 : Int32))) (Xb1 : Exa Z h0 bp1 "com/example/slatewipe/slatewipe/vendors/mariadb/Columns$Column") (Fbn1 : Fld Z h0 bp1 "com/example/slatewipe/slatewipe/vendors/mariadb/Columns$Column" "name" "Ljava/lang/String;" (.ref bn1)) (Xbn1 : Exa Z h0 bn1 "java/lang/String") (Vbn1 : Fld Z h0 bn1 "java/lang/String" "value" "[B" (.ref bn1v)) (Cbn1 : Fld Z h0 bn1 "java/lang/String" "coder" "B" (.int (0 : Int32))) (Bbn1 : Arv Z h0 bn1v bn1k .byte (1 : Int32) [(.int bn1x)] (.int (0 : Int32))) (Fbt1 : Fld Z h0 bp1 "com/example/slatewipe/slatewipe/vendors/mariadb/Columns$Column" "type" "Ljava/lang/String;" (.ref bt1)) (Xbt1 : Exa Z h0 bt1 "java/lang/String") (Vbt1 : Fld Z h0 bt1 "java/lang/String" "value" "[B" (.ref bt1v)) (Cbt1 : Fld Z h0 bt1 "java/lang/String" "coder" "B" (.int (0 : Int32))) (Bbt1 : Arv Z h0 bt1v bt1k .byte (1 : Int32) [(.int bt1x)] (.int (0 : Int32))) (hn1 : an1 ≠ bn1) (ht1 : at1 ≠ bt1) :
    MetFree l (⟨"com/example/slatewipe/slatewipe/vendors/mariadb/Columns$Column", "sameTypes", "(Ljava/util/List;Ljava/util/List;)Z"⟩ : MethodName) (head1 (Jvm.Cond.code (⟨"com/example/slatewipe/slatewipe/vendors/mariadb/Columns$Column", "sameTypes", "(Ljava/util/List;Ljava/util/List;)Z"⟩ : MethodName) prog_46_method_2_code 5 (some .boolean) :: ws) ({ frames := 3, cells := 0, slots := 0, locals := 40 } : Room)) (fun aa' UU' => aa' = #[(.ref la), (.ref lb)] ∧ Z.Warmed39 UU'.vm ∧ UU'.heap = h0) (fun _ _ _ _ _ => True) (fun _ UU' oo' VV' => ∃ v' L', oo' = .returned v' ∧ QrmT2 Z wD kD vcs la lb ra ka rb kb ap0 an0 an0v an0k an0x at0 at0v at0k at0x bp0 bn0 bn0v bn0k bn0x bt0 bt0v bt0k bt0x ap1 an1 an1v an1k an1x at1 at1v at1k at1x bp1 bn1 bn1v bn1k bn1x bt1 bt1v bt1k bt1x h0 n0 v' VV'.heap L' ∧ FrameEnd UU' oo' VV' L' ({ frames := 3, cells := 0, slots := 0, locals := 40 } : Room).cells ({ frames := 3, cells := 0, slots := 0, locals := 40 } : Room).slots) := by
  refine MetFree.of_bodySF (plainFor_of_name pn_5) hisR ?_
  intro p e s m args below meth c s₁ Bd hml0 hP hK
  obtain ⟨rfl, hZ, hh⟩ := hP
  have hx := Bd.exec
  have hby := Bd.bytes
  have hlk := Bd.notSynchronized
  have hml : c.maxLocals = 5 := hml0
  have hown : s.vm.findClass "com/example/slatewipe/slatewipe/vendors/mariadb/Columns$Column" = some m.cls := findClass_of_methodNamed Bd.named
  have hnm := (name_of_methodNamed Bd.named Bd.method).1
  have hret := Bd.returns
  have X0 : Stand p l e ({ frames := 3, cells := 0, slots := 0, locals := 40 } : Room) s m #[(.ref la), (.ref lb)] below meth c s₁ [] 0 0 := Stand.of_body Bd
  have e0 : s₁.heap = h0 := by rw [← hh, Bd.state]; rfl
  have N0 := Fr.nil n0
  refine Go.body ?_
  obtain ⟨Pf, hPf⟩ : ∃ P, P = Fin' s below ({ frames := 3, cells := 0, slots := 0, locals := 40 } : Room).cells ({ frames := 3, cells := 0, slots := 0, locals := 40 } : Room).slots (QrmT2 Z wD kD vcs la lb ra ka rb kb ap0 an0 an0v an0k an0x at0 at0v at0k at0x bp0 bn0 bn0v bn0k bn0x bt0 bt0v bt0k bt0x ap1 an1 an1v an1k an1x at1 at1v at1k at1x bp1 bn1 bn1v bn1k bn1x bt1 bt1v bt1k bt1x h0 n0) := ⟨_, rfl⟩
  rw [← hPf]
  refine Go.cast (ef_rmT2 m) ?_
  have hw2 := (hw _ (List.mem_of_getElem? (i := 2) rfl))
  have hw30 := (hw _ (List.mem_of_getElem? (i := 30) rfl))
  have hw31 := (hw _ (List.mem_of_getElem? (i := 31) rfl))
  have hw32 := (hw _ (List.mem_of_getElem? (i := 32) rfl))
  have hw33 := (hw _ (List.mem_of_getElem? (i := 33) rfl))
  have hw34 := (hw _ (List.mem_of_getElem? (i := 34) rfl))
  have hw35 := (hw _ (List.mem_of_getElem? (i := 35) rfl))
  have hw36 := (hw _ (List.mem_of_getElem? (i := 36) rfl))
  have hw37 := (hw _ (List.mem_of_getElem? (i := 37) rfl))
  have hw38 := (hw _ (List.mem_of_getElem? (i := 38) rfl))
  have hw49 := (hw _ (List.mem_of_getElem? (i := 49) rfl))
  have hw84 := (hw _ (List.mem_of_getElem? (i := 84) rfl))
  have hw86 := (hw _ (List.mem_of_getElem? (i := 86) rfl))
  have hw122 := (hw _ (List.mem_of_getElem? (i := 122) rfl))
  have hw123 := (hw _ (List.mem_of_getElem? (i := 123) rfl))
  have hw124 := (hw _ (List.mem_of_getElem? (i := 124) rfl))
  have hw125 := (hw _ (List.mem_of_getElem? (i := 125) rfl))
  have hw126 := (hw _ (List.mem_of_getElem? (i := 126) rfl))
  have hw127 := (hw _ (List.mem_of_getElem? (i := 127) rfl))
  have hw128 := (hw _ (List.mem_of_getElem? (i := 128) rfl))
  have hw129 := (hw _ (List.mem_of_getElem? (i := 129) rfl))
  have hw143 := (hw _ (List.mem_of_getElem? (i := 143) rfl))
  have hw145 := (hw _ (List.mem_of_getElem? (i := 145) rfl))
  have hw146 := (hw _ (List.mem_of_getElem? (i := 146) rfl))
  have hw147 := (hw _ (List.mem_of_getElem? (i := 147) rfl))
  have hw148 := (hw _ (List.mem_of_getElem? (i := 148) rfl))
  have hw149 := (hw _ (List.mem_of_getElem? (i := 149) rfl))
  show Go p.tables e below Pf (s₁.setTop (mkF m 0 #[vr la, vr lb, .unset, .unset, .unset] []))
  refine Go.by' (fun t k => (XS.aloadN X0.here hx rfl (hb hby d5_0) rfl rfl (XS.ifnullNo X0.here hx rfl (hb hby d5_1) rfl (XS.aloadN X0.here hx rfl (hb hby d5_4) rfl rfl k)))) ?_
  obtain ⟨cq126, kq126, q126a, q126b, q126c⟩ := isOf hZ e0 EB
  obtain ⟨_, _, ⟨T126, L126, k126, n126⟩, -, X126, ⟨Lc126, hQ126, l126, y126, z126⟩, st126⟩ := X0.interfaceBack hx (xi := (⟨"java/util/List", "size", "()I"⟩ : MethodName)) (y := (⟨"java/util/ArrayList", "size", "()I"⟩ : MethodName)) hown (mvT hZ hw30) (mvT hZ hw31) (mvT hZ hw32) (mvT hZ hw33) (mvT hZ hw34) (mvT hZ hw35) (mvT hZ hw36) (mvT hZ hw37) (by decide) (backOf (W := 0) (rmSize l Z a0 hw [] wD kD vcs G lb ((2 : Int32)) h0 n0 O0 SB) hZ hw38 hw2 (by decide) (by decide)) q126a q126b q126c (g := (mkF m 5 #[vr la, vr lb, .unset, .unset, .unset] [(.ref lb)])) rfl (by rw [hml]; rfl) (Steps.refl _) (argsL := []) (rest := []) (lenOf pd_13 rfl) rfl (by show 2 * 0 + _ ≤ _; exact Nat.le_of_eq rfl) (hb hby d5_5) (fun _ _ => ⟨rfl, e0, (by decide : 0 + 0 ≤ _), (by decide : 0 + 0 ≤ _)⟩)
  dsimp only [Pt.U, Pt.locs, Pt.cells, Pt.slots] at X126 l126 y126 z126 st126 hQ126
  subst l126 y126 z126
  obtain ⟨rfl, rfl, e126⟩ := hQ126
  try replace X126 := own_nil X126
  refine Go.by' (fun t k => st126.trans k) ?_
  show Go p.tables e below Pf (T126.setTop (mkF m 10 #[vr la, vr lb, .unset, .unset, .unset] [(.int (2 : Int32))]))
  refine Go.by' (fun t k => (XS.aloadN X126.here hx rfl (hb hby d5_10) rfl rfl k)) ?_
  obtain ⟨cq127, kq127, q127a, q127b, q127c⟩ := isOf hZ e126 EA
  obtain ⟨_, _, ⟨T127, L127, k127, n127⟩, -, X127, ⟨Lc127, hQ127, l127, y127, z127⟩, st127⟩ := X126.interfaceBack hx (xi := (⟨"java/util/List", "size", "()I"⟩ : MethodName)) (y := (⟨"java/util/ArrayList", "size", "()I"⟩ : MethodName)) hown (mvT hZ hw30) (mvT hZ hw31) (mvT hZ hw32) (mvT hZ hw33) (mvT hZ hw34) (mvT hZ hw35) (mvT hZ hw36) (mvT hZ hw37) (by decide) (backOf (W := 1) (rmSize l Z a0 hw [] wD kD vcs G la ((2 : Int32)) h0 n0 O0 SA) hZ hw38 hw2 (by decide) (by decide)) q127a q127b q127c (g := (mkF m 11 #[vr la, vr lb, .unset, .unset, .unset] [(.ref la), (.int (2 : Int32))])) rfl (by rw [hml]; rfl) (Steps.refl _) (argsL := []) (rest := [(.int (2 : Int32))]) (lenOf pd_13 rfl) rfl (by show 2 * 0 + _ ≤ _; exact Nat.le_of_eq rfl) (hb hby d5_11) (fun _ _ => ⟨rfl, e126, (by decide : 0 + 0 ≤ _), (by decide : 0 + 0 ≤ _)⟩)
  dsimp only [Pt.U, Pt.locs, Pt.cells, Pt.slots] at X127 l127 y127 z127 st127 hQ127
  subst l127 y127 z127
  obtain ⟨rfl, rfl, e127⟩ := hQ127
  try replace X127 := own_nil X127
  refine Go.by' (fun t k => st127.trans k) ?_
  show Go p.tables e below Pf (T127.setTop (mkF m 16 #[vr la, vr lb, .unset, .unset, .unset] [(.int (2 : Int32)), (.int (2 : Int32))]))
  refine Go.by' (fun t k => (XS.icmpYes X127.here hx rfl (pc0 := 16) (pc' := 21) rfl (hb hby d5_16) rfl (teq (by decide)).1 (by decide) (by decide) (XS.iconst X127.here hx rfl (hb hby d5_21) (XS.istoreN X127.here hx rfl (hb hby d5_22) rfl (l' := #[vr la, vr lb, vi (0 : Int32), .unset, .unset]) rfl (XS.iloadN X127.here hx rfl (hb hby d5_23) rfl (XS.aloadN X127.here hx rfl (hb hby d5_24) rfl rfl k)))))) ?_
  obtain ⟨cq128, kq128, q128a, q128b, q128c⟩ := isOf hZ e127 EA
  obtain ⟨_, _, ⟨T128, L128, k128, n128⟩, -, X128, ⟨Lc128, hQ128, l128, y128, z128⟩, st128⟩ := X127.interfaceBack hx (xi := (⟨"java/util/List", "size", "()I"⟩ : MethodName)) (y := (⟨"java/util/ArrayList", "size", "()I"⟩ : MethodName)) hown (mvT hZ hw30) (mvT hZ hw31) (mvT hZ hw32) (mvT hZ hw33) (mvT hZ hw34) (mvT hZ hw35) (mvT hZ hw36) (mvT hZ hw37) (by decide) (backOf (W := 1) (rmSize l Z a0 hw [] wD kD vcs G la ((2 : Int32)) h0 n0 O0 SA) hZ hw38 hw2 (by decide) (by decide)) q128a q128b q128c (g := (mkF m 25 #[vr la, vr lb, vi (0 : Int32), .unset, .unset] [(.ref la), (.int (0 : Int32))])) rfl (by rw [hml]; rfl) (Steps.refl _) (argsL := []) (rest := [(.int (0 : Int32))]) (lenOf pd_13 rfl) rfl (by show 2 * 0 + _ ≤ _; exact Nat.le_of_eq rfl) (hb hby d5_25) (fun _ _ => ⟨rfl, e127, (by decide : 0 + 0 ≤ _), (by decide : 0 + 0 ≤ _)⟩)
  dsimp only [Pt.U, Pt.locs, Pt.cells, Pt.slots] at X128 l128 y128 z128 st128 hQ128
  subst l128 y128 z128
  obtain ⟨rfl, rfl, e128⟩ := hQ128
  try replace X128 := own_nil X128
  refine Go.by' (fun t k => st128.trans k) ?_
  show Go p.tables e below Pf (T128.setTop (mkF m 30 #[vr la, vr lb, vi (0 : Int32), .unset, .unset] [(.int (2 : Int32)), (.int (0 : Int32))]))
  refine Go.by' (fun t k => (XS.icmpNo X128.here hx rfl (hb hby d5_30) rfl (tlt (by decide)).2.1 (XS.aloadN X128.here hx rfl (hb hby d5_33) rfl rfl (XS.iloadN X128.here hx rfl (hb hby d5_34) rfl k)))) ?_
  obtain ⟨cq129, kq129, q129a, q129b, q129c⟩ := isOf hZ e128 EA
  obtain ⟨_, _, ⟨T129, L129, k129, n129⟩, -, X129, ⟨Lc129, hQ129, l129, y129, z129⟩, st129⟩ := X128.interfaceBack hx (xi := (⟨"java/util/List", "get", "(I)Ljava/lang/Object;"⟩ : MethodName)) (y := (⟨"java/util/ArrayList", "get", "(I)Ljava/lang/Object;"⟩ : MethodName)) hown (mvT hZ hw122) (mvT hZ hw123) (mvT hZ hw124) (mvT hZ hw125) (mvT hZ hw126) (mvT hZ hw127) (mvT hZ hw128) (mvT hZ hw37) (by decide) (backOf (W := 0) (rmGet0 l Z a0 hw [] wD kD vcs G la ((2 : Int32)) ra ka ((Value.ref ap1)) (Value.null) (Value.null) (Value.null) (Value.null) (Value.null) (Value.null) (Value.null) (Value.null) ap0 h0 n0 O0 SA (by decide) EA EaD Va) hZ hw129 hw2 (by decide) (by decide)) q129a q129b q129c (g := (mkF m 35 #[vr la, vr lb, vi (0 : Int32), .unset, .unset] [(.int (0 : Int32)), (.ref la)])) rfl (by rw [hml]; rfl) (Steps.refl _) (argsL := [(.int (0 : Int32))]) (rest := []) (lenOf pd_11 rfl) rfl (by show 2 * 0 + _ ≤ _; exact Nat.le_of_eq rfl) (hb hby d5_35) (fun _ _ => ⟨rfl, e128, (by decide : 0 + 0 ≤ _), (by decide : 0 + 0 ≤ _)⟩)
  dsimp only [Pt.U, Pt.locs, Pt.cells, Pt.slots] at X129 l129 y129 z129 st129 hQ129
  subst l129 y129 z129
  obtain ⟨rfl, rfl, e129⟩ := hQ129
  try replace X129 := own_nil X129
  refine Go.by' (fun t k => st129.trans k) ?_
  obtain ⟨T130, X130, e130, st130⟩ := castY X129 hx hZ hown hw143 e129 (Ins.self Xa0) (g := (mkF m 40 #[vr la, vr lb, vi (0 : Int32), .unset, .unset] [(.ref ap0)])) rfl rfl (hb hby d5_40)
  refine Go.by' st130 ?_
  show Go p.tables e below Pf (T130.setTop (mkF m 43 #[vr la, vr lb, vi (0 : Int32), .unset, .unset] [(.ref ap0)]))
  refine Go.by' (fun t k => (XS.astoreN X130.here hx rfl (hb hby d5_43) rfl rfl (l' := #[vr la, vr lb, vi (0 : Int32), vr ap0, .unset]) rfl (XS.aloadN X130.here hx rfl (hb hby d5_44) rfl rfl (XS.iloadN X130.here hx rfl (hb hby d5_45) rfl k)))) ?_
  obtain ⟨cq131, kq131, q131a, q131b, q131c⟩ := isOf hZ e130 EB
  obtain ⟨_, _, ⟨T131, L131, k131, n131⟩, -, X131, ⟨Lc131, hQ131, l131, y131, z131⟩, st131⟩ := X130.interfaceBack hx (xi := (⟨"java/util/List", "get", "(I)Ljava/lang/Object;"⟩ : MethodName)) (y := (⟨"java/util/ArrayList", "get", "(I)Ljava/lang/Object;"⟩ : MethodName)) hown (mvT hZ hw122) (mvT hZ hw123) (mvT hZ hw124) (mvT hZ hw125) (mvT hZ hw126) (mvT hZ hw127) (mvT hZ hw128) (mvT hZ hw37) (by decide) (backOf (W := 0) (rmGet0 l Z a0 hw [] wD kD vcs G lb ((2 : Int32)) rb kb ((Value.ref bp1)) (Value.null) (Value.null) (Value.null) (Value.null) (Value.null) (Value.null) (Value.null) (Value.null) bp0 h0 n0 O0 SB (by decide) EB EbD Vb) hZ hw129 hw2 (by decide) (by decide)) q131a q131b q131c (g := (mkF m 46 #[vr la, vr lb, vi (0 : Int32), vr ap0, .unset] [(.int (0 : Int32)), (.ref lb)])) rfl (by rw [hml]; rfl) (Steps.refl _) (argsL := [(.int (0 : Int32))]) (rest := []) (lenOf pd_11 rfl) rfl (by show 2 * 0 + _ ≤ _; exact Nat.le_of_eq rfl) (hb hby d5_46) (fun _ _ => ⟨rfl, e130, (by decide : 0 + 0 ≤ _), (by decide : 0 + 0 ≤ _)⟩)
  dsimp only [Pt.U, Pt.locs, Pt.cells, Pt.slots] at X131 l131 y131 z131 st131 hQ131
  subst l131 y131 z131
  obtain ⟨rfl, rfl, e131⟩ := hQ131
  try replace X131 := own_nil X131
  refine Go.by' (fun t k => st131.trans k) ?_
  obtain ⟨T132, X132, e132, st132⟩ := castY X131 hx hZ hown hw143 e131 (Ins.self Xb0) (g := (mkF m 51 #[vr la, vr lb, vi (0 : Int32), vr ap0, .unset] [(.ref bp0)])) rfl rfl (hb hby d5_51)
  refine Go.by' st132 ?_
  show Go p.tables e below Pf (T132.setTop (mkF m 54 #[vr la, vr lb, vi (0 : Int32), vr ap0, .unset] [(.ref bp0)]))
  refine Go.by' (fun t k => (XS.astore X132.here hx rfl (hb hby d5_54) rfl rfl (l' := #[vr la, vr lb, vi (0 : Int32), vr ap0, vr bp0]) rfl (XS.aloadN X132.here hx rfl (hb hby d5_56) rfl rfl k))) ?_
  obtain ⟨T133, X133, e133, st133⟩ := getF X132 hx hZ hown (host := "") (Or.inl hw84) Via.refl e132 Fan0 (g := (mkF m 57 #[vr la, vr lb, vi (0 : Int32), vr ap0, vr bp0] [(.ref ap0)])) rfl rfl (hb hby d5_57)
  refine Go.by' st133 ?_
  show Go p.tables e below Pf (T133.setTop (mkF m 60 #[vr la, vr lb, vi (0 : Int32), vr ap0, vr bp0] [(.ref an0)]))
  refine Go.by' (fun t k => (XS.aload X133.here hx rfl (hb hby d5_60) rfl rfl k)) ?_
  obtain ⟨T134, X134, e134, st134⟩ := getF X133 hx hZ hown (host := "") (Or.inl hw84) Via.refl e133 Fbn0 (g := (mkF m 62 #[vr la, vr lb, vi (0 : Int32), vr ap0, vr bp0] [(.ref bp0), (.ref an0)])) rfl rfl (hb hby d5_62)
  refine Go.by' st134 ?_
  obtain ⟨cq135, kq135, q135a, q135b, q135c⟩ := isOf hZ e134 Xan0
  obtain ⟨_, _, ⟨T135, L135, k135, n135⟩, -, X135, ⟨Lc135, hQ135, l135, y135, z135⟩, st135⟩ := X134.virtualBack hx (y := (⟨"java/lang/String", "equals", "(Ljava/lang/Object;)Z"⟩ : MethodName)) (z := (⟨"java/lang/String", "equals", "(Ljava/lang/Object;)Z"⟩ : MethodName)) hown (mvT hZ hw145) (mvT hZ hw146) (notFace_of_selects (args := #[]) (mvT hZ hw148)) (mvT hZ hw148) (mvT hZ hw147) (by decide) (backOf (W := 0) (rmSE_11 l Z a0 hw [] wD kD vcs G an0 bn0 an0v bn0v an0k bn0k an0x bn0x h0 n0 O0 Xan0 Xbn0 Van0 Vbn0 Can0 Cbn0 hn0 Ban0 Bbn0) hZ hw149 hw49 (by decide) (by decide)) q135a q135c (g := (mkF m 65 #[vr la, vr lb, vi (0 : Int32), vr ap0, vr bp0] [(.ref bn0), (.ref an0)])) rfl (by rw [hml]; rfl) (Steps.refl _) (argsL := [(.ref bn0)]) (rest := []) (lenOf pd_14 rfl) rfl (by show 2 * 0 + _ ≤ _; exact Nat.le_of_eq rfl) (hb hby d5_65) (fun _ _ => ⟨rfl, e134, (by decide : 0 + 0 ≤ _), (by decide : 0 + 0 ≤ _)⟩)
  dsimp only [Pt.U, Pt.locs, Pt.cells, Pt.slots] at X135 l135 y135 z135 st135 hQ135
  subst l135 y135 z135
  obtain ⟨r_135, rfl, rfl, e135, r135_0⟩ := hQ135
  try replace X135 := own_nil X135
  refine Go.by' (fun t k => st135.trans k) ?_
  rcases r135_0 with ⟨hq135, hz135⟩ | ⟨hq135, hz135⟩
  · subst hz135
    show Go p.tables e below Pf (T135.setTop (mkF m 68 #[vr la, vr lb, vi (0 : Int32), vr ap0, vr bp0] [(.int (1 : Int32))]))
    refine Go.by' (fun t k => (XS.ifNo X135.here hx rfl (hb hby d5_68) rfl ((if0 _ _).trans (feq (by decide)).1) (XS.aloadN X135.here hx rfl (hb hby d5_71) rfl rfl k))) ?_
    obtain ⟨T136, X136, e136, st136⟩ := getF X135 hx hZ hown (host := "") (Or.inl hw86) Via.refl e135 Fat0 (g := (mkF m 72 #[vr la, vr lb, vi (0 : Int32), vr ap0, vr bp0] [(.ref ap0)])) rfl rfl (hb hby d5_72)
    refine Go.by' st136 ?_
    show Go p.tables e below Pf (T136.setTop (mkF m 75 #[vr la, vr lb, vi (0 : Int32), vr ap0, vr bp0] [(.ref at0)]))
    refine Go.by' (fun t k => (XS.aload X136.here hx rfl (hb hby d5_75) rfl rfl k)) ?_
    obtain ⟨T137, X137, e137, st137⟩ := getF X136 hx hZ hown (host := "") (Or.inl hw86) Via.refl e136 Fbt0 (g := (mkF m 77 #[vr la, vr lb, vi (0 : Int32), vr ap0, vr bp0] [(.ref bp0), (.ref at0)])) rfl rfl (hb hby d5_77)
    refine Go.by' st137 ?_
    obtain ⟨cq138, kq138, q138a, q138b, q138c⟩ := isOf hZ e137 Xat0
    obtain ⟨_, _, ⟨T138, L138, k138, n138⟩, -, X138, ⟨Lc138, hQ138, l138, y138, z138⟩, st138⟩ := X137.virtualBack hx (y := (⟨"java/lang/String", "equals", "(Ljava/lang/Object;)Z"⟩ : MethodName)) (z := (⟨"java/lang/String", "equals", "(Ljava/lang/Object;)Z"⟩ : MethodName)) hown (mvT hZ hw145) (mvT hZ hw146) (notFace_of_selects (args := #[]) (mvT hZ hw148)) (mvT hZ hw148) (mvT hZ hw147) (by decide) (backOf (W := 0) (rmSE_11 l Z a0 hw [] wD kD vcs G at0 bt0 at0v bt0v at0k bt0k at0x bt0x h0 n0 O0 Xat0 Xbt0 Vat0 Vbt0 Cat0 Cbt0 ht0 Bat0 Bbt0) hZ hw149 hw49 (by decide) (by decide)) q138a q138c (g := (mkF m 80 #[vr la, vr lb, vi (0 : Int32), vr ap0, vr bp0] [(.ref bt0), (.ref at0)])) rfl (by rw [hml]; rfl) (Steps.refl _) (argsL := [(.ref bt0)]) (rest := []) (lenOf pd_14 rfl) rfl (by show 2 * 0 + _ ≤ _; exact Nat.le_of_eq rfl) (hb hby d5_80) (fun _ _ => ⟨rfl, e137, (by decide : 0 + 0 ≤ _), (by decide : 0 + 0 ≤ _)⟩)
    dsimp only [Pt.U, Pt.locs, Pt.cells, Pt.slots] at X138 l138 y138 z138 st138 hQ138
    subst l138 y138 z138
    obtain ⟨r_138, rfl, rfl, e138, r138_0⟩ := hQ138
    try replace X138 := own_nil X138
    refine Go.by' (fun t k => st138.trans k) ?_
    rcases r138_0 with ⟨hq138, hz138⟩ | ⟨hq138, hz138⟩
    · subst hz138
      show Go p.tables e below Pf (T138.setTop (mkF m 83 #[vr la, vr lb, vi (0 : Int32), vr ap0, vr bp0] [(.int (1 : Int32))]))
      refine Go.by' (fun t k => (XS.ifYes X138.here hx rfl (pc0 := 83) (pc' := 88) rfl (hb hby d5_83) rfl ((if0 _ _).trans (feq (by decide)).2) (by decide) (by decide) (XS.iinc X138.here hx rfl (hb hby d5_88) rfl (l' := #[vr la, vr lb, vi ((0 : Int32) + (1 : Int32)), vr ap0, vr bp0]) rfl k))) ?_
      show Go p.tables e below Pf (T138.setTop (mkF m 91 #[vr la, vr lb, vi ((0 : Int32) + (1 : Int32)), vr ap0, vr bp0] []))
      refine Go.castF (a := ((0 : Int32) + (1 : Int32))) (b := (1 : Int32)) (fun z' : Int32 => mkF m 91 #[vr la, vr lb, vi z', vr ap0, vr bp0] []) (by decide) ?_
      show Go p.tables e below Pf (T138.setTop (mkF m 91 #[vr la, vr lb, vi (1 : Int32), vr ap0, vr bp0] []))
      refine Go.by' (fun t k => (XS.goto X138.here hx rfl (pc0 := 91) (pc' := 23) rfl (hb hby d5_91) (by decide) (by decide) (XS.iloadN X138.here hx rfl (hb hby d5_23) rfl (XS.aloadN X138.here hx rfl (hb hby d5_24) rfl rfl k)))) ?_
      obtain ⟨cq139, kq139, q139a, q139b, q139c⟩ := isOf hZ e138 EA
      obtain ⟨_, _, ⟨T139, L139, k139, n139⟩, -, X139, ⟨Lc139, hQ139, l139, y139, z139⟩, st139⟩ := X138.interfaceBack hx (xi := (⟨"java/util/List", "size", "()I"⟩ : MethodName)) (y := (⟨"java/util/ArrayList", "size", "()I"⟩ : MethodName)) hown (mvT hZ hw30) (mvT hZ hw31) (mvT hZ hw32) (mvT hZ hw33) (mvT hZ hw34) (mvT hZ hw35) (mvT hZ hw36) (mvT hZ hw37) (by decide) (backOf (W := 1) (rmSize l Z a0 hw [] wD kD vcs G la ((2 : Int32)) h0 n0 O0 SA) hZ hw38 hw2 (by decide) (by decide)) q139a q139b q139c (g := (mkF m 25 #[vr la, vr lb, vi (1 : Int32), vr ap0, vr bp0] [(.ref la), (.int (1 : Int32))])) rfl (by rw [hml]; rfl) (Steps.refl _) (argsL := []) (rest := [(.int (1 : Int32))]) (lenOf pd_13 rfl) rfl (by show 2 * 0 + _ ≤ _; exact Nat.le_of_eq rfl) (hb hby d5_25) (fun _ _ => ⟨rfl, e138, (by decide : 0 + 0 ≤ _), (by decide : 0 + 0 ≤ _)⟩)
      dsimp only [Pt.U, Pt.locs, Pt.cells, Pt.slots] at X139 l139 y139 z139 st139 hQ139
      subst l139 y139 z139
      obtain ⟨rfl, rfl, e139⟩ := hQ139
      try replace X139 := own_nil X139
      refine Go.by' (fun t k => st139.trans k) ?_
      show Go p.tables e below Pf (T139.setTop (mkF m 30 #[vr la, vr lb, vi (1 : Int32), vr ap0, vr bp0] [(.int (2 : Int32)), (.int (1 : Int32))]))
      refine Go.by' (fun t k => (XS.icmpNo X139.here hx rfl (hb hby d5_30) rfl (tlt (by decide)).2.1 (XS.aloadN X139.here hx rfl (hb hby d5_33) rfl rfl (XS.iloadN X139.here hx rfl (hb hby d5_34) rfl k)))) ?_
      obtain ⟨cq140, kq140, q140a, q140b, q140c⟩ := isOf hZ e139 EA
      obtain ⟨_, _, ⟨T140, L140, k140, n140⟩, -, X140, ⟨Lc140, hQ140, l140, y140, z140⟩, st140⟩ := X139.interfaceBack hx (xi := (⟨"java/util/List", "get", "(I)Ljava/lang/Object;"⟩ : MethodName)) (y := (⟨"java/util/ArrayList", "get", "(I)Ljava/lang/Object;"⟩ : MethodName)) hown (mvT hZ hw122) (mvT hZ hw123) (mvT hZ hw124) (mvT hZ hw125) (mvT hZ hw126) (mvT hZ hw127) (mvT hZ hw128) (mvT hZ hw37) (by decide) (backOf (W := 0) (rmGet1 l Z a0 hw [] wD kD vcs G la ((2 : Int32)) ra ka ((Value.ref ap0)) (Value.null) (Value.null) (Value.null) (Value.null) (Value.null) (Value.null) (Value.null) (Value.null) ap1 h0 n0 O0 SA (by decide) EA EaD Va) hZ hw129 hw2 (by decide) (by decide)) q140a q140b q140c (g := (mkF m 35 #[vr la, vr lb, vi (1 : Int32), vr ap0, vr bp0] [(.int (1 : Int32)), (.ref la)])) rfl (by rw [hml]; rfl) (Steps.refl _) (argsL := [(.int (1 : Int32))]) (rest := []) (lenOf pd_11 rfl) rfl (by show 2 * 0 + _ ≤ _; exact Nat.le_of_eq rfl) (hb hby d5_35) (fun _ _ => ⟨rfl, e139, (by decide : 0 + 0 ≤ _), (by decide : 0 + 0 ≤ _)⟩)
      dsimp only [Pt.U, Pt.locs, Pt.cells, Pt.slots] at X140 l140 y140 z140 st140 hQ140
      subst l140 y140 z140
      obtain ⟨rfl, rfl, e140⟩ := hQ140
      try replace X140 := own_nil X140
      refine Go.by' (fun t k => st140.trans k) ?_
      obtain ⟨T141, X141, e141, st141⟩ := castY X140 hx hZ hown hw143 e140 (Ins.self Xa1) (g := (mkF m 40 #[vr la, vr lb, vi (1 : Int32), vr ap0, vr bp0] [(.ref ap1)])) rfl rfl (hb hby d5_40)
      refine Go.by' st141 ?_
      show Go p.tables e below Pf (T141.setTop (mkF m 43 #[vr la, vr lb, vi (1 : Int32), vr ap0, vr bp0] [(.ref ap1)]))
      refine Go.by' (fun t k => (XS.astoreN X141.here hx rfl (hb hby d5_43) rfl rfl (l' := #[vr la, vr lb, vi (1 : Int32), vr ap1, vr bp0]) rfl (XS.aloadN X141.here hx rfl (hb hby d5_44) rfl rfl (XS.iloadN X141.here hx rfl (hb hby d5_45) rfl k)))) ?_
      obtain ⟨cq142, kq142, q142a, q142b, q142c⟩ := isOf hZ e141 EB
      obtain ⟨_, _, ⟨T142, L142, k142, n142⟩, -, X142, ⟨Lc142, hQ142, l142, y142, z142⟩, st142⟩ := X141.interfaceBack hx (xi := (⟨"java/util/List", "get", "(I)Ljava/lang/Object;"⟩ : MethodName)) (y := (⟨"java/util/ArrayList", "get", "(I)Ljava/lang/Object;"⟩ : MethodName)) hown (mvT hZ hw122) (mvT hZ hw123) (mvT hZ hw124) (mvT hZ hw125) (mvT hZ hw126) (mvT hZ hw127) (mvT hZ hw128) (mvT hZ hw37) (by decide) (backOf (W := 0) (rmGet1 l Z a0 hw [] wD kD vcs G lb ((2 : Int32)) rb kb ((Value.ref bp0)) (Value.null) (Value.null) (Value.null) (Value.null) (Value.null) (Value.null) (Value.null) (Value.null) bp1 h0 n0 O0 SB (by decide) EB EbD Vb) hZ hw129 hw2 (by decide) (by decide)) q142a q142b q142c (g := (mkF m 46 #[vr la, vr lb, vi (1 : Int32), vr ap1, vr bp0] [(.int (1 : Int32)), (.ref lb)])) rfl (by rw [hml]; rfl) (Steps.refl _) (argsL := [(.int (1 : Int32))]) (rest := []) (lenOf pd_11 rfl) rfl (by show 2 * 0 + _ ≤ _; exact Nat.le_of_eq rfl) (hb hby d5_46) (fun _ _ => ⟨rfl, e141, (by decide : 0 + 0 ≤ _), (by decide : 0 + 0 ≤ _)⟩)
      dsimp only [Pt.U, Pt.locs, Pt.cells, Pt.slots] at X142 l142 y142 z142 st142 hQ142
      subst l142 y142 z142
      obtain ⟨rfl, rfl, e142⟩ := hQ142
      try replace X142 := own_nil X142
      refine Go.by' (fun t k => st142.trans k) ?_
      obtain ⟨T143, X143, e143, st143⟩ := castY X142 hx hZ hown hw143 e142 (Ins.self Xb1) (g := (mkF m 51 #[vr la, vr lb, vi (1 : Int32), vr ap1, vr bp0] [(.ref bp1)])) rfl rfl (hb hby d5_51)
      refine Go.by' st143 ?_
      show Go p.tables e below Pf (T143.setTop (mkF m 54 #[vr la, vr lb, vi (1 : Int32), vr ap1, vr bp0] [(.ref bp1)]))
      refine Go.by' (fun t k => (XS.astore X143.here hx rfl (hb hby d5_54) rfl rfl (l' := #[vr la, vr lb, vi (1 : Int32), vr ap1, vr bp1]) rfl (XS.aloadN X143.here hx rfl (hb hby d5_56) rfl rfl k))) ?_
      obtain ⟨T144, X144, e144, st144⟩ := getF X143 hx hZ hown (host := "") (Or.inl hw84) Via.refl e143 Fan1 (g := (mkF m 57 #[vr la, vr lb, vi (1 : Int32), vr ap1, vr bp1] [(.ref ap1)])) rfl rfl (hb hby d5_57)
      refine Go.by' st144 ?_
      show Go p.tables e below Pf (T144.setTop (mkF m 60 #[vr la, vr lb, vi (1 : Int32), vr ap1, vr bp1] [(.ref an1)]))
      refine Go.by' (fun t k => (XS.aload X144.here hx rfl (hb hby d5_60) rfl rfl k)) ?_
      obtain ⟨T145, X145, e145, st145⟩ := getF X144 hx hZ hown (host := "") (Or.inl hw84) Via.refl e144 Fbn1 (g := (mkF m 62 #[vr la, vr lb, vi (1 : Int32), vr ap1, vr bp1] [(.ref bp1), (.ref an1)])) rfl rfl (hb hby d5_62)
      refine Go.by' st145 ?_
      obtain ⟨cq146, kq146, q146a, q146b, q146c⟩ := isOf hZ e145 Xan1
      obtain ⟨_, _, ⟨T146, L146, k146, n146⟩, -, X146, ⟨Lc146, hQ146, l146, y146, z146⟩, st146⟩ := X145.virtualBack hx (y := (⟨"java/lang/String", "equals", "(Ljava/lang/Object;)Z"⟩ : MethodName)) (z := (⟨"java/lang/String", "equals", "(Ljava/lang/Object;)Z"⟩ : MethodName)) hown (mvT hZ hw145) (mvT hZ hw146) (notFace_of_selects (args := #[]) (mvT hZ hw148)) (mvT hZ hw148) (mvT hZ hw147) (by decide) (backOf (W := 0) (rmSE_11 l Z a0 hw [] wD kD vcs G an1 bn1 an1v bn1v an1k bn1k an1x bn1x h0 n0 O0 Xan1 Xbn1 Van1 Vbn1 Can1 Cbn1 hn1 Ban1 Bbn1) hZ hw149 hw49 (by decide) (by decide)) q146a q146c (g := (mkF m 65 #[vr la, vr lb, vi (1 : Int32), vr ap1, vr bp1] [(.ref bn1), (.ref an1)])) rfl (by rw [hml]; rfl) (Steps.refl _) (argsL := [(.ref bn1)]) (rest := []) (lenOf pd_14 rfl) rfl (by show 2 * 0 + _ ≤ _; exact Nat.le_of_eq rfl) (hb hby d5_65) (fun _ _ => ⟨rfl, e145, (by decide : 0 + 0 ≤ _), (by decide : 0 + 0 ≤ _)⟩)
      dsimp only [Pt.U, Pt.locs, Pt.cells, Pt.slots] at X146 l146 y146 z146 st146 hQ146
      subst l146 y146 z146
      obtain ⟨r_146, rfl, rfl, e146, r146_0⟩ := hQ146
      try replace X146 := own_nil X146
      refine Go.by' (fun t k => st146.trans k) ?_
      rcases r146_0 with ⟨hq146, hz146⟩ | ⟨hq146, hz146⟩
      · subst hz146
        show Go p.tables e below Pf (T146.setTop (mkF m 68 #[vr la, vr lb, vi (1 : Int32), vr ap1, vr bp1] [(.int (1 : Int32))]))
        refine Go.by' (fun t k => (XS.ifNo X146.here hx rfl (hb hby d5_68) rfl ((if0 _ _).trans (feq (by decide)).1) (XS.aloadN X146.here hx rfl (hb hby d5_71) rfl rfl k))) ?_
        obtain ⟨T147, X147, e147, st147⟩ := getF X146 hx hZ hown (host := "") (Or.inl hw86) Via.refl e146 Fat1 (g := (mkF m 72 #[vr la, vr lb, vi (1 : Int32), vr ap1, vr bp1] [(.ref ap1)])) rfl rfl (hb hby d5_72)
        refine Go.by' st147 ?_
        show Go p.tables e below Pf (T147.setTop (mkF m 75 #[vr la, vr lb, vi (1 : Int32), vr ap1, vr bp1] [(.ref at1)]))
        refine Go.by' (fun t k => (XS.aload X147.here hx rfl (hb hby d5_75) rfl rfl k)) ?_
        obtain ⟨T148, X148, e148, st148⟩ := getF X147 hx hZ hown (host := "") (Or.inl hw86) Via.refl e147 Fbt1 (g := (mkF m 77 #[vr la, vr lb, vi (1 : Int32), vr ap1, vr bp1] [(.ref bp1), (.ref at1)])) rfl rfl (hb hby d5_77)
        refine Go.by' st148 ?_
        obtain ⟨cq149, kq149, q149a, q149b, q149c⟩ := isOf hZ e148 Xat1
        obtain ⟨_, _, ⟨T149, L149, k149, n149⟩, -, X149, ⟨Lc149, hQ149, l149, y149, z149⟩, st149⟩ := X148.virtualBack hx (y := (⟨"java/lang/String", "equals", "(Ljava/lang/Object;)Z"⟩ : MethodName)) (z := (⟨"java/lang/String", "equals", "(Ljava/lang/Object;)Z"⟩ : MethodName)) hown (mvT hZ hw145) (mvT hZ hw146) (notFace_of_selects (args := #[]) (mvT hZ hw148)) (mvT hZ hw148) (mvT hZ hw147) (by decide) (backOf (W := 0) (rmSE_11 l Z a0 hw [] wD kD vcs G at1 bt1 at1v bt1v at1k bt1k at1x bt1x h0 n0 O0 Xat1 Xbt1 Vat1 Vbt1 Cat1 Cbt1 ht1 Bat1 Bbt1) hZ hw149 hw49 (by decide) (by decide)) q149a q149c (g := (mkF m 80 #[vr la, vr lb, vi (1 : Int32), vr ap1, vr bp1] [(.ref bt1), (.ref at1)])) rfl (by rw [hml]; rfl) (Steps.refl _) (argsL := [(.ref bt1)]) (rest := []) (lenOf pd_14 rfl) rfl (by show 2 * 0 + _ ≤ _; exact Nat.le_of_eq rfl) (hb hby d5_80) (fun _ _ => ⟨rfl, e148, (by decide : 0 + 0 ≤ _), (by decide : 0 + 0 ≤ _)⟩)
        dsimp only [Pt.U, Pt.locs, Pt.cells, Pt.slots] at X149 l149 y149 z149 st149 hQ149
        subst l149 y149 z149
        obtain ⟨r_149, rfl, rfl, e149, r149_0⟩ := hQ149
        try replace X149 := own_nil X149
        refine Go.by' (fun t k => st149.trans k) ?_
        rcases r149_0 with ⟨hq149, hz149⟩ | ⟨hq149, hz149⟩
        · subst hz149
          show Go p.tables e below Pf (T149.setTop (mkF m 83 #[vr la, vr lb, vi (1 : Int32), vr ap1, vr bp1] [(.int (1 : Int32))]))
          refine Go.by' (fun t k => (XS.ifYes X149.here hx rfl (pc0 := 83) (pc' := 88) rfl (hb hby d5_83) rfl ((if0 _ _).trans (feq (by decide)).2) (by decide) (by decide) (XS.iinc X149.here hx rfl (hb hby d5_88) rfl (l' := #[vr la, vr lb, vi ((1 : Int32) + (1 : Int32)), vr ap1, vr bp1]) rfl k))) ?_
          show Go p.tables e below Pf (T149.setTop (mkF m 91 #[vr la, vr lb, vi ((1 : Int32) + (1 : Int32)), vr ap1, vr bp1] []))
          refine Go.castF (a := ((1 : Int32) + (1 : Int32))) (b := (2 : Int32)) (fun z' : Int32 => mkF m 91 #[vr la, vr lb, vi z', vr ap1, vr bp1] []) (by decide) ?_
          show Go p.tables e below Pf (T149.setTop (mkF m 91 #[vr la, vr lb, vi (2 : Int32), vr ap1, vr bp1] []))
          refine Go.by' (fun t k => (XS.goto X149.here hx rfl (pc0 := 91) (pc' := 23) rfl (hb hby d5_91) (by decide) (by decide) (XS.iloadN X149.here hx rfl (hb hby d5_23) rfl (XS.aloadN X149.here hx rfl (hb hby d5_24) rfl rfl k)))) ?_
          obtain ⟨cq150, kq150, q150a, q150b, q150c⟩ := isOf hZ e149 EA
          obtain ⟨_, _, ⟨T150, L150, k150, n150⟩, -, X150, ⟨Lc150, hQ150, l150, y150, z150⟩, st150⟩ := X149.interfaceBack hx (xi := (⟨"java/util/List", "size", "()I"⟩ : MethodName)) (y := (⟨"java/util/ArrayList", "size", "()I"⟩ : MethodName)) hown (mvT hZ hw30) (mvT hZ hw31) (mvT hZ hw32) (mvT hZ hw33) (mvT hZ hw34) (mvT hZ hw35) (mvT hZ hw36) (mvT hZ hw37) (by decide) (backOf (W := 1) (rmSize l Z a0 hw [] wD kD vcs G la ((2 : Int32)) h0 n0 O0 SA) hZ hw38 hw2 (by decide) (by decide)) q150a q150b q150c (g := (mkF m 25 #[vr la, vr lb, vi (2 : Int32), vr ap1, vr bp1] [(.ref la), (.int (2 : Int32))])) rfl (by rw [hml]; rfl) (Steps.refl _) (argsL := []) (rest := [(.int (2 : Int32))]) (lenOf pd_13 rfl) rfl (by show 2 * 0 + _ ≤ _; exact Nat.le_of_eq rfl) (hb hby d5_25) (fun _ _ => ⟨rfl, e149, (by decide : 0 + 0 ≤ _), (by decide : 0 + 0 ≤ _)⟩)
          dsimp only [Pt.U, Pt.locs, Pt.cells, Pt.slots] at X150 l150 y150 z150 st150 hQ150
          subst l150 y150 z150
          obtain ⟨rfl, rfl, e150⟩ := hQ150
          try replace X150 := own_nil X150
          refine Go.by' (fun t k => st150.trans k) ?_
          show Go p.tables e below Pf (T150.setTop (mkF m 30 #[vr la, vr lb, vi (2 : Int32), vr ap1, vr bp1] [(.int (2 : Int32)), (.int (2 : Int32))]))
          refine Go.by' (fun t k => (XS.icmpYes X150.here hx rfl (pc0 := 30) (pc' := 94) rfl (hb hby d5_30) rfl (flt (by decide)).2.1 (by decide) (by decide) (XS.iconst X150.here hx rfl (hb hby d5_94) k))) ?_
          show Go p.tables e below Pf (T150.setTop (mkF m 95 #[vr la, vr lb, vi (2 : Int32), vr ap1, vr bp1] [(.int (1 : Int32))]))
          rw [hPf]
          exact Go.retI' X150 hx hret hlk (by simp) rfl (hb hby d5_95) (by decide) (by decide) ⟨(1 : Int32), rfl, rfl, e150, (Or.inl ⟨hq135, hq138, hq146, hq149, rfl⟩)⟩
        · subst hz149
          show Go p.tables e below Pf (T149.setTop (mkF m 83 #[vr la, vr lb, vi (1 : Int32), vr ap1, vr bp1] [(.int (0 : Int32))]))
          refine Go.by' (fun t k => (XS.ifNo X149.here hx rfl (hb hby d5_83) rfl ((if0 _ _).trans (teq (by decide)).2) (XS.iconst X149.here hx rfl (hb hby d5_86) k))) ?_
          show Go p.tables e below Pf (T149.setTop (mkF m 87 #[vr la, vr lb, vi (1 : Int32), vr ap1, vr bp1] [(.int (0 : Int32))]))
          rw [hPf]
          exact Go.retI' X149 hx hret hlk (by simp) rfl (hb hby d5_87) (by decide) (by decide) ⟨(0 : Int32), rfl, rfl, e149, (Or.inr ⟨fun q => hq149 q.2.2.2, rfl⟩)⟩
      · subst hz146
        show Go p.tables e below Pf (T146.setTop (mkF m 68 #[vr la, vr lb, vi (1 : Int32), vr ap1, vr bp1] [(.int (0 : Int32))]))
        refine Go.by' (fun t k => (XS.ifYes X146.here hx rfl (pc0 := 68) (pc' := 86) rfl (hb hby d5_68) rfl ((if0 _ _).trans (teq (by decide)).1) (by decide) (by decide) (XS.iconst X146.here hx rfl (hb hby d5_86) k))) ?_
        show Go p.tables e below Pf (T146.setTop (mkF m 87 #[vr la, vr lb, vi (1 : Int32), vr ap1, vr bp1] [(.int (0 : Int32))]))
        rw [hPf]
        exact Go.retI' X146 hx hret hlk (by simp) rfl (hb hby d5_87) (by decide) (by decide) ⟨(0 : Int32), rfl, rfl, e146, (Or.inr ⟨fun q => hq146 q.2.2.1, rfl⟩)⟩
    · subst hz138
      show Go p.tables e below Pf (T138.setTop (mkF m 83 #[vr la, vr lb, vi (0 : Int32), vr ap0, vr bp0] [(.int (0 : Int32))]))
      refine Go.by' (fun t k => (XS.ifNo X138.here hx rfl (hb hby d5_83) rfl ((if0 _ _).trans (teq (by decide)).2) (XS.iconst X138.here hx rfl (hb hby d5_86) k))) ?_
      show Go p.tables e below Pf (T138.setTop (mkF m 87 #[vr la, vr lb, vi (0 : Int32), vr ap0, vr bp0] [(.int (0 : Int32))]))
      rw [hPf]
      exact Go.retI' X138 hx hret hlk (by simp) rfl (hb hby d5_87) (by decide) (by decide) ⟨(0 : Int32), rfl, rfl, e138, (Or.inr ⟨fun q => hq138 q.2.1, rfl⟩)⟩
  · subst hz135
    show Go p.tables e below Pf (T135.setTop (mkF m 68 #[vr la, vr lb, vi (0 : Int32), vr ap0, vr bp0] [(.int (0 : Int32))]))
    refine Go.by' (fun t k => (XS.ifYes X135.here hx rfl (pc0 := 68) (pc' := 86) rfl (hb hby d5_68) rfl ((if0 _ _).trans (teq (by decide)).1) (by decide) (by decide) (XS.iconst X135.here hx rfl (hb hby d5_86) k))) ?_
    show Go p.tables e below Pf (T135.setTop (mkF m 87 #[vr la, vr lb, vi (0 : Int32), vr ap0, vr bp0] [(.int (0 : Int32))]))
    rw [hPf]
    exact Go.retI' X135 hx hret hlk (by simp) rfl (hb hby d5_87) (by decide) (by decide) ⟨(0 : Int32), rfl, rfl, e135, (Or.inr ⟨fun q => hq135 q.1, rfl⟩)⟩
theorem own_k (x : Int32) : ((x &&& (3 : Int32)) % (3 : Int32)) = (0 : Int32) ∨ ((x &&& (3 : Int32)) % (3 : Int32)) = (1 : Int32) ∨ ((x &&& (3 : Int32)) % (3 : Int32)) = (2 : Int32) := by
  have h := c_mask x 3 2 (by decide) (by decide)
  have h2 := (c_irem (x &&& 3) 3 3 rfl).1 (by omega)
  have l0 : (0 : Int32).toInt = 0 := rfl
  have l1 : (1 : Int32).toInt = 1 := rfl
  have l2 : (2 : Int32).toInt = 2 := rfl
  simp only [← Int32.toInt_inj]
  omega
theorem own_fin1 {a b c d r w : Int32} (h : ((a = b ∧ c = d ∧ r = (1 : Int32)) ∨ (¬ (a = b ∧ c = d) ∧ r = (0 : Int32)))) (g : (a = b ∧ c = d ∧ w = (1 : Int32)) ∨ (a = b ∧ ¬ (c = d) ∧ w = (0 : Int32)) ∨ (¬ (a = b) ∧ w = (0 : Int32))) : r = w := by
  rcases h with ⟨h1, h2, rfl⟩ | ⟨h1, rfl⟩ <;> rcases g with ⟨g1, g2, rfl⟩ | ⟨g1, g2, rfl⟩ | ⟨g1, rfl⟩ <;> first | rfl | (exfalso; first | exact g2 h2 | exact g1 h1 | exact h1 ⟨g1, g2⟩)
theorem own_fin2 {a b c d a' b' c' d' r w v : Int32} (h : ((a = b ∧ c = d ∧ a' = b' ∧ c' = d' ∧ r = (1 : Int32)) ∨ (¬ (a = b ∧ c = d ∧ a' = b' ∧ c' = d') ∧ r = (0 : Int32)))) (g : (a = b ∧ c = d ∧ w = (1 : Int32)) ∨ (a = b ∧ ¬ (c = d) ∧ w = (0 : Int32)) ∨ (¬ (a = b) ∧ w = (0 : Int32)))
    (k : (w = (0 : Int32) ∧ v = (0 : Int32)) ∨ (¬ (w = (0 : Int32)) ∧ a' = b' ∧ c' = d' ∧ v = (1 : Int32)) ∨ (¬ (w = (0 : Int32)) ∧ a' = b' ∧ ¬ (c' = d') ∧ v = (0 : Int32)) ∨ (¬ (w = (0 : Int32)) ∧ ¬ (a' = b') ∧ v = (0 : Int32))) : r = v := by
  have e10 : ¬ ((1 : Int32) = 0) := by decide
  rcases h with ⟨h1, h2, h3, h4, rfl⟩ | ⟨h1, rfl⟩ <;> rcases g with ⟨g1, g2, rfl⟩ | ⟨g1, g2, rfl⟩ | ⟨g1, rfl⟩ <;> rcases k with ⟨k1, rfl⟩ | ⟨k1, k2, k3, rfl⟩ | ⟨k1, k2, k3, rfl⟩ | ⟨k1, k2, rfl⟩ <;> first | rfl | (exfalso; first | exact g2 h2 | exact g1 h1 | exact e10 k1 | exact k1 rfl | exact k3 h4 | exact k2 h3 | exact h1 ⟨g1, g2, k2, k3⟩)
theorem pd_15 : parseMethodDescriptor "(Ljava/util/List;Ljava/util/List;)Z" = some ⟨[(.object "java/util/List"), (.object "java/util/List")], some .boolean⟩ := by decide +kernel
theorem pd_16 : parseMethodDescriptor "(I)Ljava/lang/String;" = some ⟨[.int], some (.object "java/lang/String")⟩ := by decide +kernel
theorem pd_17 : parseMethodDescriptor "(Ljava/lang/String;Ljava/lang/String;Z)V" = some ⟨[(.object "java/lang/String"), (.object "java/lang/String"), .boolean], none⟩ := by decide +kernel
theorem pn_0 : plainName "com/example/slatewipe/slatewipe/vendors/mariadb/ColumnSameTypesPinLaw" = true := by first | (simp [plainName, overriddenIn]; done) | decide +kernel
set_option maxHeartbeats 4000000 in
theorem ef_rm0 (m : MethodId) {is : Int32} {ia : Int32} {ib : Int32} : entryFrame m #[(.int is), (.int ia), (.int ib)] maxLocals = mkF m 0 #[vi is, vi ia, vi ib, .unset, .unset, .unset, .unset, .unset, .unset, .unset, .unset, .unset, .unset, .unset, .unset, .unset, .unset, .unset, .unset, .unset, .unset, .unset] [] := by first | (simp [entryFrame, mkF, argsToLocals, Value.category, maxLocals]; done) | rfl
def Qrm0 (Z : State) (wD : Addr) (kD : ClassId) (vcs : Int32) (is : Int32) (ia : Int32) (ib : Int32) (h0 : Heap) (n0 : Nat) (v : Option Value) (h : Heap) (L : List Loc) : Prop := (v = some (.int (1 : Int32))) ∧ (Fr n0 L) ∧ (Keep h0 h [])
set_option maxRecDepth 65536 in
set_option maxHeartbeats 40000000 in
theorem rm0 (l : Launch) (Z : State) (a0 : Array Value) (hw : ∀ d ∈ tables_1, d.before a0 Z = true) (ws : List Jvm.Cond) (wD : Addr) (kD : ClassId) (vcs : Int32) (G : Gh Z wD kD vcs) (is : Int32) (ia : Int32) (ib : Int32) (h0 : Heap) (n0 : Nat) (O0 : Old Z n0 h0) :
    MetFree l x (head1 (Jvm.Cond.code x code maxLocals ret :: ws) room_1) (fun aa' UU' => aa' = #[(.int is), (.int ia), (.int ib)] ∧ Z.Warmed39 UU'.vm ∧ UU'.heap = h0) (fun _ _ _ _ _ => True) (fun _ UU' oo' VV' => ∃ v' L', oo' = .returned v' ∧ Qrm0 Z wD kD vcs is ia ib h0 n0 v' VV'.heap L' ∧ FrameEnd UU' oo' VV' L' 32 86) := by
  refine MetFree.of_bodySF (plainFor_of_name pn_0) hisR ?_
  intro p e s m args below meth c s₁ Bd hml0 hP hK
  obtain ⟨rfl, hZ, hh⟩ := hP
  have hx := Bd.exec
  have hby := Bd.bytes
  have hlk := Bd.notSynchronized
  have hml : c.maxLocals = 22 := hml0
  have hown : s.vm.findClass "com/example/slatewipe/slatewipe/vendors/mariadb/ColumnSameTypesPinLaw" = some m.cls := findClass_of_methodNamed Bd.named
  have hnm := (name_of_methodNamed Bd.named Bd.method).1
  have hret := Bd.returns
  have X0 : Stand p l e room_1 s m #[(.int is), (.int ia), (.int ib)] below meth c s₁ [] 0 0 := Stand.of_body Bd
  have e0 : s₁.heap = h0 := by rw [← hh, Bd.state]; rfl
  have N0 := Fr.nil n0
  have KC0 : Keep h0 h0 [] := Keep.refl _ _
  refine Go.body ?_
  obtain ⟨Pf, hPf⟩ : ∃ P, P = Fin' s below 32 86 (Qrm0 Z wD kD vcs is ia ib h0 n0) := ⟨_, rfl⟩
  rw [← hPf]
  refine Go.cast (ef_rm0 m) ?_
  have hw0 := (hw _ (List.mem_of_getElem? (i := 0) rfl))
  have hw1 := (hw _ (List.mem_of_getElem? (i := 1) rfl))
  have hw2 := (hw _ (List.mem_of_getElem? (i := 2) rfl))
  have hw3 := (hw _ (List.mem_of_getElem? (i := 3) rfl))
  have hw4 := (hw _ (List.mem_of_getElem? (i := 4) rfl))
  have hw5 := (hw _ (List.mem_of_getElem? (i := 5) rfl))
  have hw22 := (hw _ (List.mem_of_getElem? (i := 22) rfl))
  have hw25 := (hw _ (List.mem_of_getElem? (i := 25) rfl))
  have hw26 := (hw _ (List.mem_of_getElem? (i := 26) rfl))
  have hw27 := (hw _ (List.mem_of_getElem? (i := 27) rfl))
  have hw28 := (hw _ (List.mem_of_getElem? (i := 28) rfl))
  have hw29 := (hw _ (List.mem_of_getElem? (i := 29) rfl))
  have hw37 := (hw _ (List.mem_of_getElem? (i := 37) rfl))
  have hw40 := (hw _ (List.mem_of_getElem? (i := 40) rfl))
  have hw41 := (hw _ (List.mem_of_getElem? (i := 41) rfl))
  have hw42 := (hw _ (List.mem_of_getElem? (i := 42) rfl))
  have hw43 := (hw _ (List.mem_of_getElem? (i := 43) rfl))
  have hw44 := (hw _ (List.mem_of_getElem? (i := 44) rfl))
  have hw45 := (hw _ (List.mem_of_getElem? (i := 45) rfl))
  have hw46 := (hw _ (List.mem_of_getElem? (i := 46) rfl))
  have hw75 := (hw _ (List.mem_of_getElem? (i := 75) rfl))
  have hw76 := (hw _ (List.mem_of_getElem? (i := 76) rfl))
  have hw77 := (hw _ (List.mem_of_getElem? (i := 77) rfl))
  have hw85 := (hw _ (List.mem_of_getElem? (i := 85) rfl))
  have hw87 := (hw _ (List.mem_of_getElem? (i := 87) rfl))
  have hw89 := (hw _ (List.mem_of_getElem? (i := 89) rfl))
  have hw90 := (hw _ (List.mem_of_getElem? (i := 90) rfl))
  have hw91 := (hw _ (List.mem_of_getElem? (i := 91) rfl))
  have hw92 := (hw _ (List.mem_of_getElem? (i := 92) rfl))
  have hw93 := (hw _ (List.mem_of_getElem? (i := 93) rfl))
  have hw94 := (hw _ (List.mem_of_getElem? (i := 94) rfl))
  have hw95 := (hw _ (List.mem_of_getElem? (i := 95) rfl))
  have hw96 := (hw _ (List.mem_of_getElem? (i := 96) rfl))
  have hw97 := (hw _ (List.mem_of_getElem? (i := 97) rfl))
  show Go p.tables e below Pf (s₁.setTop (mkF m 0 #[vi is, vi ia, vi ib, .unset, .unset, .unset, .unset, .unset, .unset, .unset, .unset, .unset, .unset, .unset, .unset, .unset, .unset, .unset, .unset, .unset, .unset, .unset] []))
  refine Go.by' (fun t k => (XS.iloadN X0.here hx rfl (hb hby at_0) rfl (XS.iconst X0.here hx rfl (hb hby at_1) (XS.iand X0.here hx rfl (hb hby at_2) rfl (XS.iconst X0.here hx rfl (hb hby at_3) k))))) ?_
  refine Go.by' (fun t k => iremM (g := (mkF m 4 #[vi is, vi ia, vi ib, .unset, .unset, .unset, .unset, .unset, .unset, .unset, .unset, .unset, .unset, .unset, .unset, .unset, .unset, .unset, .unset, .unset, .unset, .unset] [(.int (3 : Int32)), (.int (is &&& (3 : Int32)))])) X0 hx rfl (hb hby at_4) rfl (by decide) k) ?_
  show Go p.tables e below Pf (s₁.setTop (mkF m 5 #[vi is, vi ia, vi ib, .unset, .unset, .unset, .unset, .unset, .unset, .unset, .unset, .unset, .unset, .unset, .unset, .unset, .unset, .unset, .unset, .unset, .unset, .unset] [(.int ((is &&& (3 : Int32)) % (3 : Int32)))]))
  refine Go.by' (fun t k => (XS.istoreN X0.here hx rfl (hb hby at_5) rfl (l' := #[vi is, vi ia, vi ib, vi ((is &&& (3 : Int32)) % (3 : Int32)), .unset, .unset, .unset, .unset, .unset, .unset, .unset, .unset, .unset, .unset, .unset, .unset, .unset, .unset, .unset, .unset, .unset, .unset]) rfl (XS.iloadN X0.here hx rfl (hb hby at_6) rfl (XS.iconst X0.here hx rfl (hb hby at_7) (XS.iushr X0.here hx rfl (hb hby at_8) rfl (XS.iconst X0.here hx rfl (hb hby at_9) (XS.iand X0.here hx rfl (hb hby at_10) rfl (XS.iconst X0.here hx rfl (hb hby at_11) k)))))))) ?_
  refine Go.by' (fun t k => iremM (g := (mkF m 12 #[vi is, vi ia, vi ib, vi ((is &&& (3 : Int32)) % (3 : Int32)), .unset, .unset, .unset, .unset, .unset, .unset, .unset, .unset, .unset, .unset, .unset, .unset, .unset, .unset, .unset, .unset, .unset, .unset] [(.int (3 : Int32)), (.int (((is.toUInt32 >>> ((2 : Int32) &&& 31).toUInt32).toInt32) &&& (3 : Int32)))])) X0 hx rfl (hb hby at_12) rfl (by decide) k) ?_
  show Go p.tables e below Pf (s₁.setTop (mkF m 13 #[vi is, vi ia, vi ib, vi ((is &&& (3 : Int32)) % (3 : Int32)), .unset, .unset, .unset, .unset, .unset, .unset, .unset, .unset, .unset, .unset, .unset, .unset, .unset, .unset, .unset, .unset, .unset, .unset] [(.int ((((is.toUInt32 >>> ((2 : Int32) &&& 31).toUInt32).toInt32) &&& (3 : Int32)) % (3 : Int32)))]))
  refine Go.by' (fun t k => (XS.istore X0.here hx rfl (hb hby at_13) rfl (l' := #[vi is, vi ia, vi ib, vi ((is &&& (3 : Int32)) % (3 : Int32)), vi ((((is.toUInt32 >>> ((2 : Int32) &&& 31).toUInt32).toInt32) &&& (3 : Int32)) % (3 : Int32)), .unset, .unset, .unset, .unset, .unset, .unset, .unset, .unset, .unset, .unset, .unset, .unset, .unset, .unset, .unset, .unset, .unset]) rfl (XS.iloadN X0.here hx rfl (hb hby at_15) rfl (XS.iconst X0.here hx rfl (hb hby at_16) (XS.iushr X0.here hx rfl (hb hby at_17) rfl (XS.iconst X0.here hx rfl (hb hby at_18) (XS.iand X0.here hx rfl (hb hby at_19) rfl k))))))) ?_
  show Go p.tables e below Pf (s₁.setTop (mkF m 20 #[vi is, vi ia, vi ib, vi ((is &&& (3 : Int32)) % (3 : Int32)), vi ((((is.toUInt32 >>> ((2 : Int32) &&& 31).toUInt32).toInt32) &&& (3 : Int32)) % (3 : Int32)), .unset, .unset, .unset, .unset, .unset, .unset, .unset, .unset, .unset, .unset, .unset, .unset, .unset, .unset, .unset, .unset, .unset] [(.int (((is.toUInt32 >>> ((4 : Int32) &&& 31).toUInt32).toInt32) &&& (1 : Int32)))]))
  have jn152 : ∀ (T' : State) (w152_0 : Int32), Like X0 T' → T'.heap = h0 → (((((is.toUInt32 >>> ((4 : Int32) &&& 31).toUInt32).toInt32) &&& (1 : Int32)) = (0 : Int32) ∧ w152_0 = (0 : Int32)) ∨ (¬ ((((is.toUInt32 >>> ((4 : Int32) &&& 31).toUInt32).toInt32) &&& (1 : Int32)) = (0 : Int32)) ∧ w152_0 = (1 : Int32))) → Go p.tables e below Pf (T'.setTop (mkF m 28 #[vi is, vi ia, vi ib, vi ((is &&& (3 : Int32)) % (3 : Int32)), vi ((((is.toUInt32 >>> ((2 : Int32) &&& 31).toUInt32).toInt32) &&& (3 : Int32)) % (3 : Int32)), .unset, .unset, .unset, .unset, .unset, .unset, .unset, .unset, .unset, .unset, .unset, .unset, .unset, .unset, .unset, .unset, .unset] [(.int w152_0)])) := by
    intro T152 w152_0 X152 e152 hm152
    unfold Like at X152
    have bw152_0 : w152_0 = 0 ∨ w152_0 = 1 := by rcases hm152 with ⟨_, h⟩ | ⟨_, h⟩ <;> first | exact Or.inl h | exact Or.inr h
    show Go p.tables e below Pf (T152.setTop (mkF m 28 #[vi is, vi ia, vi ib, vi ((is &&& (3 : Int32)) % (3 : Int32)), vi ((((is.toUInt32 >>> ((2 : Int32) &&& 31).toUInt32).toInt32) &&& (3 : Int32)) % (3 : Int32)), .unset, .unset, .unset, .unset, .unset, .unset, .unset, .unset, .unset, .unset, .unset, .unset, .unset, .unset, .unset, .unset, .unset] [(.int w152_0)]))
    refine Go.by' (fun t k => (XS.istore X152.here hx rfl (hb hby at_28) rfl (l' := #[vi is, vi ia, vi ib, vi ((is &&& (3 : Int32)) % (3 : Int32)), vi ((((is.toUInt32 >>> ((2 : Int32) &&& 31).toUInt32).toInt32) &&& (3 : Int32)) % (3 : Int32)), vi w152_0, .unset, .unset, .unset, .unset, .unset, .unset, .unset, .unset, .unset, .unset, .unset, .unset, .unset, .unset, .unset, .unset]) rfl (XS.iloadN X152.here hx rfl (hb hby at_30) rfl (XS.sipush X152.here hx rfl (hb hby at_31) (XS.iand X152.here hx rfl (hb hby at_34) rfl (XS.istore X152.here hx rfl (hb hby at_35) rfl (l' := #[vi is, vi ia, vi ib, vi ((is &&& (3 : Int32)) % (3 : Int32)), vi ((((is.toUInt32 >>> ((2 : Int32) &&& 31).toUInt32).toInt32) &&& (3 : Int32)) % (3 : Int32)), vi w152_0, vi (ia &&& (255 : Int32)), .unset, .unset, .unset, .unset, .unset, .unset, .unset, .unset, .unset, .unset, .unset, .unset, .unset, .unset, .unset]) rfl (XS.iloadN X152.here hx rfl (hb hby at_37) rfl (XS.bipush X152.here hx rfl (hb hby at_38) (XS.iushr X152.here hx rfl (hb hby at_40) rfl k))))))))) ?_
    show Go p.tables e below Pf (T152.setTop (mkF m 41 #[vi is, vi ia, vi ib, vi ((is &&& (3 : Int32)) % (3 : Int32)), vi ((((is.toUInt32 >>> ((2 : Int32) &&& 31).toUInt32).toInt32) &&& (3 : Int32)) % (3 : Int32)), vi w152_0, vi (ia &&& (255 : Int32)), .unset, .unset, .unset, .unset, .unset, .unset, .unset, .unset, .unset, .unset, .unset, .unset, .unset, .unset, .unset] [(.int ((ia.toUInt32 >>> ((8 : Int32) &&& 31).toUInt32).toInt32))]))
    refine Go.by' (fun t k => (XS.sipush X152.here hx rfl (hb hby at_41) (XS.iand X152.here hx rfl (hb hby at_44) rfl (XS.istore X152.here hx rfl (hb hby at_45) rfl (l' := #[vi is, vi ia, vi ib, vi ((is &&& (3 : Int32)) % (3 : Int32)), vi ((((is.toUInt32 >>> ((2 : Int32) &&& 31).toUInt32).toInt32) &&& (3 : Int32)) % (3 : Int32)), vi w152_0, vi (ia &&& (255 : Int32)), vi (((ia.toUInt32 >>> ((8 : Int32) &&& 31).toUInt32).toInt32) &&& (255 : Int32)), .unset, .unset, .unset, .unset, .unset, .unset, .unset, .unset, .unset, .unset, .unset, .unset, .unset, .unset]) rfl (XS.iloadN X152.here hx rfl (hb hby at_47) rfl (XS.bipush X152.here hx rfl (hb hby at_48) (XS.iushr X152.here hx rfl (hb hby at_50) rfl (XS.sipush X152.here hx rfl (hb hby at_51) (XS.iand X152.here hx rfl (hb hby at_54) rfl k))))))))) ?_
    show Go p.tables e below Pf (T152.setTop (mkF m 55 #[vi is, vi ia, vi ib, vi ((is &&& (3 : Int32)) % (3 : Int32)), vi ((((is.toUInt32 >>> ((2 : Int32) &&& 31).toUInt32).toInt32) &&& (3 : Int32)) % (3 : Int32)), vi w152_0, vi (ia &&& (255 : Int32)), vi (((ia.toUInt32 >>> ((8 : Int32) &&& 31).toUInt32).toInt32) &&& (255 : Int32)), .unset, .unset, .unset, .unset, .unset, .unset, .unset, .unset, .unset, .unset, .unset, .unset, .unset, .unset] [(.int (((ia.toUInt32 >>> ((16 : Int32) &&& 31).toUInt32).toInt32) &&& (255 : Int32)))]))
    refine Go.by' (fun t k => (XS.istore X152.here hx rfl (hb hby at_55) rfl (l' := #[vi is, vi ia, vi ib, vi ((is &&& (3 : Int32)) % (3 : Int32)), vi ((((is.toUInt32 >>> ((2 : Int32) &&& 31).toUInt32).toInt32) &&& (3 : Int32)) % (3 : Int32)), vi w152_0, vi (ia &&& (255 : Int32)), vi (((ia.toUInt32 >>> ((8 : Int32) &&& 31).toUInt32).toInt32) &&& (255 : Int32)), vi (((ia.toUInt32 >>> ((16 : Int32) &&& 31).toUInt32).toInt32) &&& (255 : Int32)), .unset, .unset, .unset, .unset, .unset, .unset, .unset, .unset, .unset, .unset, .unset, .unset, .unset]) rfl (XS.iloadN X152.here hx rfl (hb hby at_57) rfl (XS.bipush X152.here hx rfl (hb hby at_58) (XS.iushr X152.here hx rfl (hb hby at_60) rfl (XS.sipush X152.here hx rfl (hb hby at_61) (XS.iand X152.here hx rfl (hb hby at_64) rfl (XS.istore X152.here hx rfl (hb hby at_65) rfl (l' := #[vi is, vi ia, vi ib, vi ((is &&& (3 : Int32)) % (3 : Int32)), vi ((((is.toUInt32 >>> ((2 : Int32) &&& 31).toUInt32).toInt32) &&& (3 : Int32)) % (3 : Int32)), vi w152_0, vi (ia &&& (255 : Int32)), vi (((ia.toUInt32 >>> ((8 : Int32) &&& 31).toUInt32).toInt32) &&& (255 : Int32)), vi (((ia.toUInt32 >>> ((16 : Int32) &&& 31).toUInt32).toInt32) &&& (255 : Int32)), vi (((ia.toUInt32 >>> ((24 : Int32) &&& 31).toUInt32).toInt32) &&& (255 : Int32)), .unset, .unset, .unset, .unset, .unset, .unset, .unset, .unset, .unset, .unset, .unset, .unset]) rfl (XS.iloadN X152.here hx rfl (hb hby at_67) rfl k))))))))) ?_
    show Go p.tables e below Pf (T152.setTop (mkF m 68 #[vi is, vi ia, vi ib, vi ((is &&& (3 : Int32)) % (3 : Int32)), vi ((((is.toUInt32 >>> ((2 : Int32) &&& 31).toUInt32).toInt32) &&& (3 : Int32)) % (3 : Int32)), vi w152_0, vi (ia &&& (255 : Int32)), vi (((ia.toUInt32 >>> ((8 : Int32) &&& 31).toUInt32).toInt32) &&& (255 : Int32)), vi (((ia.toUInt32 >>> ((16 : Int32) &&& 31).toUInt32).toInt32) &&& (255 : Int32)), vi (((ia.toUInt32 >>> ((24 : Int32) &&& 31).toUInt32).toInt32) &&& (255 : Int32)), .unset, .unset, .unset, .unset, .unset, .unset, .unset, .unset, .unset, .unset, .unset, .unset] [(.int is)]))
    refine Go.by' (fun t k => (XS.iconst X152.here hx rfl (hb hby at_68) (XS.iushr X152.here hx rfl (hb hby at_69) rfl (XS.iconst X152.here hx rfl (hb hby at_70) (XS.iand X152.here hx rfl (hb hby at_71) rfl k))))) ?_
    show Go p.tables e below Pf (T152.setTop (mkF m 72 #[vi is, vi ia, vi ib, vi ((is &&& (3 : Int32)) % (3 : Int32)), vi ((((is.toUInt32 >>> ((2 : Int32) &&& 31).toUInt32).toInt32) &&& (3 : Int32)) % (3 : Int32)), vi w152_0, vi (ia &&& (255 : Int32)), vi (((ia.toUInt32 >>> ((8 : Int32) &&& 31).toUInt32).toInt32) &&& (255 : Int32)), vi (((ia.toUInt32 >>> ((16 : Int32) &&& 31).toUInt32).toInt32) &&& (255 : Int32)), vi (((ia.toUInt32 >>> ((24 : Int32) &&& 31).toUInt32).toInt32) &&& (255 : Int32)), .unset, .unset, .unset, .unset, .unset, .unset, .unset, .unset, .unset, .unset, .unset, .unset] [(.int (((is.toUInt32 >>> ((5 : Int32) &&& 31).toUInt32).toInt32) &&& (1 : Int32)))]))
    have jn154 : ∀ (T' : State) (w154_0 : Int32), Like X152 T' → T'.heap = h0 → (((((is.toUInt32 >>> ((5 : Int32) &&& 31).toUInt32).toInt32) &&& (1 : Int32)) = (0 : Int32) ∧ w154_0 = (ib &&& (255 : Int32))) ∨ (¬ ((((is.toUInt32 >>> ((5 : Int32) &&& 31).toUInt32).toInt32) &&& (1 : Int32)) = (0 : Int32)) ∧ w154_0 = (ia &&& (255 : Int32)))) → Go p.tables e below Pf (T'.setTop (mkF m 85 #[vi is, vi ia, vi ib, vi ((is &&& (3 : Int32)) % (3 : Int32)), vi ((((is.toUInt32 >>> ((2 : Int32) &&& 31).toUInt32).toInt32) &&& (3 : Int32)) % (3 : Int32)), vi w152_0, vi (ia &&& (255 : Int32)), vi (((ia.toUInt32 >>> ((8 : Int32) &&& 31).toUInt32).toInt32) &&& (255 : Int32)), vi (((ia.toUInt32 >>> ((16 : Int32) &&& 31).toUInt32).toInt32) &&& (255 : Int32)), vi (((ia.toUInt32 >>> ((24 : Int32) &&& 31).toUInt32).toInt32) &&& (255 : Int32)), .unset, .unset, .unset, .unset, .unset, .unset, .unset, .unset, .unset, .unset, .unset, .unset] [(.int w154_0)])) := by
      intro T154 w154_0 X154 e154 hm154
      unfold Like at X154
      show Go p.tables e below Pf (T154.setTop (mkF m 85 #[vi is, vi ia, vi ib, vi ((is &&& (3 : Int32)) % (3 : Int32)), vi ((((is.toUInt32 >>> ((2 : Int32) &&& 31).toUInt32).toInt32) &&& (3 : Int32)) % (3 : Int32)), vi w152_0, vi (ia &&& (255 : Int32)), vi (((ia.toUInt32 >>> ((8 : Int32) &&& 31).toUInt32).toInt32) &&& (255 : Int32)), vi (((ia.toUInt32 >>> ((16 : Int32) &&& 31).toUInt32).toInt32) &&& (255 : Int32)), vi (((ia.toUInt32 >>> ((24 : Int32) &&& 31).toUInt32).toInt32) &&& (255 : Int32)), .unset, .unset, .unset, .unset, .unset, .unset, .unset, .unset, .unset, .unset, .unset, .unset] [(.int w154_0)]))
      refine Go.by' (fun t k => (XS.istore X154.here hx rfl (hb hby at_85) rfl (l' := #[vi is, vi ia, vi ib, vi ((is &&& (3 : Int32)) % (3 : Int32)), vi ((((is.toUInt32 >>> ((2 : Int32) &&& 31).toUInt32).toInt32) &&& (3 : Int32)) % (3 : Int32)), vi w152_0, vi (ia &&& (255 : Int32)), vi (((ia.toUInt32 >>> ((8 : Int32) &&& 31).toUInt32).toInt32) &&& (255 : Int32)), vi (((ia.toUInt32 >>> ((16 : Int32) &&& 31).toUInt32).toInt32) &&& (255 : Int32)), vi (((ia.toUInt32 >>> ((24 : Int32) &&& 31).toUInt32).toInt32) &&& (255 : Int32)), vi w154_0, .unset, .unset, .unset, .unset, .unset, .unset, .unset, .unset, .unset, .unset, .unset]) rfl (XS.iloadN X154.here hx rfl (hb hby at_87) rfl (XS.bipush X154.here hx rfl (hb hby at_88) (XS.iushr X154.here hx rfl (hb hby at_90) rfl (XS.iconst X154.here hx rfl (hb hby at_91) (XS.iand X154.here hx rfl (hb hby at_92) rfl k))))))) ?_
      show Go p.tables e below Pf (T154.setTop (mkF m 93 #[vi is, vi ia, vi ib, vi ((is &&& (3 : Int32)) % (3 : Int32)), vi ((((is.toUInt32 >>> ((2 : Int32) &&& 31).toUInt32).toInt32) &&& (3 : Int32)) % (3 : Int32)), vi w152_0, vi (ia &&& (255 : Int32)), vi (((ia.toUInt32 >>> ((8 : Int32) &&& 31).toUInt32).toInt32) &&& (255 : Int32)), vi (((ia.toUInt32 >>> ((16 : Int32) &&& 31).toUInt32).toInt32) &&& (255 : Int32)), vi (((ia.toUInt32 >>> ((24 : Int32) &&& 31).toUInt32).toInt32) &&& (255 : Int32)), vi w154_0, .unset, .unset, .unset, .unset, .unset, .unset, .unset, .unset, .unset, .unset, .unset] [(.int (((is.toUInt32 >>> ((6 : Int32) &&& 31).toUInt32).toInt32) &&& (1 : Int32)))]))
      have jn156 : ∀ (T' : State) (w156_0 : Int32), Like X154 T' → T'.heap = h0 → (((((is.toUInt32 >>> ((6 : Int32) &&& 31).toUInt32).toInt32) &&& (1 : Int32)) = (0 : Int32) ∧ w156_0 = (((ib.toUInt32 >>> ((8 : Int32) &&& 31).toUInt32).toInt32) &&& (255 : Int32))) ∨ (¬ ((((is.toUInt32 >>> ((6 : Int32) &&& 31).toUInt32).toInt32) &&& (1 : Int32)) = (0 : Int32)) ∧ w156_0 = (((ia.toUInt32 >>> ((8 : Int32) &&& 31).toUInt32).toInt32) &&& (255 : Int32)))) → Go p.tables e below Pf (T'.setTop (mkF m 109 #[vi is, vi ia, vi ib, vi ((is &&& (3 : Int32)) % (3 : Int32)), vi ((((is.toUInt32 >>> ((2 : Int32) &&& 31).toUInt32).toInt32) &&& (3 : Int32)) % (3 : Int32)), vi w152_0, vi (ia &&& (255 : Int32)), vi (((ia.toUInt32 >>> ((8 : Int32) &&& 31).toUInt32).toInt32) &&& (255 : Int32)), vi (((ia.toUInt32 >>> ((16 : Int32) &&& 31).toUInt32).toInt32) &&& (255 : Int32)), vi (((ia.toUInt32 >>> ((24 : Int32) &&& 31).toUInt32).toInt32) &&& (255 : Int32)), vi w154_0, .unset, .unset, .unset, .unset, .unset, .unset, .unset, .unset, .unset, .unset, .unset] [(.int w156_0)])) := by
        intro T156 w156_0 X156 e156 hm156
        unfold Like at X156
        show Go p.tables e below Pf (T156.setTop (mkF m 109 #[vi is, vi ia, vi ib, vi ((is &&& (3 : Int32)) % (3 : Int32)), vi ((((is.toUInt32 >>> ((2 : Int32) &&& 31).toUInt32).toInt32) &&& (3 : Int32)) % (3 : Int32)), vi w152_0, vi (ia &&& (255 : Int32)), vi (((ia.toUInt32 >>> ((8 : Int32) &&& 31).toUInt32).toInt32) &&& (255 : Int32)), vi (((ia.toUInt32 >>> ((16 : Int32) &&& 31).toUInt32).toInt32) &&& (255 : Int32)), vi (((ia.toUInt32 >>> ((24 : Int32) &&& 31).toUInt32).toInt32) &&& (255 : Int32)), vi w154_0, .unset, .unset, .unset, .unset, .unset, .unset, .unset, .unset, .unset, .unset, .unset] [(.int w156_0)]))
        refine Go.by' (fun t k => (XS.istore X156.here hx rfl (hb hby at_109) rfl (l' := #[vi is, vi ia, vi ib, vi ((is &&& (3 : Int32)) % (3 : Int32)), vi ((((is.toUInt32 >>> ((2 : Int32) &&& 31).toUInt32).toInt32) &&& (3 : Int32)) % (3 : Int32)), vi w152_0, vi (ia &&& (255 : Int32)), vi (((ia.toUInt32 >>> ((8 : Int32) &&& 31).toUInt32).toInt32) &&& (255 : Int32)), vi (((ia.toUInt32 >>> ((16 : Int32) &&& 31).toUInt32).toInt32) &&& (255 : Int32)), vi (((ia.toUInt32 >>> ((24 : Int32) &&& 31).toUInt32).toInt32) &&& (255 : Int32)), vi w154_0, vi w156_0, .unset, .unset, .unset, .unset, .unset, .unset, .unset, .unset, .unset, .unset]) rfl (XS.iloadN X156.here hx rfl (hb hby at_111) rfl (XS.bipush X156.here hx rfl (hb hby at_112) (XS.iushr X156.here hx rfl (hb hby at_114) rfl (XS.iconst X156.here hx rfl (hb hby at_115) (XS.iand X156.here hx rfl (hb hby at_116) rfl k))))))) ?_
        show Go p.tables e below Pf (T156.setTop (mkF m 117 #[vi is, vi ia, vi ib, vi ((is &&& (3 : Int32)) % (3 : Int32)), vi ((((is.toUInt32 >>> ((2 : Int32) &&& 31).toUInt32).toInt32) &&& (3 : Int32)) % (3 : Int32)), vi w152_0, vi (ia &&& (255 : Int32)), vi (((ia.toUInt32 >>> ((8 : Int32) &&& 31).toUInt32).toInt32) &&& (255 : Int32)), vi (((ia.toUInt32 >>> ((16 : Int32) &&& 31).toUInt32).toInt32) &&& (255 : Int32)), vi (((ia.toUInt32 >>> ((24 : Int32) &&& 31).toUInt32).toInt32) &&& (255 : Int32)), vi w154_0, vi w156_0, .unset, .unset, .unset, .unset, .unset, .unset, .unset, .unset, .unset, .unset] [(.int (((is.toUInt32 >>> ((7 : Int32) &&& 31).toUInt32).toInt32) &&& (1 : Int32)))]))
        have jn158 : ∀ (T' : State) (w158_0 : Int32), Like X156 T' → T'.heap = h0 → (((((is.toUInt32 >>> ((7 : Int32) &&& 31).toUInt32).toInt32) &&& (1 : Int32)) = (0 : Int32) ∧ w158_0 = (((ib.toUInt32 >>> ((16 : Int32) &&& 31).toUInt32).toInt32) &&& (255 : Int32))) ∨ (¬ ((((is.toUInt32 >>> ((7 : Int32) &&& 31).toUInt32).toInt32) &&& (1 : Int32)) = (0 : Int32)) ∧ w158_0 = (((ia.toUInt32 >>> ((16 : Int32) &&& 31).toUInt32).toInt32) &&& (255 : Int32)))) → Go p.tables e below Pf (T'.setTop (mkF m 133 #[vi is, vi ia, vi ib, vi ((is &&& (3 : Int32)) % (3 : Int32)), vi ((((is.toUInt32 >>> ((2 : Int32) &&& 31).toUInt32).toInt32) &&& (3 : Int32)) % (3 : Int32)), vi w152_0, vi (ia &&& (255 : Int32)), vi (((ia.toUInt32 >>> ((8 : Int32) &&& 31).toUInt32).toInt32) &&& (255 : Int32)), vi (((ia.toUInt32 >>> ((16 : Int32) &&& 31).toUInt32).toInt32) &&& (255 : Int32)), vi (((ia.toUInt32 >>> ((24 : Int32) &&& 31).toUInt32).toInt32) &&& (255 : Int32)), vi w154_0, vi w156_0, .unset, .unset, .unset, .unset, .unset, .unset, .unset, .unset, .unset, .unset] [(.int w158_0)])) := by
          intro T158 w158_0 X158 e158 hm158
          unfold Like at X158
          show Go p.tables e below Pf (T158.setTop (mkF m 133 #[vi is, vi ia, vi ib, vi ((is &&& (3 : Int32)) % (3 : Int32)), vi ((((is.toUInt32 >>> ((2 : Int32) &&& 31).toUInt32).toInt32) &&& (3 : Int32)) % (3 : Int32)), vi w152_0, vi (ia &&& (255 : Int32)), vi (((ia.toUInt32 >>> ((8 : Int32) &&& 31).toUInt32).toInt32) &&& (255 : Int32)), vi (((ia.toUInt32 >>> ((16 : Int32) &&& 31).toUInt32).toInt32) &&& (255 : Int32)), vi (((ia.toUInt32 >>> ((24 : Int32) &&& 31).toUInt32).toInt32) &&& (255 : Int32)), vi w154_0, vi w156_0, .unset, .unset, .unset, .unset, .unset, .unset, .unset, .unset, .unset, .unset] [(.int w158_0)]))
          refine Go.by' (fun t k => (XS.istore X158.here hx rfl (hb hby at_133) rfl (l' := #[vi is, vi ia, vi ib, vi ((is &&& (3 : Int32)) % (3 : Int32)), vi ((((is.toUInt32 >>> ((2 : Int32) &&& 31).toUInt32).toInt32) &&& (3 : Int32)) % (3 : Int32)), vi w152_0, vi (ia &&& (255 : Int32)), vi (((ia.toUInt32 >>> ((8 : Int32) &&& 31).toUInt32).toInt32) &&& (255 : Int32)), vi (((ia.toUInt32 >>> ((16 : Int32) &&& 31).toUInt32).toInt32) &&& (255 : Int32)), vi (((ia.toUInt32 >>> ((24 : Int32) &&& 31).toUInt32).toInt32) &&& (255 : Int32)), vi w154_0, vi w156_0, vi w158_0, .unset, .unset, .unset, .unset, .unset, .unset, .unset, .unset, .unset]) rfl (XS.iloadN X158.here hx rfl (hb hby at_135) rfl (XS.bipush X158.here hx rfl (hb hby at_136) (XS.iushr X158.here hx rfl (hb hby at_138) rfl (XS.iconst X158.here hx rfl (hb hby at_139) (XS.iand X158.here hx rfl (hb hby at_140) rfl k))))))) ?_
          show Go p.tables e below Pf (T158.setTop (mkF m 141 #[vi is, vi ia, vi ib, vi ((is &&& (3 : Int32)) % (3 : Int32)), vi ((((is.toUInt32 >>> ((2 : Int32) &&& 31).toUInt32).toInt32) &&& (3 : Int32)) % (3 : Int32)), vi w152_0, vi (ia &&& (255 : Int32)), vi (((ia.toUInt32 >>> ((8 : Int32) &&& 31).toUInt32).toInt32) &&& (255 : Int32)), vi (((ia.toUInt32 >>> ((16 : Int32) &&& 31).toUInt32).toInt32) &&& (255 : Int32)), vi (((ia.toUInt32 >>> ((24 : Int32) &&& 31).toUInt32).toInt32) &&& (255 : Int32)), vi w154_0, vi w156_0, vi w158_0, .unset, .unset, .unset, .unset, .unset, .unset, .unset, .unset, .unset] [(.int (((is.toUInt32 >>> ((8 : Int32) &&& 31).toUInt32).toInt32) &&& (1 : Int32)))]))
          have jn160 : ∀ (T' : State) (w160_0 : Int32), Like X158 T' → T'.heap = h0 → (((((is.toUInt32 >>> ((8 : Int32) &&& 31).toUInt32).toInt32) &&& (1 : Int32)) = (0 : Int32) ∧ w160_0 = (((ib.toUInt32 >>> ((24 : Int32) &&& 31).toUInt32).toInt32) &&& (255 : Int32))) ∨ (¬ ((((is.toUInt32 >>> ((8 : Int32) &&& 31).toUInt32).toInt32) &&& (1 : Int32)) = (0 : Int32)) ∧ w160_0 = (((ia.toUInt32 >>> ((24 : Int32) &&& 31).toUInt32).toInt32) &&& (255 : Int32)))) → Go p.tables e below Pf (T'.setTop (mkF m 157 #[vi is, vi ia, vi ib, vi ((is &&& (3 : Int32)) % (3 : Int32)), vi ((((is.toUInt32 >>> ((2 : Int32) &&& 31).toUInt32).toInt32) &&& (3 : Int32)) % (3 : Int32)), vi w152_0, vi (ia &&& (255 : Int32)), vi (((ia.toUInt32 >>> ((8 : Int32) &&& 31).toUInt32).toInt32) &&& (255 : Int32)), vi (((ia.toUInt32 >>> ((16 : Int32) &&& 31).toUInt32).toInt32) &&& (255 : Int32)), vi (((ia.toUInt32 >>> ((24 : Int32) &&& 31).toUInt32).toInt32) &&& (255 : Int32)), vi w154_0, vi w156_0, vi w158_0, .unset, .unset, .unset, .unset, .unset, .unset, .unset, .unset, .unset] [(.int w160_0)])) := by
            intro T160 w160_0 X160 e160 hm160
            unfold Like at X160
            show Go p.tables e below Pf (T160.setTop (mkF m 157 #[vi is, vi ia, vi ib, vi ((is &&& (3 : Int32)) % (3 : Int32)), vi ((((is.toUInt32 >>> ((2 : Int32) &&& 31).toUInt32).toInt32) &&& (3 : Int32)) % (3 : Int32)), vi w152_0, vi (ia &&& (255 : Int32)), vi (((ia.toUInt32 >>> ((8 : Int32) &&& 31).toUInt32).toInt32) &&& (255 : Int32)), vi (((ia.toUInt32 >>> ((16 : Int32) &&& 31).toUInt32).toInt32) &&& (255 : Int32)), vi (((ia.toUInt32 >>> ((24 : Int32) &&& 31).toUInt32).toInt32) &&& (255 : Int32)), vi w154_0, vi w156_0, vi w158_0, .unset, .unset, .unset, .unset, .unset, .unset, .unset, .unset, .unset] [(.int w160_0)]))
            refine Go.by' (fun t k => (XS.istore X160.here hx rfl (hb hby at_157) rfl (l' := #[vi is, vi ia, vi ib, vi ((is &&& (3 : Int32)) % (3 : Int32)), vi ((((is.toUInt32 >>> ((2 : Int32) &&& 31).toUInt32).toInt32) &&& (3 : Int32)) % (3 : Int32)), vi w152_0, vi (ia &&& (255 : Int32)), vi (((ia.toUInt32 >>> ((8 : Int32) &&& 31).toUInt32).toInt32) &&& (255 : Int32)), vi (((ia.toUInt32 >>> ((16 : Int32) &&& 31).toUInt32).toInt32) &&& (255 : Int32)), vi (((ia.toUInt32 >>> ((24 : Int32) &&& 31).toUInt32).toInt32) &&& (255 : Int32)), vi w154_0, vi w156_0, vi w158_0, vi w160_0, .unset, .unset, .unset, .unset, .unset, .unset, .unset, .unset]) rfl (XS.iloadN X160.here hx rfl (hb hby at_159) rfl (XS.bipush X160.here hx rfl (hb hby at_160) (XS.iushr X160.here hx rfl (hb hby at_162) rfl (XS.iconst X160.here hx rfl (hb hby at_163) (XS.iand X160.here hx rfl (hb hby at_164) rfl k))))))) ?_
            show Go p.tables e below Pf (T160.setTop (mkF m 165 #[vi is, vi ia, vi ib, vi ((is &&& (3 : Int32)) % (3 : Int32)), vi ((((is.toUInt32 >>> ((2 : Int32) &&& 31).toUInt32).toInt32) &&& (3 : Int32)) % (3 : Int32)), vi w152_0, vi (ia &&& (255 : Int32)), vi (((ia.toUInt32 >>> ((8 : Int32) &&& 31).toUInt32).toInt32) &&& (255 : Int32)), vi (((ia.toUInt32 >>> ((16 : Int32) &&& 31).toUInt32).toInt32) &&& (255 : Int32)), vi (((ia.toUInt32 >>> ((24 : Int32) &&& 31).toUInt32).toInt32) &&& (255 : Int32)), vi w154_0, vi w156_0, vi w158_0, vi w160_0, .unset, .unset, .unset, .unset, .unset, .unset, .unset, .unset] [(.int (((is.toUInt32 >>> ((9 : Int32) &&& 31).toUInt32).toInt32) &&& (1 : Int32)))]))
            have jn162 : ∀ (T' : State) (w162_0 : Int32), Like X160 T' → T'.heap = h0 → (((((is.toUInt32 >>> ((9 : Int32) &&& 31).toUInt32).toInt32) &&& (1 : Int32)) = (0 : Int32) ∧ w162_0 = (0 : Int32)) ∨ (¬ ((((is.toUInt32 >>> ((9 : Int32) &&& 31).toUInt32).toInt32) &&& (1 : Int32)) = (0 : Int32)) ∧ w162_0 = (1 : Int32))) → Go p.tables e below Pf (T'.setTop (mkF m 173 #[vi is, vi ia, vi ib, vi ((is &&& (3 : Int32)) % (3 : Int32)), vi ((((is.toUInt32 >>> ((2 : Int32) &&& 31).toUInt32).toInt32) &&& (3 : Int32)) % (3 : Int32)), vi w152_0, vi (ia &&& (255 : Int32)), vi (((ia.toUInt32 >>> ((8 : Int32) &&& 31).toUInt32).toInt32) &&& (255 : Int32)), vi (((ia.toUInt32 >>> ((16 : Int32) &&& 31).toUInt32).toInt32) &&& (255 : Int32)), vi (((ia.toUInt32 >>> ((24 : Int32) &&& 31).toUInt32).toInt32) &&& (255 : Int32)), vi w154_0, vi w156_0, vi w158_0, vi w160_0, .unset, .unset, .unset, .unset, .unset, .unset, .unset, .unset] [(.int w162_0)])) := by
              intro T162 w162_0 X162 e162 hm162
              unfold Like at X162
              have bw162_0 : w162_0 = 0 ∨ w162_0 = 1 := by rcases hm162 with ⟨_, h⟩ | ⟨_, h⟩ <;> first | exact Or.inl h | exact Or.inr h
              show Go p.tables e below Pf (T162.setTop (mkF m 173 #[vi is, vi ia, vi ib, vi ((is &&& (3 : Int32)) % (3 : Int32)), vi ((((is.toUInt32 >>> ((2 : Int32) &&& 31).toUInt32).toInt32) &&& (3 : Int32)) % (3 : Int32)), vi w152_0, vi (ia &&& (255 : Int32)), vi (((ia.toUInt32 >>> ((8 : Int32) &&& 31).toUInt32).toInt32) &&& (255 : Int32)), vi (((ia.toUInt32 >>> ((16 : Int32) &&& 31).toUInt32).toInt32) &&& (255 : Int32)), vi (((ia.toUInt32 >>> ((24 : Int32) &&& 31).toUInt32).toInt32) &&& (255 : Int32)), vi w154_0, vi w156_0, vi w158_0, vi w160_0, .unset, .unset, .unset, .unset, .unset, .unset, .unset, .unset] [(.int w162_0)]))
              refine Go.by' (fun t k => (XS.istore X162.here hx rfl (hb hby at_173) rfl (l' := #[vi is, vi ia, vi ib, vi ((is &&& (3 : Int32)) % (3 : Int32)), vi ((((is.toUInt32 >>> ((2 : Int32) &&& 31).toUInt32).toInt32) &&& (3 : Int32)) % (3 : Int32)), vi w152_0, vi (ia &&& (255 : Int32)), vi (((ia.toUInt32 >>> ((8 : Int32) &&& 31).toUInt32).toInt32) &&& (255 : Int32)), vi (((ia.toUInt32 >>> ((16 : Int32) &&& 31).toUInt32).toInt32) &&& (255 : Int32)), vi (((ia.toUInt32 >>> ((24 : Int32) &&& 31).toUInt32).toInt32) &&& (255 : Int32)), vi w154_0, vi w156_0, vi w158_0, vi w160_0, vi w162_0, .unset, .unset, .unset, .unset, .unset, .unset, .unset]) rfl (XS.iloadN X162.here hx rfl (hb hby at_175) rfl (XS.bipush X162.here hx rfl (hb hby at_176) (XS.iushr X162.here hx rfl (hb hby at_178) rfl (XS.iconst X162.here hx rfl (hb hby at_179) (XS.iand X162.here hx rfl (hb hby at_180) rfl k))))))) ?_
              show Go p.tables e below Pf (T162.setTop (mkF m 181 #[vi is, vi ia, vi ib, vi ((is &&& (3 : Int32)) % (3 : Int32)), vi ((((is.toUInt32 >>> ((2 : Int32) &&& 31).toUInt32).toInt32) &&& (3 : Int32)) % (3 : Int32)), vi w152_0, vi (ia &&& (255 : Int32)), vi (((ia.toUInt32 >>> ((8 : Int32) &&& 31).toUInt32).toInt32) &&& (255 : Int32)), vi (((ia.toUInt32 >>> ((16 : Int32) &&& 31).toUInt32).toInt32) &&& (255 : Int32)), vi (((ia.toUInt32 >>> ((24 : Int32) &&& 31).toUInt32).toInt32) &&& (255 : Int32)), vi w154_0, vi w156_0, vi w158_0, vi w160_0, vi w162_0, .unset, .unset, .unset, .unset, .unset, .unset, .unset] [(.int (((is.toUInt32 >>> ((10 : Int32) &&& 31).toUInt32).toInt32) &&& (1 : Int32)))]))
              have jn164 : ∀ (T' : State) (w164_0 : Int32), Like X162 T' → T'.heap = h0 → (((((is.toUInt32 >>> ((10 : Int32) &&& 31).toUInt32).toInt32) &&& (1 : Int32)) = (0 : Int32) ∧ w164_0 = (0 : Int32)) ∨ (¬ ((((is.toUInt32 >>> ((10 : Int32) &&& 31).toUInt32).toInt32) &&& (1 : Int32)) = (0 : Int32)) ∧ w164_0 = (1 : Int32))) → Go p.tables e below Pf (T'.setTop (mkF m 189 #[vi is, vi ia, vi ib, vi ((is &&& (3 : Int32)) % (3 : Int32)), vi ((((is.toUInt32 >>> ((2 : Int32) &&& 31).toUInt32).toInt32) &&& (3 : Int32)) % (3 : Int32)), vi w152_0, vi (ia &&& (255 : Int32)), vi (((ia.toUInt32 >>> ((8 : Int32) &&& 31).toUInt32).toInt32) &&& (255 : Int32)), vi (((ia.toUInt32 >>> ((16 : Int32) &&& 31).toUInt32).toInt32) &&& (255 : Int32)), vi (((ia.toUInt32 >>> ((24 : Int32) &&& 31).toUInt32).toInt32) &&& (255 : Int32)), vi w154_0, vi w156_0, vi w158_0, vi w160_0, vi w162_0, .unset, .unset, .unset, .unset, .unset, .unset, .unset] [(.int w164_0)])) := by
                intro T164 w164_0 X164 e164 hm164
                unfold Like at X164
                have bw164_0 : w164_0 = 0 ∨ w164_0 = 1 := by rcases hm164 with ⟨_, h⟩ | ⟨_, h⟩ <;> first | exact Or.inl h | exact Or.inr h
                show Go p.tables e below Pf (T164.setTop (mkF m 189 #[vi is, vi ia, vi ib, vi ((is &&& (3 : Int32)) % (3 : Int32)), vi ((((is.toUInt32 >>> ((2 : Int32) &&& 31).toUInt32).toInt32) &&& (3 : Int32)) % (3 : Int32)), vi w152_0, vi (ia &&& (255 : Int32)), vi (((ia.toUInt32 >>> ((8 : Int32) &&& 31).toUInt32).toInt32) &&& (255 : Int32)), vi (((ia.toUInt32 >>> ((16 : Int32) &&& 31).toUInt32).toInt32) &&& (255 : Int32)), vi (((ia.toUInt32 >>> ((24 : Int32) &&& 31).toUInt32).toInt32) &&& (255 : Int32)), vi w154_0, vi w156_0, vi w158_0, vi w160_0, vi w162_0, .unset, .unset, .unset, .unset, .unset, .unset, .unset] [(.int w164_0)]))
                refine Go.by' (fun t k => (XS.istore X164.here hx rfl (hb hby at_189) rfl (l' := #[vi is, vi ia, vi ib, vi ((is &&& (3 : Int32)) % (3 : Int32)), vi ((((is.toUInt32 >>> ((2 : Int32) &&& 31).toUInt32).toInt32) &&& (3 : Int32)) % (3 : Int32)), vi w152_0, vi (ia &&& (255 : Int32)), vi (((ia.toUInt32 >>> ((8 : Int32) &&& 31).toUInt32).toInt32) &&& (255 : Int32)), vi (((ia.toUInt32 >>> ((16 : Int32) &&& 31).toUInt32).toInt32) &&& (255 : Int32)), vi (((ia.toUInt32 >>> ((24 : Int32) &&& 31).toUInt32).toInt32) &&& (255 : Int32)), vi w154_0, vi w156_0, vi w158_0, vi w160_0, vi w162_0, vi w164_0, .unset, .unset, .unset, .unset, .unset, .unset]) rfl (XS.iloadN X164.here hx rfl (hb hby at_191) rfl (XS.bipush X164.here hx rfl (hb hby at_192) (XS.iushr X164.here hx rfl (hb hby at_194) rfl (XS.iconst X164.here hx rfl (hb hby at_195) (XS.iand X164.here hx rfl (hb hby at_196) rfl k))))))) ?_
                show Go p.tables e below Pf (T164.setTop (mkF m 197 #[vi is, vi ia, vi ib, vi ((is &&& (3 : Int32)) % (3 : Int32)), vi ((((is.toUInt32 >>> ((2 : Int32) &&& 31).toUInt32).toInt32) &&& (3 : Int32)) % (3 : Int32)), vi w152_0, vi (ia &&& (255 : Int32)), vi (((ia.toUInt32 >>> ((8 : Int32) &&& 31).toUInt32).toInt32) &&& (255 : Int32)), vi (((ia.toUInt32 >>> ((16 : Int32) &&& 31).toUInt32).toInt32) &&& (255 : Int32)), vi (((ia.toUInt32 >>> ((24 : Int32) &&& 31).toUInt32).toInt32) &&& (255 : Int32)), vi w154_0, vi w156_0, vi w158_0, vi w160_0, vi w162_0, vi w164_0, .unset, .unset, .unset, .unset, .unset, .unset] [(.int (((is.toUInt32 >>> ((11 : Int32) &&& 31).toUInt32).toInt32) &&& (1 : Int32)))]))
                have jn166 : ∀ (T' : State) (w166_0 : Int32), Like X164 T' → T'.heap = h0 → (((((is.toUInt32 >>> ((11 : Int32) &&& 31).toUInt32).toInt32) &&& (1 : Int32)) = (0 : Int32) ∧ w166_0 = (0 : Int32)) ∨ (¬ ((((is.toUInt32 >>> ((11 : Int32) &&& 31).toUInt32).toInt32) &&& (1 : Int32)) = (0 : Int32)) ∧ w166_0 = (1 : Int32))) → Go p.tables e below Pf (T'.setTop (mkF m 205 #[vi is, vi ia, vi ib, vi ((is &&& (3 : Int32)) % (3 : Int32)), vi ((((is.toUInt32 >>> ((2 : Int32) &&& 31).toUInt32).toInt32) &&& (3 : Int32)) % (3 : Int32)), vi w152_0, vi (ia &&& (255 : Int32)), vi (((ia.toUInt32 >>> ((8 : Int32) &&& 31).toUInt32).toInt32) &&& (255 : Int32)), vi (((ia.toUInt32 >>> ((16 : Int32) &&& 31).toUInt32).toInt32) &&& (255 : Int32)), vi (((ia.toUInt32 >>> ((24 : Int32) &&& 31).toUInt32).toInt32) &&& (255 : Int32)), vi w154_0, vi w156_0, vi w158_0, vi w160_0, vi w162_0, vi w164_0, .unset, .unset, .unset, .unset, .unset, .unset] [(.int w166_0)])) := by
                  intro T166 w166_0 X166 e166 hm166
                  unfold Like at X166
                  have bw166_0 : w166_0 = 0 ∨ w166_0 = 1 := by rcases hm166 with ⟨_, h⟩ | ⟨_, h⟩ <;> first | exact Or.inl h | exact Or.inr h
                  show Go p.tables e below Pf (T166.setTop (mkF m 205 #[vi is, vi ia, vi ib, vi ((is &&& (3 : Int32)) % (3 : Int32)), vi ((((is.toUInt32 >>> ((2 : Int32) &&& 31).toUInt32).toInt32) &&& (3 : Int32)) % (3 : Int32)), vi w152_0, vi (ia &&& (255 : Int32)), vi (((ia.toUInt32 >>> ((8 : Int32) &&& 31).toUInt32).toInt32) &&& (255 : Int32)), vi (((ia.toUInt32 >>> ((16 : Int32) &&& 31).toUInt32).toInt32) &&& (255 : Int32)), vi (((ia.toUInt32 >>> ((24 : Int32) &&& 31).toUInt32).toInt32) &&& (255 : Int32)), vi w154_0, vi w156_0, vi w158_0, vi w160_0, vi w162_0, vi w164_0, .unset, .unset, .unset, .unset, .unset, .unset] [(.int w166_0)]))
                  refine Go.by' (fun t k => (XS.istore X166.here hx rfl (hb hby at_205) rfl (l' := #[vi is, vi ia, vi ib, vi ((is &&& (3 : Int32)) % (3 : Int32)), vi ((((is.toUInt32 >>> ((2 : Int32) &&& 31).toUInt32).toInt32) &&& (3 : Int32)) % (3 : Int32)), vi w152_0, vi (ia &&& (255 : Int32)), vi (((ia.toUInt32 >>> ((8 : Int32) &&& 31).toUInt32).toInt32) &&& (255 : Int32)), vi (((ia.toUInt32 >>> ((16 : Int32) &&& 31).toUInt32).toInt32) &&& (255 : Int32)), vi (((ia.toUInt32 >>> ((24 : Int32) &&& 31).toUInt32).toInt32) &&& (255 : Int32)), vi w154_0, vi w156_0, vi w158_0, vi w160_0, vi w162_0, vi w164_0, vi w166_0, .unset, .unset, .unset, .unset, .unset]) rfl (XS.iloadN X166.here hx rfl (hb hby at_207) rfl (XS.bipush X166.here hx rfl (hb hby at_208) (XS.iushr X166.here hx rfl (hb hby at_210) rfl (XS.iconst X166.here hx rfl (hb hby at_211) (XS.iand X166.here hx rfl (hb hby at_212) rfl k))))))) ?_
                  show Go p.tables e below Pf (T166.setTop (mkF m 213 #[vi is, vi ia, vi ib, vi ((is &&& (3 : Int32)) % (3 : Int32)), vi ((((is.toUInt32 >>> ((2 : Int32) &&& 31).toUInt32).toInt32) &&& (3 : Int32)) % (3 : Int32)), vi w152_0, vi (ia &&& (255 : Int32)), vi (((ia.toUInt32 >>> ((8 : Int32) &&& 31).toUInt32).toInt32) &&& (255 : Int32)), vi (((ia.toUInt32 >>> ((16 : Int32) &&& 31).toUInt32).toInt32) &&& (255 : Int32)), vi (((ia.toUInt32 >>> ((24 : Int32) &&& 31).toUInt32).toInt32) &&& (255 : Int32)), vi w154_0, vi w156_0, vi w158_0, vi w160_0, vi w162_0, vi w164_0, vi w166_0, .unset, .unset, .unset, .unset, .unset] [(.int (((is.toUInt32 >>> ((12 : Int32) &&& 31).toUInt32).toInt32) &&& (1 : Int32)))]))
                  have jn168 : ∀ (T' : State) (w168_0 : Int32), Like X166 T' → T'.heap = h0 → (((((is.toUInt32 >>> ((12 : Int32) &&& 31).toUInt32).toInt32) &&& (1 : Int32)) = (0 : Int32) ∧ w168_0 = (0 : Int32)) ∨ (¬ ((((is.toUInt32 >>> ((12 : Int32) &&& 31).toUInt32).toInt32) &&& (1 : Int32)) = (0 : Int32)) ∧ w168_0 = (1 : Int32))) → Go p.tables e below Pf (T'.setTop (mkF m 221 #[vi is, vi ia, vi ib, vi ((is &&& (3 : Int32)) % (3 : Int32)), vi ((((is.toUInt32 >>> ((2 : Int32) &&& 31).toUInt32).toInt32) &&& (3 : Int32)) % (3 : Int32)), vi w152_0, vi (ia &&& (255 : Int32)), vi (((ia.toUInt32 >>> ((8 : Int32) &&& 31).toUInt32).toInt32) &&& (255 : Int32)), vi (((ia.toUInt32 >>> ((16 : Int32) &&& 31).toUInt32).toInt32) &&& (255 : Int32)), vi (((ia.toUInt32 >>> ((24 : Int32) &&& 31).toUInt32).toInt32) &&& (255 : Int32)), vi w154_0, vi w156_0, vi w158_0, vi w160_0, vi w162_0, vi w164_0, vi w166_0, .unset, .unset, .unset, .unset, .unset] [(.int w168_0)])) := by
                    intro T168 w168_0 X168 e168 hm168
                    unfold Like at X168
                    have bw168_0 : w168_0 = 0 ∨ w168_0 = 1 := by rcases hm168 with ⟨_, h⟩ | ⟨_, h⟩ <;> first | exact Or.inl h | exact Or.inr h
                    show Go p.tables e below Pf (T168.setTop (mkF m 221 #[vi is, vi ia, vi ib, vi ((is &&& (3 : Int32)) % (3 : Int32)), vi ((((is.toUInt32 >>> ((2 : Int32) &&& 31).toUInt32).toInt32) &&& (3 : Int32)) % (3 : Int32)), vi w152_0, vi (ia &&& (255 : Int32)), vi (((ia.toUInt32 >>> ((8 : Int32) &&& 31).toUInt32).toInt32) &&& (255 : Int32)), vi (((ia.toUInt32 >>> ((16 : Int32) &&& 31).toUInt32).toInt32) &&& (255 : Int32)), vi (((ia.toUInt32 >>> ((24 : Int32) &&& 31).toUInt32).toInt32) &&& (255 : Int32)), vi w154_0, vi w156_0, vi w158_0, vi w160_0, vi w162_0, vi w164_0, vi w166_0, .unset, .unset, .unset, .unset, .unset] [(.int w168_0)]))
                    refine Go.by' (fun t k => (XS.istore X168.here hx rfl (hb hby at_221) rfl (l' := #[vi is, vi ia, vi ib, vi ((is &&& (3 : Int32)) % (3 : Int32)), vi ((((is.toUInt32 >>> ((2 : Int32) &&& 31).toUInt32).toInt32) &&& (3 : Int32)) % (3 : Int32)), vi w152_0, vi (ia &&& (255 : Int32)), vi (((ia.toUInt32 >>> ((8 : Int32) &&& 31).toUInt32).toInt32) &&& (255 : Int32)), vi (((ia.toUInt32 >>> ((16 : Int32) &&& 31).toUInt32).toInt32) &&& (255 : Int32)), vi (((ia.toUInt32 >>> ((24 : Int32) &&& 31).toUInt32).toInt32) &&& (255 : Int32)), vi w154_0, vi w156_0, vi w158_0, vi w160_0, vi w162_0, vi w164_0, vi w166_0, vi w168_0, .unset, .unset, .unset, .unset]) rfl k)) ?_
                    obtain ⟨q6, hq6⟩ : ∃ z, (ia &&& (255 : Int32)) = z := ⟨_, rfl⟩
                    have bd6 : ¬ q6 < (0 : Int32) ∧ ¬ (255 : Int32) < q6 := hq6 ▸ own_m _
                    show Go p.tables e below Pf (T168.setTop (mkF m 223 #[vi is, vi ia, vi ib, vi ((is &&& (3 : Int32)) % (3 : Int32)), vi ((((is.toUInt32 >>> ((2 : Int32) &&& 31).toUInt32).toInt32) &&& (3 : Int32)) % (3 : Int32)), vi w152_0, vi (ia &&& (255 : Int32)), vi (((ia.toUInt32 >>> ((8 : Int32) &&& 31).toUInt32).toInt32) &&& (255 : Int32)), vi (((ia.toUInt32 >>> ((16 : Int32) &&& 31).toUInt32).toInt32) &&& (255 : Int32)), vi (((ia.toUInt32 >>> ((24 : Int32) &&& 31).toUInt32).toInt32) &&& (255 : Int32)), vi w154_0, vi w156_0, vi w158_0, vi w160_0, vi w162_0, vi w164_0, vi w166_0, vi w168_0, .unset, .unset, .unset, .unset] []))
                    refine Go.castF (a := (ia &&& (255 : Int32))) (b := q6) (fun z' : Int32 => mkF m 223 #[vi is, vi ia, vi ib, vi ((is &&& (3 : Int32)) % (3 : Int32)), vi ((((is.toUInt32 >>> ((2 : Int32) &&& 31).toUInt32).toInt32) &&& (3 : Int32)) % (3 : Int32)), vi w152_0, vi z', vi (((ia.toUInt32 >>> ((8 : Int32) &&& 31).toUInt32).toInt32) &&& (255 : Int32)), vi (((ia.toUInt32 >>> ((16 : Int32) &&& 31).toUInt32).toInt32) &&& (255 : Int32)), vi (((ia.toUInt32 >>> ((24 : Int32) &&& 31).toUInt32).toInt32) &&& (255 : Int32)), vi w154_0, vi w156_0, vi w158_0, vi w160_0, vi w162_0, vi w164_0, vi w166_0, vi w168_0, .unset, .unset, .unset, .unset] []) (hq6) ?_
                    obtain ⟨q7, hq7⟩ : ∃ z, (((ia.toUInt32 >>> ((8 : Int32) &&& 31).toUInt32).toInt32) &&& (255 : Int32)) = z := ⟨_, rfl⟩
                    have bd7 : ¬ q7 < (0 : Int32) ∧ ¬ (255 : Int32) < q7 := hq7 ▸ own_m _
                    refine Go.castF (a := (((ia.toUInt32 >>> ((8 : Int32) &&& 31).toUInt32).toInt32) &&& (255 : Int32))) (b := q7) (fun z' : Int32 => mkF m 223 #[vi is, vi ia, vi ib, vi ((is &&& (3 : Int32)) % (3 : Int32)), vi ((((is.toUInt32 >>> ((2 : Int32) &&& 31).toUInt32).toInt32) &&& (3 : Int32)) % (3 : Int32)), vi w152_0, vi q6, vi z', vi (((ia.toUInt32 >>> ((16 : Int32) &&& 31).toUInt32).toInt32) &&& (255 : Int32)), vi (((ia.toUInt32 >>> ((24 : Int32) &&& 31).toUInt32).toInt32) &&& (255 : Int32)), vi w154_0, vi w156_0, vi w158_0, vi w160_0, vi w162_0, vi w164_0, vi w166_0, vi w168_0, .unset, .unset, .unset, .unset] []) (hq7) ?_
                    obtain ⟨q8, hq8⟩ : ∃ z, (((ia.toUInt32 >>> ((16 : Int32) &&& 31).toUInt32).toInt32) &&& (255 : Int32)) = z := ⟨_, rfl⟩
                    have bd8 : ¬ q8 < (0 : Int32) ∧ ¬ (255 : Int32) < q8 := hq8 ▸ own_m _
                    refine Go.castF (a := (((ia.toUInt32 >>> ((16 : Int32) &&& 31).toUInt32).toInt32) &&& (255 : Int32))) (b := q8) (fun z' : Int32 => mkF m 223 #[vi is, vi ia, vi ib, vi ((is &&& (3 : Int32)) % (3 : Int32)), vi ((((is.toUInt32 >>> ((2 : Int32) &&& 31).toUInt32).toInt32) &&& (3 : Int32)) % (3 : Int32)), vi w152_0, vi q6, vi q7, vi z', vi (((ia.toUInt32 >>> ((24 : Int32) &&& 31).toUInt32).toInt32) &&& (255 : Int32)), vi w154_0, vi w156_0, vi w158_0, vi w160_0, vi w162_0, vi w164_0, vi w166_0, vi w168_0, .unset, .unset, .unset, .unset] []) (hq8) ?_
                    obtain ⟨q9, hq9⟩ : ∃ z, (((ia.toUInt32 >>> ((24 : Int32) &&& 31).toUInt32).toInt32) &&& (255 : Int32)) = z := ⟨_, rfl⟩
                    have bd9 : ¬ q9 < (0 : Int32) ∧ ¬ (255 : Int32) < q9 := hq9 ▸ own_m _
                    refine Go.castF (a := (((ia.toUInt32 >>> ((24 : Int32) &&& 31).toUInt32).toInt32) &&& (255 : Int32))) (b := q9) (fun z' : Int32 => mkF m 223 #[vi is, vi ia, vi ib, vi ((is &&& (3 : Int32)) % (3 : Int32)), vi ((((is.toUInt32 >>> ((2 : Int32) &&& 31).toUInt32).toInt32) &&& (3 : Int32)) % (3 : Int32)), vi w152_0, vi q6, vi q7, vi q8, vi z', vi w154_0, vi w156_0, vi w158_0, vi w160_0, vi w162_0, vi w164_0, vi w166_0, vi w168_0, .unset, .unset, .unset, .unset] []) (hq9) ?_
                    have bd10 : ¬ w154_0 < (0 : Int32) ∧ ¬ (255 : Int32) < w154_0 := by rcases hm154 with ⟨_, h⟩ | ⟨_, h⟩ <;> rw [h] <;> exact own_m _
                    have bd11 : ¬ w156_0 < (0 : Int32) ∧ ¬ (255 : Int32) < w156_0 := by rcases hm156 with ⟨_, h⟩ | ⟨_, h⟩ <;> rw [h] <;> exact own_m _
                    have bd12 : ¬ w158_0 < (0 : Int32) ∧ ¬ (255 : Int32) < w158_0 := by rcases hm158 with ⟨_, h⟩ | ⟨_, h⟩ <;> rw [h] <;> exact own_m _
                    have bd13 : ¬ w160_0 < (0 : Int32) ∧ ¬ (255 : Int32) < w160_0 := by rcases hm160 with ⟨_, h⟩ | ⟨_, h⟩ <;> rw [h] <;> exact own_m _
                    show Go p.tables e below Pf (T168.setTop (mkF m 223 #[vi is, vi ia, vi ib, vi ((is &&& (3 : Int32)) % (3 : Int32)), vi ((((is.toUInt32 >>> ((2 : Int32) &&& 31).toUInt32).toInt32) &&& (3 : Int32)) % (3 : Int32)), vi w152_0, vi q6, vi q7, vi q8, vi q9, vi w154_0, vi w156_0, vi w158_0, vi w160_0, vi w162_0, vi w164_0, vi w166_0, vi w168_0, .unset, .unset, .unset, .unset] []))
                    rcases own_k is with hk | hk | hk
                    · refine Go.castF (a := ((is &&& (3 : Int32)) % (3 : Int32))) (b := (0 : Int32)) (fun z' : Int32 => mkF m 223 #[vi is, vi ia, vi ib, vi z', vi ((((is.toUInt32 >>> ((2 : Int32) &&& 31).toUInt32).toInt32) &&& (3 : Int32)) % (3 : Int32)), vi w152_0, vi q6, vi q7, vi q8, vi q9, vi w154_0, vi w156_0, vi w158_0, vi w160_0, vi w162_0, vi w164_0, vi w166_0, vi w168_0, .unset, .unset, .unset, .unset] []) (hk) ?_
                      show Go p.tables e below Pf (T168.setTop (mkF m 223 #[vi is, vi ia, vi ib, vi (0 : Int32), vi ((((is.toUInt32 >>> ((2 : Int32) &&& 31).toUInt32).toInt32) &&& (3 : Int32)) % (3 : Int32)), vi w152_0, vi q6, vi q7, vi q8, vi q9, vi w154_0, vi w156_0, vi w158_0, vi w160_0, vi w162_0, vi w164_0, vi w166_0, vi w168_0, .unset, .unset, .unset, .unset] []))
                      rcases bw152_0 with hz | hz
                      · refine Go.castF (a := w152_0) (b := (0 : Int32)) (fun z' : Int32 => mkF m 223 #[vi is, vi ia, vi ib, vi (0 : Int32), vi ((((is.toUInt32 >>> ((2 : Int32) &&& 31).toUInt32).toInt32) &&& (3 : Int32)) % (3 : Int32)), vi z', vi q6, vi q7, vi q8, vi q9, vi w154_0, vi w156_0, vi w158_0, vi w160_0, vi w162_0, vi w164_0, vi w166_0, vi w168_0, .unset, .unset, .unset, .unset] []) (hz) ?_
                        show Go p.tables e below Pf (T168.setTop (mkF m 223 #[vi is, vi ia, vi ib, vi (0 : Int32), vi ((((is.toUInt32 >>> ((2 : Int32) &&& 31).toUInt32).toInt32) &&& (3 : Int32)) % (3 : Int32)), vi (0 : Int32), vi q6, vi q7, vi q8, vi q9, vi w154_0, vi w156_0, vi w158_0, vi w160_0, vi w162_0, vi w164_0, vi w166_0, vi w168_0, .unset, .unset, .unset, .unset] []))
                        rcases own_k _ with hm | hm | hm
                        · refine Go.castF (a := ((((is.toUInt32 >>> ((2 : Int32) &&& 31).toUInt32).toInt32) &&& (3 : Int32)) % (3 : Int32))) (b := (0 : Int32)) (fun z' : Int32 => mkF m 223 #[vi is, vi ia, vi ib, vi (0 : Int32), vi z', vi (0 : Int32), vi q6, vi q7, vi q8, vi q9, vi w154_0, vi w156_0, vi w158_0, vi w160_0, vi w162_0, vi w164_0, vi w166_0, vi w168_0, .unset, .unset, .unset, .unset] []) (hm) ?_
                          obtain ⟨T169, h169, X169, e169, E169, A169, D169, -, st169⟩ := newO X168 hx hZ hown hw0 hw1 hw2 e168 (g := (mkF m 223 #[vi is, vi ia, vi ib, vi (0 : Int32), vi (0 : Int32), vi (0 : Int32), vi q6, vi q7, vi q8, vi q9, vi w154_0, vi w156_0, vi w158_0, vi w160_0, vi w162_0, vi w164_0, vi w166_0, vi w168_0, .unset, .unset, .unset, .unset] [])) rfl (hb hby at_223) (by decide) (by decide)
                          obtain ⟨b169, g169⟩ : ∃ z, z = h0.size := ⟨_, rfl⟩
                          rw [← g169] at A169 D169 st169
                          refine Go.by' st169 ?_
                          have g_b169 : n0 ≤ b169 := Nat.le_trans (own_le O0) (Nat.le_of_eq g169.symm)
                          have sz_b169 : h0.size ≤ b169 := Nat.le_trans KC0.1 (Nat.le_of_eq g169.symm)
                          have O169 := O0.ext E169
                          have KC169 : Keep h0 h169 [] := KC0.ext E169
                          have Fn169_22 : Fld Z h169 b169 "java/util/AbstractList" "modCount" "I" (Value.int (0 : Int32)) := D169 (Or.inl hw22) (ty := .int) (by decide)
                          have Fn169_25 : Fld Z h169 b169 "java/util/ArrayList" "elementData" "[Ljava/lang/Object;" Value.null := D169 (Or.inl hw25) (ty := (.array (.object "java/lang/Object"))) (by decide)
                          have Fn169_40 : Fld Z h169 b169 "java/util/ArrayList" "size" "I" (Value.int (0 : Int32)) := D169 (Or.inl hw40) (ty := .int) (by decide)
                          show Go p.tables e below Pf (T169.setTop (mkF m 226 #[vi is, vi ia, vi ib, vi (0 : Int32), vi (0 : Int32), vi (0 : Int32), vi q6, vi q7, vi q8, vi q9, vi w154_0, vi w156_0, vi w158_0, vi w160_0, vi w162_0, vi w164_0, vi w166_0, vi w168_0, .unset, .unset, .unset, .unset] [(.ref b169)]))
                          refine Go.by' (fun t k => (XS.dup X169.here hx rfl (hb hby at_226) rfl rfl k)) ?_
                          obtain ⟨_, _, ⟨T170, L170, k170, n170⟩, -, X170, ⟨Lc170, hQ170, l170, y170, z170⟩, st170⟩ := X169.specialBack hx (y := (⟨"java/util/ArrayList", "<init>", "()V"⟩ : MethodName)) rfl hown (mvT hZ hw3) (mvT hZ hw4) (mvT hZ hw5) (by decide) (backOf (W := 1) (rmAL l Z a0 hw [] wD kD vcs G b169 h169 n0 O169 A169 Fn169_22 Fn169_25 Fn169_40 g_b169) hZ hw5 hw2 (by decide) (by decide)) (g := (mkF m 227 #[vi is, vi ia, vi ib, vi (0 : Int32), vi (0 : Int32), vi (0 : Int32), vi q6, vi q7, vi q8, vi q9, vi w154_0, vi w156_0, vi w158_0, vi w160_0, vi w162_0, vi w164_0, vi w166_0, vi w168_0, .unset, .unset, .unset, .unset] [(.ref b169), (.ref b169)])) rfl (by rw [hml]; rfl) (Steps.refl _) (a := b169) (argsL := []) (rest := [(.ref b169)]) (lenOf pd_5 rfl) rfl (by show 2 * 0 + _ ≤ _; exact Nat.le_of_eq rfl) (hb hby at_227) (fun _ _ => ⟨rfl, e169, (by decide : 1 + 0 ≤ _), (by decide : 3 + 0 ≤ _)⟩)
                          dsimp only [Pt.U, Pt.locs, Pt.cells, Pt.slots] at X170 l170 y170 z170 st170 hQ170
                          subst l170 y170 z170
                          obtain ⟨rfl, N170q, K170, f170_0, f170_1, f170_2, f170_3⟩ := hQ170
                          have N170 := Fr.app N0 N170q
                          obtain ⟨lc170, X170, N170⟩ := own_pack X170 N170
                          refine Go.by' (fun t k => st170.trans k) ?_
                          have O170 := O169.keep K170 (allS g_b169 all0)
                          have KC170 : Keep h0 T170.heap [] := KC169.trans K170 (allS (Or.inr sz_b169) all0)
                          show Go p.tables e below Pf (T170.setTop (mkF m 230 #[vi is, vi ia, vi ib, vi (0 : Int32), vi (0 : Int32), vi (0 : Int32), vi q6, vi q7, vi q8, vi q9, vi w154_0, vi w156_0, vi w158_0, vi w160_0, vi w162_0, vi w164_0, vi w166_0, vi w168_0, .unset, .unset, .unset, .unset] [(.ref b169)]))
                          refine Go.by' (fun t k => (XS.astore X170.here hx rfl (hb hby at_230) rfl rfl (l' := #[vi is, vi ia, vi ib, vi (0 : Int32), vi (0 : Int32), vi (0 : Int32), vi q6, vi q7, vi q8, vi q9, vi w154_0, vi w156_0, vi w158_0, vi w160_0, vi w162_0, vi w164_0, vi w166_0, vi w168_0, vr b169, .unset, .unset, .unset]) rfl (XS.iloadN X170.here hx rfl (hb hby at_232) rfl (XS.iconst X170.here hx rfl (hb hby at_233) (XS.icmpYes X170.here hx rfl (pc0 := 234) (pc' := 264) rfl (hb hby at_234) rfl (tlt (by decide)).1 (by decide) (by decide) (XS.iloadN X170.here hx rfl (hb hby at_264) rfl (XS.iconst X170.here hx rfl (hb hby at_265) (XS.icmpYes X170.here hx rfl (pc0 := 266) (pc' := 296) rfl (hb hby at_266) rfl (tlt (by decide)).1 (by decide) (by decide) (XS.aconstNull X170.here hx rfl (hb hby at_296) k))))))))) ?_
                          show Go p.tables e below Pf (T170.setTop (mkF m 297 #[vi is, vi ia, vi ib, vi (0 : Int32), vi (0 : Int32), vi (0 : Int32), vi q6, vi q7, vi q8, vi q9, vi w154_0, vi w156_0, vi w158_0, vi w160_0, vi w162_0, vi w164_0, vi w166_0, vi w168_0, vr b169, .unset, .unset, .unset] [.null]))
                          refine Go.by' (fun t k => (XS.astore X170.here hx rfl (hb hby at_297) rfl rfl (l' := #[vi is, vi ia, vi ib, vi (0 : Int32), vi (0 : Int32), vi (0 : Int32), vi q6, vi q7, vi q8, vi q9, vi w154_0, vi w156_0, vi w158_0, vi w160_0, vi w162_0, vi w164_0, vi w166_0, vi w168_0, vr b169, .val .null, .unset, .unset]) rfl (XS.iload X170.here hx rfl (hb hby at_299) rfl (XS.ifNo X170.here hx rfl (hb hby at_301) rfl ((if0 _ _).trans (teq (by decide)).2) k)))) ?_
                          obtain ⟨T171, h171, X171, e171, E171, A171, D171, -, st171⟩ := newO X170 hx hZ hown hw0 hw1 hw2 rfl (g := (mkF m 304 #[vi is, vi ia, vi ib, vi (0 : Int32), vi (0 : Int32), vi (0 : Int32), vi q6, vi q7, vi q8, vi q9, vi w154_0, vi w156_0, vi w158_0, vi w160_0, vi w162_0, vi w164_0, vi w166_0, vi w168_0, vr b169, .val .null, .unset, .unset] [])) rfl (hb hby at_304) (by decide) (by decide)
                          obtain ⟨b171, g171⟩ : ∃ z, z = T170.heap.size := ⟨_, rfl⟩
                          rw [← g171] at A171 D171 st171
                          refine Go.by' st171 ?_
                          have g_b171 : n0 ≤ b171 := Nat.le_trans (own_le O170) (Nat.le_of_eq g171.symm)
                          have sz_b171 : h0.size ≤ b171 := Nat.le_trans KC170.1 (Nat.le_of_eq g171.symm)
                          have O171 := O170.ext E171
                          have KC171 : Keep h0 h171 [] := KC170.ext E171
                          have Fn171_22 : Fld Z h171 b171 "java/util/AbstractList" "modCount" "I" (Value.int (0 : Int32)) := D171 (Or.inl hw22) (ty := .int) (by decide)
                          have Fn171_25 : Fld Z h171 b171 "java/util/ArrayList" "elementData" "[Ljava/lang/Object;" Value.null := D171 (Or.inl hw25) (ty := (.array (.object "java/lang/Object"))) (by decide)
                          have Fn171_40 : Fld Z h171 b171 "java/util/ArrayList" "size" "I" (Value.int (0 : Int32)) := D171 (Or.inl hw40) (ty := .int) (by decide)
                          show Go p.tables e below Pf (T171.setTop (mkF m 307 #[vi is, vi ia, vi ib, vi (0 : Int32), vi (0 : Int32), vi (0 : Int32), vi q6, vi q7, vi q8, vi q9, vi w154_0, vi w156_0, vi w158_0, vi w160_0, vi w162_0, vi w164_0, vi w166_0, vi w168_0, vr b169, .val .null, .unset, .unset] [(.ref b171)]))
                          refine Go.by' (fun t k => (XS.dup X171.here hx rfl (hb hby at_307) rfl rfl k)) ?_
                          obtain ⟨_, _, ⟨T172, L172, k172, n172⟩, -, X172, ⟨Lc172, hQ172, l172, y172, z172⟩, st172⟩ := X171.specialBack hx (y := (⟨"java/util/ArrayList", "<init>", "()V"⟩ : MethodName)) rfl hown (mvT hZ hw3) (mvT hZ hw4) (mvT hZ hw5) (by decide) (backOf (W := 1) (rmAL l Z a0 hw [] wD kD vcs G b171 h171 n0 O171 A171 Fn171_22 Fn171_25 Fn171_40 g_b171) hZ hw5 hw2 (by decide) (by decide)) (g := (mkF m 308 #[vi is, vi ia, vi ib, vi (0 : Int32), vi (0 : Int32), vi (0 : Int32), vi q6, vi q7, vi q8, vi q9, vi w154_0, vi w156_0, vi w158_0, vi w160_0, vi w162_0, vi w164_0, vi w166_0, vi w168_0, vr b169, .val .null, .unset, .unset] [(.ref b171), (.ref b171)])) rfl (by rw [hml]; rfl) (Steps.refl _) (a := b171) (argsL := []) (rest := [(.ref b171)]) (lenOf pd_5 rfl) rfl (by show 2 * 0 + _ ≤ _; exact Nat.le_of_eq rfl) (hb hby at_308) (fun _ _ => ⟨rfl, e171, (by decide : 2 + 0 ≤ _), (by decide : 6 + 0 ≤ _)⟩)
                          dsimp only [Pt.U, Pt.locs, Pt.cells, Pt.slots] at X172 l172 y172 z172 st172 hQ172
                          subst l172 y172 z172
                          obtain ⟨rfl, N172q, K172, f172_0, f172_1, f172_2, f172_3⟩ := hQ172
                          have N172 := Fr.app N170 N172q
                          obtain ⟨lc172, X172, N172⟩ := own_pack X172 N172
                          refine Go.by' (fun t k => st172.trans k) ?_
                          have O172 := O171.keep K172 (allS g_b171 all0)
                          have KC172 : Keep h0 T172.heap [] := KC171.trans K172 (allS (Or.inr sz_b171) all0)
                          show Go p.tables e below Pf (T172.setTop (mkF m 311 #[vi is, vi ia, vi ib, vi (0 : Int32), vi (0 : Int32), vi (0 : Int32), vi q6, vi q7, vi q8, vi q9, vi w154_0, vi w156_0, vi w158_0, vi w160_0, vi w162_0, vi w164_0, vi w166_0, vi w168_0, vr b169, .val .null, .unset, .unset] [(.ref b171)]))
                          refine Go.by' (fun t k => (XS.astore X172.here hx rfl (hb hby at_311) rfl rfl (l' := #[vi is, vi ia, vi ib, vi (0 : Int32), vi (0 : Int32), vi (0 : Int32), vi q6, vi q7, vi q8, vi q9, vi w154_0, vi w156_0, vi w158_0, vi w160_0, vi w162_0, vi w164_0, vi w166_0, vi w168_0, vr b169, vr b171, .unset, .unset]) rfl (XS.iload X172.here hx rfl (hb hby at_313) rfl (XS.iconst X172.here hx rfl (hb hby at_315) (XS.icmpYes X172.here hx rfl (pc0 := 316) (pc' := 346) rfl (hb hby at_316) rfl (tlt (by decide)).1 (by decide) (by decide) (XS.iload X172.here hx rfl (hb hby at_346) rfl (XS.iconst X172.here hx rfl (hb hby at_348) (XS.icmpYes X172.here hx rfl (pc0 := 349) (pc' := 379) rfl (hb hby at_349) rfl (tlt (by decide)).1 (by decide) (by decide) (XS.aload X172.here hx rfl (hb hby at_379) rfl rfl k))))))))) ?_
                          show Go p.tables e below Pf (T172.setTop (mkF m 381 #[vi is, vi ia, vi ib, vi (0 : Int32), vi (0 : Int32), vi (0 : Int32), vi q6, vi q7, vi q8, vi q9, vi w154_0, vi w156_0, vi w158_0, vi w160_0, vi w162_0, vi w164_0, vi w166_0, vi w168_0, vr b169, vr b171, .unset, .unset] [(.ref b169)]))
                          refine Go.by' (fun t k => (XS.aload X172.here hx rfl (hb hby at_381) rfl rfl k)) ?_
                          have c174 := ((f170_0.ext E171).keep K172)
                          have c175 := ((f170_3.ext E171).keep K172 (ninS (Nat.ne_of_lt (Nat.lt_of_lt_of_le (Nat.lt_of_lt_of_le A169.lt K170.1) (Nat.le_of_eq g171.symm))) nin0))
                          obtain ⟨_, _, ⟨T173, L173, k173, n173⟩, -, X173, ⟨Lc173, hQ173, l173, y173, z173⟩, st173⟩ := Jvm.LawKit.callS X172 hx (y := (⟨"com/example/slatewipe/slatewipe/vendors/mariadb/Columns$Column", "sameTypes", "(Ljava/util/List;Ljava/util/List;)Z"⟩ : MethodName)) hown (mvT hZ hw26) (mvT hZ hw27) (mvT hZ hw28) (mvT hZ hw29) (by decide) (backOf (W := 0) (rmT0 l Z a0 hw [] wD kD vcs G b169 b171 T172.heap n0 O172 c174 f172_0 c175 f172_3) hZ hw29 hw28 (by decide) (by decide)) (g := (mkF m 383 #[vi is, vi ia, vi ib, vi (0 : Int32), vi (0 : Int32), vi (0 : Int32), vi q6, vi q7, vi q8, vi q9, vi w154_0, vi w156_0, vi w158_0, vi w160_0, vi w162_0, vi w164_0, vi w166_0, vi w168_0, vr b169, vr b171, .unset, .unset] [(.ref b171), (.ref b169)])) rfl (by rw [hml]; rfl) (argsL := [(.ref b169), (.ref b171)]) (rest := []) (lenOf pd_15 rfl) rfl (by show 2 * 0 + _ ≤ _; exact Nat.le_of_eq rfl) (hb hby at_383) (fun _ _ => ⟨rfl, rfl, (by decide : 2 + 0 ≤ _), (by decide : 6 + 0 ≤ _)⟩)
                          dsimp only [Pt.U, Pt.locs, Pt.cells, Pt.slots] at X173 l173 y173 z173 st173 hQ173
                          subst l173 y173 z173
                          obtain ⟨rfl, rfl, e173⟩ := hQ173
                          try replace X173 := own_nil X173
                          refine Go.by' st173 ?_
                          show Go p.tables e below Pf (T173.setTop (mkF m 386 #[vi is, vi ia, vi ib, vi (0 : Int32), vi (0 : Int32), vi (0 : Int32), vi q6, vi q7, vi q8, vi q9, vi w154_0, vi w156_0, vi w158_0, vi w160_0, vi w162_0, vi w164_0, vi w166_0, vi w168_0, vr b169, vr b171, .unset, .unset] [(.int (1 : Int32))]))
                          refine Go.by' (fun t k => (XS.istore X173.here hx rfl (hb hby at_386) rfl (l' := #[vi is, vi ia, vi ib, vi (0 : Int32), vi (0 : Int32), vi (0 : Int32), vi q6, vi q7, vi q8, vi q9, vi w154_0, vi w156_0, vi w158_0, vi w160_0, vi w162_0, vi w164_0, vi w166_0, vi w168_0, vr b169, vr b171, vi (1 : Int32), .unset]) rfl (XS.iload X173.here hx rfl (hb hby at_388) rfl (XS.ifYes X173.here hx rfl (pc0 := 390) (pc' := 399) rfl (hb hby at_390) rfl ((if0 _ _).trans (teq (by decide)).1) (by decide) (by decide) (XS.iloadN X173.here hx rfl (hb hby at_399) rfl (XS.iload X173.here hx rfl (hb hby at_400) rfl (XS.icmpYes X173.here hx rfl (pc0 := 402) (pc' := 411) rfl (hb hby at_402) rfl (teq (by decide)).1 (by decide) (by decide) (XS.iconst X173.here hx rfl (hb hby at_411) (XS.istore X173.here hx rfl (hb hby at_412) rfl (l' := #[vi is, vi ia, vi ib, vi (0 : Int32), vi (0 : Int32), vi (0 : Int32), vi q6, vi q7, vi q8, vi q9, vi w154_0, vi w156_0, vi w158_0, vi w160_0, vi w162_0, vi w164_0, vi w166_0, vi w168_0, vr b169, vr b171, vi (1 : Int32), vi (1 : Int32)]) rfl k))))))))) ?_
                          show Go p.tables e below Pf (T173.setTop (mkF m 414 #[vi is, vi ia, vi ib, vi (0 : Int32), vi (0 : Int32), vi (0 : Int32), vi q6, vi q7, vi q8, vi q9, vi w154_0, vi w156_0, vi w158_0, vi w160_0, vi w162_0, vi w164_0, vi w166_0, vi w168_0, vr b169, vr b171, vi (1 : Int32), vi (1 : Int32)] []))
                          refine Go.by' (fun t k => (XS.iloadN X173.here hx rfl (hb hby at_414) rfl (XS.iconst X173.here hx rfl (hb hby at_415) (XS.icmpYes X173.here hx rfl (pc0 := 416) (pc' := 440) rfl (hb hby at_416) rfl (tlt (by decide)).1 (by decide) (by decide) (XS.iloadN X173.here hx rfl (hb hby at_440) rfl (XS.iconst X173.here hx rfl (hb hby at_441) (XS.icmpYes X173.here hx rfl (pc0 := 442) (pc' := 471) rfl (hb hby at_442) rfl (tlt (by decide)).1 (by decide) (by decide) (XS.iload X173.here hx rfl (hb hby at_471) rfl (XS.iload X173.here hx rfl (hb hby at_473) rfl k))))))))) ?_
                          show Go p.tables e below Pf (T173.setTop (mkF m 475 #[vi is, vi ia, vi ib, vi (0 : Int32), vi (0 : Int32), vi (0 : Int32), vi q6, vi q7, vi q8, vi q9, vi w154_0, vi w156_0, vi w158_0, vi w160_0, vi w162_0, vi w164_0, vi w166_0, vi w168_0, vr b169, vr b171, vi (1 : Int32), vi (1 : Int32)] [(.int (1 : Int32)), (.int (1 : Int32))]))
                          refine Go.by' (fun t k => (XS.icmpNo X173.here hx rfl (hb hby at_475) rfl (teq (by decide)).2 (XS.iconst X173.here hx rfl (hb hby at_478) (XS.goto X173.here hx rfl (pc0 := 479) (pc' := 483) rfl (hb hby at_479) (by decide) (by decide) k)))) ?_
                          show Go p.tables e below Pf (T173.setTop (mkF m 483 #[vi is, vi ia, vi ib, vi (0 : Int32), vi (0 : Int32), vi (0 : Int32), vi q6, vi q7, vi q8, vi q9, vi w154_0, vi w156_0, vi w158_0, vi w160_0, vi w162_0, vi w164_0, vi w166_0, vi w168_0, vr b169, vr b171, vi (1 : Int32), vi (1 : Int32)] [(.int (1 : Int32))]))
                          rw [hPf]
                          exact Go.retI' X173 hx hret hlk (by simp) rfl (hb hby at_483) (by decide) (by decide) ⟨rfl, N172, (by rw [e173]; exact KC172)⟩
                        · refine Go.castF (a := ((((is.toUInt32 >>> ((2 : Int32) &&& 31).toUInt32).toInt32) &&& (3 : Int32)) % (3 : Int32))) (b := (1 : Int32)) (fun z' : Int32 => mkF m 223 #[vi is, vi ia, vi ib, vi (0 : Int32), vi z', vi (0 : Int32), vi q6, vi q7, vi q8, vi q9, vi w154_0, vi w156_0, vi w158_0, vi w160_0, vi w162_0, vi w164_0, vi w166_0, vi w168_0, .unset, .unset, .unset, .unset] []) (hm) ?_
                          obtain ⟨T176, h176, X176, e176, E176, A176, D176, -, st176⟩ := newO X168 hx hZ hown hw0 hw1 hw2 e168 (g := (mkF m 223 #[vi is, vi ia, vi ib, vi (0 : Int32), vi (1 : Int32), vi (0 : Int32), vi q6, vi q7, vi q8, vi q9, vi w154_0, vi w156_0, vi w158_0, vi w160_0, vi w162_0, vi w164_0, vi w166_0, vi w168_0, .unset, .unset, .unset, .unset] [])) rfl (hb hby at_223) (by decide) (by decide)
                          obtain ⟨b176, g176⟩ : ∃ z, z = h0.size := ⟨_, rfl⟩
                          rw [← g176] at A176 D176 st176
                          refine Go.by' st176 ?_
                          have g_b176 : n0 ≤ b176 := Nat.le_trans (own_le O0) (Nat.le_of_eq g176.symm)
                          have sz_b176 : h0.size ≤ b176 := Nat.le_trans KC0.1 (Nat.le_of_eq g176.symm)
                          have O176 := O0.ext E176
                          have KC176 : Keep h0 h176 [] := KC0.ext E176
                          have Fn176_22 : Fld Z h176 b176 "java/util/AbstractList" "modCount" "I" (Value.int (0 : Int32)) := D176 (Or.inl hw22) (ty := .int) (by decide)
                          have Fn176_25 : Fld Z h176 b176 "java/util/ArrayList" "elementData" "[Ljava/lang/Object;" Value.null := D176 (Or.inl hw25) (ty := (.array (.object "java/lang/Object"))) (by decide)
                          have Fn176_40 : Fld Z h176 b176 "java/util/ArrayList" "size" "I" (Value.int (0 : Int32)) := D176 (Or.inl hw40) (ty := .int) (by decide)
                          show Go p.tables e below Pf (T176.setTop (mkF m 226 #[vi is, vi ia, vi ib, vi (0 : Int32), vi (1 : Int32), vi (0 : Int32), vi q6, vi q7, vi q8, vi q9, vi w154_0, vi w156_0, vi w158_0, vi w160_0, vi w162_0, vi w164_0, vi w166_0, vi w168_0, .unset, .unset, .unset, .unset] [(.ref b176)]))
                          refine Go.by' (fun t k => (XS.dup X176.here hx rfl (hb hby at_226) rfl rfl k)) ?_
                          obtain ⟨_, _, ⟨T177, L177, k177, n177⟩, -, X177, ⟨Lc177, hQ177, l177, y177, z177⟩, st177⟩ := X176.specialBack hx (y := (⟨"java/util/ArrayList", "<init>", "()V"⟩ : MethodName)) rfl hown (mvT hZ hw3) (mvT hZ hw4) (mvT hZ hw5) (by decide) (backOf (W := 1) (rmAL l Z a0 hw [] wD kD vcs G b176 h176 n0 O176 A176 Fn176_22 Fn176_25 Fn176_40 g_b176) hZ hw5 hw2 (by decide) (by decide)) (g := (mkF m 227 #[vi is, vi ia, vi ib, vi (0 : Int32), vi (1 : Int32), vi (0 : Int32), vi q6, vi q7, vi q8, vi q9, vi w154_0, vi w156_0, vi w158_0, vi w160_0, vi w162_0, vi w164_0, vi w166_0, vi w168_0, .unset, .unset, .unset, .unset] [(.ref b176), (.ref b176)])) rfl (by rw [hml]; rfl) (Steps.refl _) (a := b176) (argsL := []) (rest := [(.ref b176)]) (lenOf pd_5 rfl) rfl (by show 2 * 0 + _ ≤ _; exact Nat.le_of_eq rfl) (hb hby at_227) (fun _ _ => ⟨rfl, e176, (by decide : 1 + 0 ≤ _), (by decide : 3 + 0 ≤ _)⟩)
                          dsimp only [Pt.U, Pt.locs, Pt.cells, Pt.slots] at X177 l177 y177 z177 st177 hQ177
                          subst l177 y177 z177
                          obtain ⟨rfl, N177q, K177, f177_0, f177_1, f177_2, f177_3⟩ := hQ177
                          have N177 := Fr.app N0 N177q
                          obtain ⟨lc177, X177, N177⟩ := own_pack X177 N177
                          refine Go.by' (fun t k => st177.trans k) ?_
                          have O177 := O176.keep K177 (allS g_b176 all0)
                          have KC177 : Keep h0 T177.heap [] := KC176.trans K177 (allS (Or.inr sz_b176) all0)
                          show Go p.tables e below Pf (T177.setTop (mkF m 230 #[vi is, vi ia, vi ib, vi (0 : Int32), vi (1 : Int32), vi (0 : Int32), vi q6, vi q7, vi q8, vi q9, vi w154_0, vi w156_0, vi w158_0, vi w160_0, vi w162_0, vi w164_0, vi w166_0, vi w168_0, .unset, .unset, .unset, .unset] [(.ref b176)]))
                          refine Go.by' (fun t k => (XS.astore X177.here hx rfl (hb hby at_230) rfl rfl (l' := #[vi is, vi ia, vi ib, vi (0 : Int32), vi (1 : Int32), vi (0 : Int32), vi q6, vi q7, vi q8, vi q9, vi w154_0, vi w156_0, vi w158_0, vi w160_0, vi w162_0, vi w164_0, vi w166_0, vi w168_0, vr b176, .unset, .unset, .unset]) rfl (XS.iloadN X177.here hx rfl (hb hby at_232) rfl (XS.iconst X177.here hx rfl (hb hby at_233) (XS.icmpYes X177.here hx rfl (pc0 := 234) (pc' := 264) rfl (hb hby at_234) rfl (tlt (by decide)).1 (by decide) (by decide) (XS.iloadN X177.here hx rfl (hb hby at_264) rfl (XS.iconst X177.here hx rfl (hb hby at_265) (XS.icmpYes X177.here hx rfl (pc0 := 266) (pc' := 296) rfl (hb hby at_266) rfl (tlt (by decide)).1 (by decide) (by decide) (XS.aconstNull X177.here hx rfl (hb hby at_296) k))))))))) ?_
                          show Go p.tables e below Pf (T177.setTop (mkF m 297 #[vi is, vi ia, vi ib, vi (0 : Int32), vi (1 : Int32), vi (0 : Int32), vi q6, vi q7, vi q8, vi q9, vi w154_0, vi w156_0, vi w158_0, vi w160_0, vi w162_0, vi w164_0, vi w166_0, vi w168_0, vr b176, .unset, .unset, .unset] [.null]))
                          refine Go.by' (fun t k => (XS.astore X177.here hx rfl (hb hby at_297) rfl rfl (l' := #[vi is, vi ia, vi ib, vi (0 : Int32), vi (1 : Int32), vi (0 : Int32), vi q6, vi q7, vi q8, vi q9, vi w154_0, vi w156_0, vi w158_0, vi w160_0, vi w162_0, vi w164_0, vi w166_0, vi w168_0, vr b176, .val .null, .unset, .unset]) rfl (XS.iload X177.here hx rfl (hb hby at_299) rfl (XS.ifNo X177.here hx rfl (hb hby at_301) rfl ((if0 _ _).trans (teq (by decide)).2) k)))) ?_
                          obtain ⟨T178, h178, X178, e178, E178, A178, D178, -, st178⟩ := newO X177 hx hZ hown hw0 hw1 hw2 rfl (g := (mkF m 304 #[vi is, vi ia, vi ib, vi (0 : Int32), vi (1 : Int32), vi (0 : Int32), vi q6, vi q7, vi q8, vi q9, vi w154_0, vi w156_0, vi w158_0, vi w160_0, vi w162_0, vi w164_0, vi w166_0, vi w168_0, vr b176, .val .null, .unset, .unset] [])) rfl (hb hby at_304) (by decide) (by decide)
                          obtain ⟨b178, g178⟩ : ∃ z, z = T177.heap.size := ⟨_, rfl⟩
                          rw [← g178] at A178 D178 st178
                          refine Go.by' st178 ?_
                          have g_b178 : n0 ≤ b178 := Nat.le_trans (own_le O177) (Nat.le_of_eq g178.symm)
                          have sz_b178 : h0.size ≤ b178 := Nat.le_trans KC177.1 (Nat.le_of_eq g178.symm)
                          have O178 := O177.ext E178
                          have KC178 : Keep h0 h178 [] := KC177.ext E178
                          have Fn178_22 : Fld Z h178 b178 "java/util/AbstractList" "modCount" "I" (Value.int (0 : Int32)) := D178 (Or.inl hw22) (ty := .int) (by decide)
                          have Fn178_25 : Fld Z h178 b178 "java/util/ArrayList" "elementData" "[Ljava/lang/Object;" Value.null := D178 (Or.inl hw25) (ty := (.array (.object "java/lang/Object"))) (by decide)
                          have Fn178_40 : Fld Z h178 b178 "java/util/ArrayList" "size" "I" (Value.int (0 : Int32)) := D178 (Or.inl hw40) (ty := .int) (by decide)
                          show Go p.tables e below Pf (T178.setTop (mkF m 307 #[vi is, vi ia, vi ib, vi (0 : Int32), vi (1 : Int32), vi (0 : Int32), vi q6, vi q7, vi q8, vi q9, vi w154_0, vi w156_0, vi w158_0, vi w160_0, vi w162_0, vi w164_0, vi w166_0, vi w168_0, vr b176, .val .null, .unset, .unset] [(.ref b178)]))
                          refine Go.by' (fun t k => (XS.dup X178.here hx rfl (hb hby at_307) rfl rfl k)) ?_
                          obtain ⟨_, _, ⟨T179, L179, k179, n179⟩, -, X179, ⟨Lc179, hQ179, l179, y179, z179⟩, st179⟩ := X178.specialBack hx (y := (⟨"java/util/ArrayList", "<init>", "()V"⟩ : MethodName)) rfl hown (mvT hZ hw3) (mvT hZ hw4) (mvT hZ hw5) (by decide) (backOf (W := 1) (rmAL l Z a0 hw [] wD kD vcs G b178 h178 n0 O178 A178 Fn178_22 Fn178_25 Fn178_40 g_b178) hZ hw5 hw2 (by decide) (by decide)) (g := (mkF m 308 #[vi is, vi ia, vi ib, vi (0 : Int32), vi (1 : Int32), vi (0 : Int32), vi q6, vi q7, vi q8, vi q9, vi w154_0, vi w156_0, vi w158_0, vi w160_0, vi w162_0, vi w164_0, vi w166_0, vi w168_0, vr b176, .val .null, .unset, .unset] [(.ref b178), (.ref b178)])) rfl (by rw [hml]; rfl) (Steps.refl _) (a := b178) (argsL := []) (rest := [(.ref b178)]) (lenOf pd_5 rfl) rfl (by show 2 * 0 + _ ≤ _; exact Nat.le_of_eq rfl) (hb hby at_308) (fun _ _ => ⟨rfl, e178, (by decide : 2 + 0 ≤ _), (by decide : 6 + 0 ≤ _)⟩)
                          dsimp only [Pt.U, Pt.locs, Pt.cells, Pt.slots] at X179 l179 y179 z179 st179 hQ179
                          subst l179 y179 z179
                          obtain ⟨rfl, N179q, K179, f179_0, f179_1, f179_2, f179_3⟩ := hQ179
                          have N179 := Fr.app N177 N179q
                          obtain ⟨lc179, X179, N179⟩ := own_pack X179 N179
                          refine Go.by' (fun t k => st179.trans k) ?_
                          have O179 := O178.keep K179 (allS g_b178 all0)
                          have KC179 : Keep h0 T179.heap [] := KC178.trans K179 (allS (Or.inr sz_b178) all0)
                          show Go p.tables e below Pf (T179.setTop (mkF m 311 #[vi is, vi ia, vi ib, vi (0 : Int32), vi (1 : Int32), vi (0 : Int32), vi q6, vi q7, vi q8, vi q9, vi w154_0, vi w156_0, vi w158_0, vi w160_0, vi w162_0, vi w164_0, vi w166_0, vi w168_0, vr b176, .val .null, .unset, .unset] [(.ref b178)]))
                          refine Go.by' (fun t k => (XS.astore X179.here hx rfl (hb hby at_311) rfl rfl (l' := #[vi is, vi ia, vi ib, vi (0 : Int32), vi (1 : Int32), vi (0 : Int32), vi q6, vi q7, vi q8, vi q9, vi w154_0, vi w156_0, vi w158_0, vi w160_0, vi w162_0, vi w164_0, vi w166_0, vi w168_0, vr b176, vr b178, .unset, .unset]) rfl (XS.iload X179.here hx rfl (hb hby at_313) rfl (XS.iconst X179.here hx rfl (hb hby at_315) (XS.icmpNo X179.here hx rfl (hb hby at_316) rfl (flt (by decide)).1 (XS.aload X179.here hx rfl (hb hby at_319) rfl rfl k)))))) ?_
                          obtain ⟨T180, h180, X180, e180, E180, A180, D180, -, st180⟩ := newO X179 hx hZ hown hw41 hw42 hw28 rfl (g := (mkF m 321 #[vi is, vi ia, vi ib, vi (0 : Int32), vi (1 : Int32), vi (0 : Int32), vi q6, vi q7, vi q8, vi q9, vi w154_0, vi w156_0, vi w158_0, vi w160_0, vi w162_0, vi w164_0, vi w166_0, vi w168_0, vr b176, vr b178, .unset, .unset] [(.ref b178)])) rfl (hb hby at_321) (by decide) (by decide)
                          obtain ⟨b180, g180⟩ : ∃ z, z = T179.heap.size := ⟨_, rfl⟩
                          rw [← g180] at A180 D180 st180
                          refine Go.by' st180 ?_
                          have g_b180 : n0 ≤ b180 := Nat.le_trans (own_le O179) (Nat.le_of_eq g180.symm)
                          have sz_b180 : h0.size ≤ b180 := Nat.le_trans KC179.1 (Nat.le_of_eq g180.symm)
                          have O180 := O179.ext E180
                          have KC180 : Keep h0 h180 [] := KC179.ext E180
                          have Fn180_85 : Fld Z h180 b180 "com/example/slatewipe/slatewipe/vendors/mariadb/Columns$Column" "name" "Ljava/lang/String;" Value.null := D180 (Or.inr hw85) (ty := (.object "java/lang/String")) (by decide)
                          have Fn180_87 : Fld Z h180 b180 "com/example/slatewipe/slatewipe/vendors/mariadb/Columns$Column" "type" "Ljava/lang/String;" Value.null := D180 (Or.inr hw87) (ty := (.object "java/lang/String")) (by decide)
                          have Fn180_89 : Fld Z h180 b180 "com/example/slatewipe/slatewipe/vendors/mariadb/Columns$Column" "nullable" "Z" (Value.int (0 : Int32)) := D180 (Or.inr hw89) (ty := .boolean) (by decide)
                          show Go p.tables e below Pf (T180.setTop (mkF m 324 #[vi is, vi ia, vi ib, vi (0 : Int32), vi (1 : Int32), vi (0 : Int32), vi q6, vi q7, vi q8, vi q9, vi w154_0, vi w156_0, vi w158_0, vi w160_0, vi w162_0, vi w164_0, vi w166_0, vi w168_0, vr b176, vr b178, .unset, .unset] [(.ref b180), (.ref b178)]))
                          refine Go.by' (fun t k => (XS.dup X180.here hx rfl (hb hby at_324) rfl rfl (XS.iload X180.here hx rfl (hb hby at_325) rfl k))) ?_
                          obtain ⟨_, _, ⟨T181, L181, k181, n181⟩, -, X181, ⟨Lc181, hQ181, l181, y181, z181⟩, st181⟩ := Jvm.LawKit.callS X180 hx (y := (⟨"com/example/slatewipe/slatewipe/vendors/mariadb/ColumnSameTypesPinLaw", "str", "(I)Ljava/lang/String;"⟩ : MethodName)) hown (mvT hZ hw43) (mvT hZ hw44) (mvT hZ hw45) (mvT hZ hw46) (by decide) (backOf (W := 3) (rmStr l Z a0 hw [] wD kD vcs G w154_0 h180 n0 O180 bd10.1 bd10.2) hZ hw46 hw45 (by decide) (by decide)) (g := (mkF m 327 #[vi is, vi ia, vi ib, vi (0 : Int32), vi (1 : Int32), vi (0 : Int32), vi q6, vi q7, vi q8, vi q9, vi w154_0, vi w156_0, vi w158_0, vi w160_0, vi w162_0, vi w164_0, vi w166_0, vi w168_0, vr b176, vr b178, .unset, .unset] [(.int w154_0), (.ref b180), (.ref b180), (.ref b178)])) rfl (by rw [hml]; rfl) (argsL := [(.int w154_0)]) (rest := [(.ref b180), (.ref b180), (.ref b178)]) (lenOf pd_16 rfl) rfl (by show 2 * 0 + _ ≤ _; exact Nat.le_of_eq rfl) (hb hby at_327) (fun _ _ => ⟨rfl, e180, (by decide : 3 + 3 ≤ _), (by decide : 9 + 6 ≤ _)⟩)
                          dsimp only [Pt.U, Pt.locs, Pt.cells, Pt.slots] at X181 l181 y181 z181 st181 hQ181
                          subst l181 y181 z181
                          obtain ⟨r_181, rb_181, kb_181, rfl, N181q, K181, f181_0, f181_1, f181_2, f181_3, f181_4, f181_5⟩ := hQ181
                          have N181 := Fr.app N179 N181q
                          obtain ⟨lc181, X181, N181⟩ := own_pack X181 N181
                          refine Go.by' st181 ?_
                          have g_r_181 : n0 ≤ r_181 := Nat.le_trans (own_le O180) f181_1
                          have sz_r_181 : h0.size ≤ r_181 := Nat.le_trans KC180.1 f181_1
                          have g_rb_181 : n0 ≤ rb_181 := Nat.le_trans (own_le O180) f181_5
                          have sz_rb_181 : h0.size ≤ rb_181 := Nat.le_trans KC180.1 f181_5
                          have O181 := O180.keep K181 all0
                          have KC181 : Keep h0 T181.heap [] := KC180.trans K181 all0
                          show Go p.tables e below Pf (T181.setTop (mkF m 330 #[vi is, vi ia, vi ib, vi (0 : Int32), vi (1 : Int32), vi (0 : Int32), vi q6, vi q7, vi q8, vi q9, vi w154_0, vi w156_0, vi w158_0, vi w160_0, vi w162_0, vi w164_0, vi w166_0, vi w168_0, vr b176, vr b178, .unset, .unset] [(.ref r_181), (.ref b180), (.ref b180), (.ref b178)]))
                          refine Go.by' (fun t k => (XS.iload X181.here hx rfl (hb hby at_330) rfl k)) ?_
                          obtain ⟨_, _, ⟨T182, L182, k182, n182⟩, -, X182, ⟨Lc182, hQ182, l182, y182, z182⟩, st182⟩ := Jvm.LawKit.callS X181 hx (y := (⟨"com/example/slatewipe/slatewipe/vendors/mariadb/ColumnSameTypesPinLaw", "str", "(I)Ljava/lang/String;"⟩ : MethodName)) hown (mvT hZ hw43) (mvT hZ hw44) (mvT hZ hw45) (mvT hZ hw46) (by decide) (backOf (W := 4) (rmStr l Z a0 hw [] wD kD vcs G w156_0 T181.heap n0 O181 bd11.1 bd11.2) hZ hw46 hw45 (by decide) (by decide)) (g := (mkF m 332 #[vi is, vi ia, vi ib, vi (0 : Int32), vi (1 : Int32), vi (0 : Int32), vi q6, vi q7, vi q8, vi q9, vi w154_0, vi w156_0, vi w158_0, vi w160_0, vi w162_0, vi w164_0, vi w166_0, vi w168_0, vr b176, vr b178, .unset, .unset] [(.int w156_0), (.ref r_181), (.ref b180), (.ref b180), (.ref b178)])) rfl (by rw [hml]; rfl) (argsL := [(.int w156_0)]) (rest := [(.ref r_181), (.ref b180), (.ref b180), (.ref b178)]) (lenOf pd_16 rfl) rfl (by show 2 * 0 + _ ≤ _; exact Nat.le_of_eq rfl) (hb hby at_332) (fun _ _ => ⟨rfl, rfl, (by decide : 6 + 3 ≤ _), (by decide : 15 + 6 ≤ _)⟩)
                          dsimp only [Pt.U, Pt.locs, Pt.cells, Pt.slots] at X182 l182 y182 z182 st182 hQ182
                          subst l182 y182 z182
                          obtain ⟨r_182, rb_182, kb_182, rfl, N182q, K182, f182_0, f182_1, f182_2, f182_3, f182_4, f182_5⟩ := hQ182
                          have N182 := Fr.app N181 N182q
                          obtain ⟨lc182, X182, N182⟩ := own_pack X182 N182
                          refine Go.by' st182 ?_
                          have g_r_182 : n0 ≤ r_182 := Nat.le_trans (own_le O181) f182_1
                          have sz_r_182 : h0.size ≤ r_182 := Nat.le_trans KC181.1 f182_1
                          have g_rb_182 : n0 ≤ rb_182 := Nat.le_trans (own_le O181) f182_5
                          have sz_rb_182 : h0.size ≤ rb_182 := Nat.le_trans KC181.1 f182_5
                          have O182 := O181.keep K182 all0
                          have KC182 : Keep h0 T182.heap [] := KC181.trans K182 all0
                          show Go p.tables e below Pf (T182.setTop (mkF m 335 #[vi is, vi ia, vi ib, vi (0 : Int32), vi (1 : Int32), vi (0 : Int32), vi q6, vi q7, vi q8, vi q9, vi w154_0, vi w156_0, vi w158_0, vi w160_0, vi w162_0, vi w164_0, vi w166_0, vi w168_0, vr b176, vr b178, .unset, .unset] [(.ref r_182), (.ref r_181), (.ref b180), (.ref b180), (.ref b178)]))
                          refine Go.by' (fun t k => (XS.iload X182.here hx rfl (hb hby at_335) rfl k)) ?_
                          have c184 := ((A180.keep K181).keep K182)
                          have c185 := ((Fn180_85.keep K181 nin0).keep K182 nin0)
                          have c186 := ((Fn180_87.keep K181 nin0).keep K182 nin0)
                          have c187 := ((Fn180_89.keep K181 nin0).keep K182 nin0)
                          obtain ⟨_, _, ⟨T183, L183, k183, n183⟩, -, X183, ⟨Lc183, hQ183, l183, y183, z183⟩, st183⟩ := X182.specialBack hx (y := (⟨"com/example/slatewipe/slatewipe/vendors/mariadb/Columns$Column", "<init>", "(Ljava/lang/String;Ljava/lang/String;Z)V"⟩ : MethodName)) rfl hown (mvT hZ hw75) (mvT hZ hw76) (mvT hZ hw77) (by decide) (backOf (W := 2) (rmCol l Z a0 hw [] wD kD vcs G b180 r_181 r_182 w166_0 T182.heap n0 O182 c184 c185 c186 c187 g_b180 bw166_0) hZ hw77 hw28 (by decide) (by decide)) (g := (mkF m 337 #[vi is, vi ia, vi ib, vi (0 : Int32), vi (1 : Int32), vi (0 : Int32), vi q6, vi q7, vi q8, vi q9, vi w154_0, vi w156_0, vi w158_0, vi w160_0, vi w162_0, vi w164_0, vi w166_0, vi w168_0, vr b176, vr b178, .unset, .unset] [(.int w166_0), (.ref r_182), (.ref r_181), (.ref b180), (.ref b180), (.ref b178)])) rfl (by rw [hml]; rfl) (Steps.refl _) (a := b180) (argsL := [(.ref r_181), (.ref r_182), (.int w166_0)]) (rest := [(.ref b180), (.ref b178)]) (lenOf pd_17 rfl) rfl (by show 2 * 0 + _ ≤ _; exact Nat.le_of_eq rfl) (hb hby at_337) (fun _ _ => ⟨rfl, rfl, (by decide : 9 + 0 ≤ _), (by decide : 21 + 0 ≤ _)⟩)
                          dsimp only [Pt.U, Pt.locs, Pt.cells, Pt.slots] at X183 l183 y183 z183 st183 hQ183
                          subst l183 y183 z183
                          obtain ⟨rfl, N183q, K183, f183_0, f183_1, f183_2⟩ := hQ183
                          have N183 := Fr.app N182 N183q
                          obtain ⟨lc183, X183, N183⟩ := own_pack X183 N183
                          refine Go.by' (fun t k => st183.trans k) ?_
                          have O183 := O182.keep K183 (allS g_b180 all0)
                          have KC183 : Keep h0 T183.heap [] := KC182.trans K183 (allS (Or.inr sz_b180) all0)
                          have c189 := ((((f179_0.ext E180).keep K181).keep K182).keep K183)
                          have c190 := ((((f179_3.ext E180).keep K181 nin0).keep K182 nin0).keep K183 (ninS (Nat.ne_of_lt (Nat.lt_of_lt_of_le (Nat.lt_of_lt_of_le A178.lt K179.1) (Nat.le_of_eq g180.symm))) nin0))
                          have c191 := ((((f179_2.ext E180).keep K181 nin0).keep K182 nin0).keep K183 (ninS (Nat.ne_of_lt (Nat.lt_of_lt_of_le (Nat.lt_of_lt_of_le A178.lt K179.1) (Nat.le_of_eq g180.symm))) nin0))
                          have c192 := ((((f179_1.ext E180).keep K181 nin0).keep K182 nin0).keep K183 (ninS (Nat.ne_of_lt (Nat.lt_of_lt_of_le (Nat.lt_of_lt_of_le A178.lt K179.1) (Nat.le_of_eq g180.symm))) nin0))
                          obtain ⟨cq188, kq188, q188a, q188b, q188c⟩ := isOf hZ rfl c189
                          obtain ⟨_, _, ⟨T188, L188, k188, n188⟩, -, X188, ⟨Lc188, hQ188, l188, y188, z188⟩, st188⟩ := X183.interfaceBack hx (xi := (⟨"java/util/List", "add", "(Ljava/lang/Object;)Z"⟩ : MethodName)) (y := (⟨"java/util/ArrayList", "add", "(Ljava/lang/Object;)Z"⟩ : MethodName)) hown (mvT hZ hw90) (mvT hZ hw91) (mvT hZ hw92) (mvT hZ hw93) (mvT hZ hw94) (mvT hZ hw95) (mvT hZ hw96) (mvT hZ hw37) (by decide) (backOf (W := 0) (rmA1_0 l Z a0 hw [] wD kD vcs G b178 b180 ((0 : Int32)) T183.heap n0 O183 c189 c190 c191 c192 g_b178 f183_0) hZ hw97 hw2 (by decide) (by decide)) q188a q188b q188c (g := (mkF m 340 #[vi is, vi ia, vi ib, vi (0 : Int32), vi (1 : Int32), vi (0 : Int32), vi q6, vi q7, vi q8, vi q9, vi w154_0, vi w156_0, vi w158_0, vi w160_0, vi w162_0, vi w164_0, vi w166_0, vi w168_0, vr b176, vr b178, .unset, .unset] [(.ref b180), (.ref b178)])) rfl (by rw [hml]; rfl) (Steps.refl _) (argsL := [(.ref b180)]) (rest := []) (lenOf pd_14 rfl) rfl (by show 2 * 0 + _ ≤ _; exact Nat.le_of_eq rfl) (hb hby at_340) (fun _ _ => ⟨rfl, rfl, (by decide : 9 + 1 ≤ _), (by decide : 21 + 10 ≤ _)⟩)
                          dsimp only [Pt.U, Pt.locs, Pt.cells, Pt.slots] at X188 l188 y188 z188 st188 hQ188
                          subst l188 y188 z188
                          obtain ⟨r_188, kk_188, rfl, N188q, K188, f188_0, f188_1, f188_2, f188_3, f188_4, f188_5, r188_0⟩ := hQ188
                          have N188 := Fr.app N183 N188q
                          obtain ⟨lc188, X188, N188⟩ := own_pack X188 N188
                          refine Go.by' (fun t k => st188.trans k) ?_
                          have g_r_188 : n0 ≤ r_188 := Nat.le_trans (own_le O183) f188_1
                          have sz_r_188 : h0.size ≤ r_188 := Nat.le_trans KC183.1 f188_1
                          have O188 := O183.keep K188 (allS g_b178 all0)
                          have KC188 : Keep h0 T188.heap [] := KC183.trans K188 (allS (Or.inr sz_b178) all0)
                          show Go p.tables e below Pf (T188.setTop (mkF m 345 #[vi is, vi ia, vi ib, vi (0 : Int32), vi (1 : Int32), vi (0 : Int32), vi q6, vi q7, vi q8, vi q9, vi w154_0, vi w156_0, vi w158_0, vi w160_0, vi w162_0, vi w164_0, vi w166_0, vi w168_0, vr b176, vr b178, .unset, .unset] [(.int (1 : Int32))]))
                          refine Go.by' (fun t k => (XS.pop X188.here hx rfl (hb hby at_345) rfl rfl (XS.iload X188.here hx rfl (hb hby at_346) rfl (XS.iconst X188.here hx rfl (hb hby at_348) (XS.icmpYes X188.here hx rfl (pc0 := 349) (pc' := 379) rfl (hb hby at_349) rfl (tlt (by decide)).1 (by decide) (by decide) (XS.aload X188.here hx rfl (hb hby at_379) rfl rfl (XS.aload X188.here hx rfl (hb hby at_381) rfl rfl k))))))) ?_
                          have c194 := (((((((f177_0.ext E178).keep K179).ext E180).keep K181).keep K182).keep K183).keep K188)
                          have c195 := (((((((f177_3.ext E178).keep K179 (ninS (Nat.ne_of_lt (Nat.lt_of_lt_of_le (Nat.lt_of_lt_of_le A176.lt K177.1) (Nat.le_of_eq g178.symm))) nin0)).ext E180).keep K181 nin0).keep K182 nin0).keep K183 (ninS (Nat.ne_of_lt (Nat.lt_of_lt_of_le (Nat.lt_of_lt_of_le A176.lt (Nat.le_trans K177.1 (Nat.le_trans E178.1 K179.1))) (Nat.le_of_eq g180.symm))) nin0)).keep K188 (ninS (Nat.ne_of_lt (Nat.lt_of_lt_of_le (Nat.lt_of_lt_of_le A176.lt K177.1) (Nat.le_of_eq g178.symm))) nin0))
                          obtain ⟨_, _, ⟨T193, L193, k193, n193⟩, -, X193, ⟨Lc193, hQ193, l193, y193, z193⟩, st193⟩ := Jvm.LawKit.callS X188 hx (y := (⟨"com/example/slatewipe/slatewipe/vendors/mariadb/Columns$Column", "sameTypes", "(Ljava/util/List;Ljava/util/List;)Z"⟩ : MethodName)) hown (mvT hZ hw26) (mvT hZ hw27) (mvT hZ hw28) (mvT hZ hw29) (by decide) (backOf (W := 0) (rmTd l Z a0 hw [] wD kD vcs G b176 b178 ((0 : Int32)) ((1 : Int32)) T188.heap n0 O188 c194 f188_2 c195 f188_4 (by decide)) hZ hw29 hw28 (by decide) (by decide)) (g := (mkF m 383 #[vi is, vi ia, vi ib, vi (0 : Int32), vi (1 : Int32), vi (0 : Int32), vi q6, vi q7, vi q8, vi q9, vi w154_0, vi w156_0, vi w158_0, vi w160_0, vi w162_0, vi w164_0, vi w166_0, vi w168_0, vr b176, vr b178, .unset, .unset] [(.ref b178), (.ref b176)])) rfl (by rw [hml]; rfl) (argsL := [(.ref b176), (.ref b178)]) (rest := []) (lenOf pd_15 rfl) rfl (by show 2 * 0 + _ ≤ _; exact Nat.le_of_eq rfl) (hb hby at_383) (fun _ _ => ⟨rfl, rfl, (by decide : 10 + 0 ≤ _), (by decide : 31 + 0 ≤ _)⟩)
                          dsimp only [Pt.U, Pt.locs, Pt.cells, Pt.slots] at X193 l193 y193 z193 st193 hQ193
                          subst l193 y193 z193
                          obtain ⟨rfl, rfl, e193⟩ := hQ193
                          try replace X193 := own_nil X193
                          refine Go.by' st193 ?_
                          show Go p.tables e below Pf (T193.setTop (mkF m 386 #[vi is, vi ia, vi ib, vi (0 : Int32), vi (1 : Int32), vi (0 : Int32), vi q6, vi q7, vi q8, vi q9, vi w154_0, vi w156_0, vi w158_0, vi w160_0, vi w162_0, vi w164_0, vi w166_0, vi w168_0, vr b176, vr b178, .unset, .unset] [(.int (0 : Int32))]))
                          refine Go.by' (fun t k => (XS.istore X193.here hx rfl (hb hby at_386) rfl (l' := #[vi is, vi ia, vi ib, vi (0 : Int32), vi (1 : Int32), vi (0 : Int32), vi q6, vi q7, vi q8, vi q9, vi w154_0, vi w156_0, vi w158_0, vi w160_0, vi w162_0, vi w164_0, vi w166_0, vi w168_0, vr b176, vr b178, vi (0 : Int32), .unset]) rfl (XS.iload X193.here hx rfl (hb hby at_388) rfl (XS.ifYes X193.here hx rfl (pc0 := 390) (pc' := 399) rfl (hb hby at_390) rfl ((if0 _ _).trans (teq (by decide)).1) (by decide) (by decide) (XS.iloadN X193.here hx rfl (hb hby at_399) rfl (XS.iload X193.here hx rfl (hb hby at_400) rfl (XS.icmpNo X193.here hx rfl (hb hby at_402) rfl (feq (by decide)).1 (XS.iconst X193.here hx rfl (hb hby at_405) (XS.istore X193.here hx rfl (hb hby at_406) rfl (l' := #[vi is, vi ia, vi ib, vi (0 : Int32), vi (1 : Int32), vi (0 : Int32), vi q6, vi q7, vi q8, vi q9, vi w154_0, vi w156_0, vi w158_0, vi w160_0, vi w162_0, vi w164_0, vi w166_0, vi w168_0, vr b176, vr b178, vi (0 : Int32), vi (0 : Int32)]) rfl k))))))))) ?_
                          show Go p.tables e below Pf (T193.setTop (mkF m 408 #[vi is, vi ia, vi ib, vi (0 : Int32), vi (1 : Int32), vi (0 : Int32), vi q6, vi q7, vi q8, vi q9, vi w154_0, vi w156_0, vi w158_0, vi w160_0, vi w162_0, vi w164_0, vi w166_0, vi w168_0, vr b176, vr b178, vi (0 : Int32), vi (0 : Int32)] []))
                          refine Go.by' (fun t k => (XS.goto X193.here hx rfl (pc0 := 408) (pc' := 471) rfl (hb hby at_408) (by decide) (by decide) (XS.iload X193.here hx rfl (hb hby at_471) rfl (XS.iload X193.here hx rfl (hb hby at_473) rfl (XS.icmpNo X193.here hx rfl (hb hby at_475) rfl (teq (by decide)).2 (XS.iconst X193.here hx rfl (hb hby at_478) (XS.goto X193.here hx rfl (pc0 := 479) (pc' := 483) rfl (hb hby at_479) (by decide) (by decide) k))))))) ?_
                          show Go p.tables e below Pf (T193.setTop (mkF m 483 #[vi is, vi ia, vi ib, vi (0 : Int32), vi (1 : Int32), vi (0 : Int32), vi q6, vi q7, vi q8, vi q9, vi w154_0, vi w156_0, vi w158_0, vi w160_0, vi w162_0, vi w164_0, vi w166_0, vi w168_0, vr b176, vr b178, vi (0 : Int32), vi (0 : Int32)] [(.int (1 : Int32))]))
                          rw [hPf]
                          exact Go.retI' X193 hx hret hlk (by simp) rfl (hb hby at_483) (by decide) (by decide) ⟨rfl, N188, (by rw [e193]; exact KC188)⟩
                        · refine Go.castF (a := ((((is.toUInt32 >>> ((2 : Int32) &&& 31).toUInt32).toInt32) &&& (3 : Int32)) % (3 : Int32))) (b := (2 : Int32)) (fun z' : Int32 => mkF m 223 #[vi is, vi ia, vi ib, vi (0 : Int32), vi z', vi (0 : Int32), vi q6, vi q7, vi q8, vi q9, vi w154_0, vi w156_0, vi w158_0, vi w160_0, vi w162_0, vi w164_0, vi w166_0, vi w168_0, .unset, .unset, .unset, .unset] []) (hm) ?_
                          obtain ⟨T196, h196, X196, e196, E196, A196, D196, -, st196⟩ := newO X168 hx hZ hown hw0 hw1 hw2 e168 (g := (mkF m 223 #[vi is, vi ia, vi ib, vi (0 : Int32), vi (2 : Int32), vi (0 : Int32), vi q6, vi q7, vi q8, vi q9, vi w154_0, vi w156_0, vi w158_0, vi w160_0, vi w162_0, vi w164_0, vi w166_0, vi w168_0, .unset, .unset, .unset, .unset] [])) rfl (hb hby at_223) (by decide) (by decide)
                          obtain ⟨b196, g196⟩ : ∃ z, z = h0.size := ⟨_, rfl⟩
                          rw [← g196] at A196 D196 st196
                          refine Go.by' st196 ?_
                          have g_b196 : n0 ≤ b196 := Nat.le_trans (own_le O0) (Nat.le_of_eq g196.symm)
                          have sz_b196 : h0.size ≤ b196 := Nat.le_trans KC0.1 (Nat.le_of_eq g196.symm)
                          have O196 := O0.ext E196
                          have KC196 : Keep h0 h196 [] := KC0.ext E196
                          have Fn196_22 : Fld Z h196 b196 "java/util/AbstractList" "modCount" "I" (Value.int (0 : Int32)) := D196 (Or.inl hw22) (ty := .int) (by decide)
                          have Fn196_25 : Fld Z h196 b196 "java/util/ArrayList" "elementData" "[Ljava/lang/Object;" Value.null := D196 (Or.inl hw25) (ty := (.array (.object "java/lang/Object"))) (by decide)
                          have Fn196_40 : Fld Z h196 b196 "java/util/ArrayList" "size" "I" (Value.int (0 : Int32)) := D196 (Or.inl hw40) (ty := .int) (by decide)
                          show Go p.tables e below Pf (T196.setTop (mkF m 226 #[vi is, vi ia, vi ib, vi (0 : Int32), vi (2 : Int32), vi (0 : Int32), vi q6, vi q7, vi q8, vi q9, vi w154_0, vi w156_0, vi w158_0, vi w160_0, vi w162_0, vi w164_0, vi w166_0, vi w168_0, .unset, .unset, .unset, .unset] [(.ref b196)]))
                          refine Go.by' (fun t k => (XS.dup X196.here hx rfl (hb hby at_226) rfl rfl k)) ?_
                          obtain ⟨_, _, ⟨T197, L197, k197, n197⟩, -, X197, ⟨Lc197, hQ197, l197, y197, z197⟩, st197⟩ := X196.specialBack hx (y := (⟨"java/util/ArrayList", "<init>", "()V"⟩ : MethodName)) rfl hown (mvT hZ hw3) (mvT hZ hw4) (mvT hZ hw5) (by decide) (backOf (W := 1) (rmAL l Z a0 hw [] wD kD vcs G b196 h196 n0 O196 A196 Fn196_22 Fn196_25 Fn196_40 g_b196) hZ hw5 hw2 (by decide) (by decide)) (g := (mkF m 227 #[vi is, vi ia, vi ib, vi (0 : Int32), vi (2 : Int32), vi (0 : Int32), vi q6, vi q7, vi q8, vi q9, vi w154_0, vi w156_0, vi w158_0, vi w160_0, vi w162_0, vi w164_0, vi w166_0, vi w168_0, .unset, .unset, .unset, .unset] [(.ref b196), (.ref b196)])) rfl (by rw [hml]; rfl) (Steps.refl _) (a := b196) (argsL := []) (rest := [(.ref b196)]) (lenOf pd_5 rfl) rfl (by show 2 * 0 + _ ≤ _; exact Nat.le_of_eq rfl) (hb hby at_227) (fun _ _ => ⟨rfl, e196, (by decide : 1 + 0 ≤ _), (by decide : 3 + 0 ≤ _)⟩)
                          dsimp only [Pt.U, Pt.locs, Pt.cells, Pt.slots] at X197 l197 y197 z197 st197 hQ197
                          subst l197 y197 z197
                          obtain ⟨rfl, N197q, K197, f197_0, f197_1, f197_2, f197_3⟩ := hQ197
                          have N197 := Fr.app N0 N197q
                          obtain ⟨lc197, X197, N197⟩ := own_pack X197 N197
                          refine Go.by' (fun t k => st197.trans k) ?_
                          have O197 := O196.keep K197 (allS g_b196 all0)
                          have KC197 : Keep h0 T197.heap [] := KC196.trans K197 (allS (Or.inr sz_b196) all0)
                          show Go p.tables e below Pf (T197.setTop (mkF m 230 #[vi is, vi ia, vi ib, vi (0 : Int32), vi (2 : Int32), vi (0 : Int32), vi q6, vi q7, vi q8, vi q9, vi w154_0, vi w156_0, vi w158_0, vi w160_0, vi w162_0, vi w164_0, vi w166_0, vi w168_0, .unset, .unset, .unset, .unset] [(.ref b196)]))
                          refine Go.by' (fun t k => (XS.astore X197.here hx rfl (hb hby at_230) rfl rfl (l' := #[vi is, vi ia, vi ib, vi (0 : Int32), vi (2 : Int32), vi (0 : Int32), vi q6, vi q7, vi q8, vi q9, vi w154_0, vi w156_0, vi w158_0, vi w160_0, vi w162_0, vi w164_0, vi w166_0, vi w168_0, vr b196, .unset, .unset, .unset]) rfl (XS.iloadN X197.here hx rfl (hb hby at_232) rfl (XS.iconst X197.here hx rfl (hb hby at_233) (XS.icmpYes X197.here hx rfl (pc0 := 234) (pc' := 264) rfl (hb hby at_234) rfl (tlt (by decide)).1 (by decide) (by decide) (XS.iloadN X197.here hx rfl (hb hby at_264) rfl (XS.iconst X197.here hx rfl (hb hby at_265) (XS.icmpYes X197.here hx rfl (pc0 := 266) (pc' := 296) rfl (hb hby at_266) rfl (tlt (by decide)).1 (by decide) (by decide) (XS.aconstNull X197.here hx rfl (hb hby at_296) k))))))))) ?_
                          show Go p.tables e below Pf (T197.setTop (mkF m 297 #[vi is, vi ia, vi ib, vi (0 : Int32), vi (2 : Int32), vi (0 : Int32), vi q6, vi q7, vi q8, vi q9, vi w154_0, vi w156_0, vi w158_0, vi w160_0, vi w162_0, vi w164_0, vi w166_0, vi w168_0, vr b196, .unset, .unset, .unset] [.null]))
                          refine Go.by' (fun t k => (XS.astore X197.here hx rfl (hb hby at_297) rfl rfl (l' := #[vi is, vi ia, vi ib, vi (0 : Int32), vi (2 : Int32), vi (0 : Int32), vi q6, vi q7, vi q8, vi q9, vi w154_0, vi w156_0, vi w158_0, vi w160_0, vi w162_0, vi w164_0, vi w166_0, vi w168_0, vr b196, .val .null, .unset, .unset]) rfl (XS.iload X197.here hx rfl (hb hby at_299) rfl (XS.ifNo X197.here hx rfl (hb hby at_301) rfl ((if0 _ _).trans (teq (by decide)).2) k)))) ?_
                          obtain ⟨T198, h198, X198, e198, E198, A198, D198, -, st198⟩ := newO X197 hx hZ hown hw0 hw1 hw2 rfl (g := (mkF m 304 #[vi is, vi ia, vi ib, vi (0 : Int32), vi (2 : Int32), vi (0 : Int32), vi q6, vi q7, vi q8, vi q9, vi w154_0, vi w156_0, vi w158_0, vi w160_0, vi w162_0, vi w164_0, vi w166_0, vi w168_0, vr b196, .val .null, .unset, .unset] [])) rfl (hb hby at_304) (by decide) (by decide)
                          obtain ⟨b198, g198⟩ : ∃ z, z = T197.heap.size := ⟨_, rfl⟩
                          rw [← g198] at A198 D198 st198
                          refine Go.by' st198 ?_
                          have g_b198 : n0 ≤ b198 := Nat.le_trans (own_le O197) (Nat.le_of_eq g198.symm)
                          have sz_b198 : h0.size ≤ b198 := Nat.le_trans KC197.1 (Nat.le_of_eq g198.symm)
                          have O198 := O197.ext E198
                          have KC198 : Keep h0 h198 [] := KC197.ext E198
                          have Fn198_22 : Fld Z h198 b198 "java/util/AbstractList" "modCount" "I" (Value.int (0 : Int32)) := D198 (Or.inl hw22) (ty := .int) (by decide)
                          have Fn198_25 : Fld Z h198 b198 "java/util/ArrayList" "elementData" "[Ljava/lang/Object;" Value.null := D198 (Or.inl hw25) (ty := (.array (.object "java/lang/Object"))) (by decide)
                          have Fn198_40 : Fld Z h198 b198 "java/util/ArrayList" "size" "I" (Value.int (0 : Int32)) := D198 (Or.inl hw40) (ty := .int) (by decide)
                          show Go p.tables e below Pf (T198.setTop (mkF m 307 #[vi is, vi ia, vi ib, vi (0 : Int32), vi (2 : Int32), vi (0 : Int32), vi q6, vi q7, vi q8, vi q9, vi w154_0, vi w156_0, vi w158_0, vi w160_0, vi w162_0, vi w164_0, vi w166_0, vi w168_0, vr b196, .val .null, .unset, .unset] [(.ref b198)]))
                          refine Go.by' (fun t k => (XS.dup X198.here hx rfl (hb hby at_307) rfl rfl k)) ?_
                          obtain ⟨_, _, ⟨T199, L199, k199, n199⟩, -, X199, ⟨Lc199, hQ199, l199, y199, z199⟩, st199⟩ := X198.specialBack hx (y := (⟨"java/util/ArrayList", "<init>", "()V"⟩ : MethodName)) rfl hown (mvT hZ hw3) (mvT hZ hw4) (mvT hZ hw5) (by decide) (backOf (W := 1) (rmAL l Z a0 hw [] wD kD vcs G b198 h198 n0 O198 A198 Fn198_22 Fn198_25 Fn198_40 g_b198) hZ hw5 hw2 (by decide) (by decide)) (g := (mkF m 308 #[vi is, vi ia, vi ib, vi (0 : Int32), vi (2 : Int32), vi (0 : Int32), vi q6, vi q7, vi q8, vi q9, vi w154_0, vi w156_0, vi w158_0, vi w160_0, vi w162_0, vi w164_0, vi w166_0, vi w168_0, vr b196, .val .null, .unset, .unset] [(.ref b198), (.ref b198)])) rfl (by rw [hml]; rfl) (Steps.refl _) (a := b198) (argsL := []) (rest := [(.ref b198)]) (lenOf pd_5 rfl) rfl (by show 2 * 0 + _ ≤ _; exact Nat.le_of_eq rfl) (hb hby at_308) (fun _ _ => ⟨rfl, e198, (by decide : 2 + 0 ≤ _), (by decide : 6 + 0 ≤ _)⟩)
                          dsimp only [Pt.U, Pt.locs, Pt.cells, Pt.slots] at X199 l199 y199 z199 st199 hQ199
                          subst l199 y199 z199
                          obtain ⟨rfl, N199q, K199, f199_0, f199_1, f199_2, f199_3⟩ := hQ199
                          have N199 := Fr.app N197 N199q
                          obtain ⟨lc199, X199, N199⟩ := own_pack X199 N199
                          refine Go.by' (fun t k => st199.trans k) ?_
                          have O199 := O198.keep K199 (allS g_b198 all0)
                          have KC199 : Keep h0 T199.heap [] := KC198.trans K199 (allS (Or.inr sz_b198) all0)
                          show Go p.tables e below Pf (T199.setTop (mkF m 311 #[vi is, vi ia, vi ib, vi (0 : Int32), vi (2 : Int32), vi (0 : Int32), vi q6, vi q7, vi q8, vi q9, vi w154_0, vi w156_0, vi w158_0, vi w160_0, vi w162_0, vi w164_0, vi w166_0, vi w168_0, vr b196, .val .null, .unset, .unset] [(.ref b198)]))
                          refine Go.by' (fun t k => (XS.astore X199.here hx rfl (hb hby at_311) rfl rfl (l' := #[vi is, vi ia, vi ib, vi (0 : Int32), vi (2 : Int32), vi (0 : Int32), vi q6, vi q7, vi q8, vi q9, vi w154_0, vi w156_0, vi w158_0, vi w160_0, vi w162_0, vi w164_0, vi w166_0, vi w168_0, vr b196, vr b198, .unset, .unset]) rfl (XS.iload X199.here hx rfl (hb hby at_313) rfl (XS.iconst X199.here hx rfl (hb hby at_315) (XS.icmpNo X199.here hx rfl (hb hby at_316) rfl (flt (by decide)).1 (XS.aload X199.here hx rfl (hb hby at_319) rfl rfl k)))))) ?_
                          obtain ⟨T200, h200, X200, e200, E200, A200, D200, -, st200⟩ := newO X199 hx hZ hown hw41 hw42 hw28 rfl (g := (mkF m 321 #[vi is, vi ia, vi ib, vi (0 : Int32), vi (2 : Int32), vi (0 : Int32), vi q6, vi q7, vi q8, vi q9, vi w154_0, vi w156_0, vi w158_0, vi w160_0, vi w162_0, vi w164_0, vi w166_0, vi w168_0, vr b196, vr b198, .unset, .unset] [(.ref b198)])) rfl (hb hby at_321) (by decide) (by decide)
                          obtain ⟨b200, g200⟩ : ∃ z, z = T199.heap.size := ⟨_, rfl⟩
                          rw [← g200] at A200 D200 st200
                          refine Go.by' st200 ?_
                          have g_b200 : n0 ≤ b200 := Nat.le_trans (own_le O199) (Nat.le_of_eq g200.symm)
                          have sz_b200 : h0.size ≤ b200 := Nat.le_trans KC199.1 (Nat.le_of_eq g200.symm)
                          have O200 := O199.ext E200
                          have KC200 : Keep h0 h200 [] := KC199.ext E200
                          have Fn200_85 : Fld Z h200 b200 "com/example/slatewipe/slatewipe/vendors/mariadb/Columns$Column" "name" "Ljava/lang/String;" Value.null := D200 (Or.inr hw85) (ty := (.object "java/lang/String")) (by decide)
                          have Fn200_87 : Fld Z h200 b200 "com/example/slatewipe/slatewipe/vendors/mariadb/Columns$Column" "type" "Ljava/lang/String;" Value.null := D200 (Or.inr hw87) (ty := (.object "java/lang/String")) (by decide)
                          have Fn200_89 : Fld Z h200 b200 "com/example/slatewipe/slatewipe/vendors/mariadb/Columns$Column" "nullable" "Z" (Value.int (0 : Int32)) := D200 (Or.inr hw89) (ty := .boolean) (by decide)
                          show Go p.tables e below Pf (T200.setTop (mkF m 324 #[vi is, vi ia, vi ib, vi (0 : Int32), vi (2 : Int32), vi (0 : Int32), vi q6, vi q7, vi q8, vi q9, vi w154_0, vi w156_0, vi w158_0, vi w160_0, vi w162_0, vi w164_0, vi w166_0, vi w168_0, vr b196, vr b198, .unset, .unset] [(.ref b200), (.ref b198)]))
                          refine Go.by' (fun t k => (XS.dup X200.here hx rfl (hb hby at_324) rfl rfl (XS.iload X200.here hx rfl (hb hby at_325) rfl k))) ?_
                          obtain ⟨_, _, ⟨T201, L201, k201, n201⟩, -, X201, ⟨Lc201, hQ201, l201, y201, z201⟩, st201⟩ := Jvm.LawKit.callS X200 hx (y := (⟨"com/example/slatewipe/slatewipe/vendors/mariadb/ColumnSameTypesPinLaw", "str", "(I)Ljava/lang/String;"⟩ : MethodName)) hown (mvT hZ hw43) (mvT hZ hw44) (mvT hZ hw45) (mvT hZ hw46) (by decide) (backOf (W := 3) (rmStr l Z a0 hw [] wD kD vcs G w154_0 h200 n0 O200 bd10.1 bd10.2) hZ hw46 hw45 (by decide) (by decide)) (g := (mkF m 327 #[vi is, vi ia, vi ib, vi (0 : Int32), vi (2 : Int32), vi (0 : Int32), vi q6, vi q7, vi q8, vi q9, vi w154_0, vi w156_0, vi w158_0, vi w160_0, vi w162_0, vi w164_0, vi w166_0, vi w168_0, vr b196, vr b198, .unset, .unset] [(.int w154_0), (.ref b200), (.ref b200), (.ref b198)])) rfl (by rw [hml]; rfl) (argsL := [(.int w154_0)]) (rest := [(.ref b200), (.ref b200), (.ref b198)]) (lenOf pd_16 rfl) rfl (by show 2 * 0 + _ ≤ _; exact Nat.le_of_eq rfl) (hb hby at_327) (fun _ _ => ⟨rfl, e200, (by decide : 3 + 3 ≤ _), (by decide : 9 + 6 ≤ _)⟩)
                          dsimp only [Pt.U, Pt.locs, Pt.cells, Pt.slots] at X201 l201 y201 z201 st201 hQ201
                          subst l201 y201 z201
                          obtain ⟨r_201, rb_201, kb_201, rfl, N201q, K201, f201_0, f201_1, f201_2, f201_3, f201_4, f201_5⟩ := hQ201
                          have N201 := Fr.app N199 N201q
                          obtain ⟨lc201, X201, N201⟩ := own_pack X201 N201
                          refine Go.by' st201 ?_
                          have g_r_201 : n0 ≤ r_201 := Nat.le_trans (own_le O200) f201_1
                          have sz_r_201 : h0.size ≤ r_201 := Nat.le_trans KC200.1 f201_1
                          have g_rb_201 : n0 ≤ rb_201 := Nat.le_trans (own_le O200) f201_5
                          have sz_rb_201 : h0.size ≤ rb_201 := Nat.le_trans KC200.1 f201_5
                          have O201 := O200.keep K201 all0
                          have KC201 : Keep h0 T201.heap [] := KC200.trans K201 all0
                          show Go p.tables e below Pf (T201.setTop (mkF m 330 #[vi is, vi ia, vi ib, vi (0 : Int32), vi (2 : Int32), vi (0 : Int32), vi q6, vi q7, vi q8, vi q9, vi w154_0, vi w156_0, vi w158_0, vi w160_0, vi w162_0, vi w164_0, vi w166_0, vi w168_0, vr b196, vr b198, .unset, .unset] [(.ref r_201), (.ref b200), (.ref b200), (.ref b198)]))
                          refine Go.by' (fun t k => (XS.iload X201.here hx rfl (hb hby at_330) rfl k)) ?_
                          obtain ⟨_, _, ⟨T202, L202, k202, n202⟩, -, X202, ⟨Lc202, hQ202, l202, y202, z202⟩, st202⟩ := Jvm.LawKit.callS X201 hx (y := (⟨"com/example/slatewipe/slatewipe/vendors/mariadb/ColumnSameTypesPinLaw", "str", "(I)Ljava/lang/String;"⟩ : MethodName)) hown (mvT hZ hw43) (mvT hZ hw44) (mvT hZ hw45) (mvT hZ hw46) (by decide) (backOf (W := 4) (rmStr l Z a0 hw [] wD kD vcs G w156_0 T201.heap n0 O201 bd11.1 bd11.2) hZ hw46 hw45 (by decide) (by decide)) (g := (mkF m 332 #[vi is, vi ia, vi ib, vi (0 : Int32), vi (2 : Int32), vi (0 : Int32), vi q6, vi q7, vi q8, vi q9, vi w154_0, vi w156_0, vi w158_0, vi w160_0, vi w162_0, vi w164_0, vi w166_0, vi w168_0, vr b196, vr b198, .unset, .unset] [(.int w156_0), (.ref r_201), (.ref b200), (.ref b200), (.ref b198)])) rfl (by rw [hml]; rfl) (argsL := [(.int w156_0)]) (rest := [(.ref r_201), (.ref b200), (.ref b200), (.ref b198)]) (lenOf pd_16 rfl) rfl (by show 2 * 0 + _ ≤ _; exact Nat.le_of_eq rfl) (hb hby at_332) (fun _ _ => ⟨rfl, rfl, (by decide : 6 + 3 ≤ _), (by decide : 15 + 6 ≤ _)⟩)
                          dsimp only [Pt.U, Pt.locs, Pt.cells, Pt.slots] at X202 l202 y202 z202 st202 hQ202
                          subst l202 y202 z202
                          obtain ⟨r_202, rb_202, kb_202, rfl, N202q, K202, f202_0, f202_1, f202_2, f202_3, f202_4, f202_5⟩ := hQ202
                          have N202 := Fr.app N201 N202q
                          obtain ⟨lc202, X202, N202⟩ := own_pack X202 N202
                          refine Go.by' st202 ?_
                          have g_r_202 : n0 ≤ r_202 := Nat.le_trans (own_le O201) f202_1
                          have sz_r_202 : h0.size ≤ r_202 := Nat.le_trans KC201.1 f202_1
                          have g_rb_202 : n0 ≤ rb_202 := Nat.le_trans (own_le O201) f202_5
                          have sz_rb_202 : h0.size ≤ rb_202 := Nat.le_trans KC201.1 f202_5
                          have O202 := O201.keep K202 all0
                          have KC202 : Keep h0 T202.heap [] := KC201.trans K202 all0
                          show Go p.tables e below Pf (T202.setTop (mkF m 335 #[vi is, vi ia, vi ib, vi (0 : Int32), vi (2 : Int32), vi (0 : Int32), vi q6, vi q7, vi q8, vi q9, vi w154_0, vi w156_0, vi w158_0, vi w160_0, vi w162_0, vi w164_0, vi w166_0, vi w168_0, vr b196, vr b198, .unset, .unset] [(.ref r_202), (.ref r_201), (.ref b200), (.ref b200), (.ref b198)]))
                          refine Go.by' (fun t k => (XS.iload X202.here hx rfl (hb hby at_335) rfl k)) ?_
                          have c204 := ((A200.keep K201).keep K202)
                          have c205 := ((Fn200_85.keep K201 nin0).keep K202 nin0)
                          have c206 := ((Fn200_87.keep K201 nin0).keep K202 nin0)
                          have c207 := ((Fn200_89.keep K201 nin0).keep K202 nin0)
                          obtain ⟨_, _, ⟨T203, L203, k203, n203⟩, -, X203, ⟨Lc203, hQ203, l203, y203, z203⟩, st203⟩ := X202.specialBack hx (y := (⟨"com/example/slatewipe/slatewipe/vendors/mariadb/Columns$Column", "<init>", "(Ljava/lang/String;Ljava/lang/String;Z)V"⟩ : MethodName)) rfl hown (mvT hZ hw75) (mvT hZ hw76) (mvT hZ hw77) (by decide) (backOf (W := 2) (rmCol l Z a0 hw [] wD kD vcs G b200 r_201 r_202 w166_0 T202.heap n0 O202 c204 c205 c206 c207 g_b200 bw166_0) hZ hw77 hw28 (by decide) (by decide)) (g := (mkF m 337 #[vi is, vi ia, vi ib, vi (0 : Int32), vi (2 : Int32), vi (0 : Int32), vi q6, vi q7, vi q8, vi q9, vi w154_0, vi w156_0, vi w158_0, vi w160_0, vi w162_0, vi w164_0, vi w166_0, vi w168_0, vr b196, vr b198, .unset, .unset] [(.int w166_0), (.ref r_202), (.ref r_201), (.ref b200), (.ref b200), (.ref b198)])) rfl (by rw [hml]; rfl) (Steps.refl _) (a := b200) (argsL := [(.ref r_201), (.ref r_202), (.int w166_0)]) (rest := [(.ref b200), (.ref b198)]) (lenOf pd_17 rfl) rfl (by show 2 * 0 + _ ≤ _; exact Nat.le_of_eq rfl) (hb hby at_337) (fun _ _ => ⟨rfl, rfl, (by decide : 9 + 0 ≤ _), (by decide : 21 + 0 ≤ _)⟩)
                          dsimp only [Pt.U, Pt.locs, Pt.cells, Pt.slots] at X203 l203 y203 z203 st203 hQ203
                          subst l203 y203 z203
                          obtain ⟨rfl, N203q, K203, f203_0, f203_1, f203_2⟩ := hQ203
                          have N203 := Fr.app N202 N203q
                          obtain ⟨lc203, X203, N203⟩ := own_pack X203 N203
                          refine Go.by' (fun t k => st203.trans k) ?_
                          have O203 := O202.keep K203 (allS g_b200 all0)
                          have KC203 : Keep h0 T203.heap [] := KC202.trans K203 (allS (Or.inr sz_b200) all0)
                          have c209 := ((((f199_0.ext E200).keep K201).keep K202).keep K203)
                          have c210 := ((((f199_3.ext E200).keep K201 nin0).keep K202 nin0).keep K203 (ninS (Nat.ne_of_lt (Nat.lt_of_lt_of_le (Nat.lt_of_lt_of_le A198.lt K199.1) (Nat.le_of_eq g200.symm))) nin0))
                          have c211 := ((((f199_2.ext E200).keep K201 nin0).keep K202 nin0).keep K203 (ninS (Nat.ne_of_lt (Nat.lt_of_lt_of_le (Nat.lt_of_lt_of_le A198.lt K199.1) (Nat.le_of_eq g200.symm))) nin0))
                          have c212 := ((((f199_1.ext E200).keep K201 nin0).keep K202 nin0).keep K203 (ninS (Nat.ne_of_lt (Nat.lt_of_lt_of_le (Nat.lt_of_lt_of_le A198.lt K199.1) (Nat.le_of_eq g200.symm))) nin0))
                          obtain ⟨cq208, kq208, q208a, q208b, q208c⟩ := isOf hZ rfl c209
                          obtain ⟨_, _, ⟨T208, L208, k208, n208⟩, -, X208, ⟨Lc208, hQ208, l208, y208, z208⟩, st208⟩ := X203.interfaceBack hx (xi := (⟨"java/util/List", "add", "(Ljava/lang/Object;)Z"⟩ : MethodName)) (y := (⟨"java/util/ArrayList", "add", "(Ljava/lang/Object;)Z"⟩ : MethodName)) hown (mvT hZ hw90) (mvT hZ hw91) (mvT hZ hw92) (mvT hZ hw93) (mvT hZ hw94) (mvT hZ hw95) (mvT hZ hw96) (mvT hZ hw37) (by decide) (backOf (W := 0) (rmA1_0 l Z a0 hw [] wD kD vcs G b198 b200 ((0 : Int32)) T203.heap n0 O203 c209 c210 c211 c212 g_b198 f203_0) hZ hw97 hw2 (by decide) (by decide)) q208a q208b q208c (g := (mkF m 340 #[vi is, vi ia, vi ib, vi (0 : Int32), vi (2 : Int32), vi (0 : Int32), vi q6, vi q7, vi q8, vi q9, vi w154_0, vi w156_0, vi w158_0, vi w160_0, vi w162_0, vi w164_0, vi w166_0, vi w168_0, vr b196, vr b198, .unset, .unset] [(.ref b200), (.ref b198)])) rfl (by rw [hml]; rfl) (Steps.refl _) (argsL := [(.ref b200)]) (rest := []) (lenOf pd_14 rfl) rfl (by show 2 * 0 + _ ≤ _; exact Nat.le_of_eq rfl) (hb hby at_340) (fun _ _ => ⟨rfl, rfl, (by decide : 9 + 1 ≤ _), (by decide : 21 + 10 ≤ _)⟩)
                          dsimp only [Pt.U, Pt.locs, Pt.cells, Pt.slots] at X208 l208 y208 z208 st208 hQ208
                          subst l208 y208 z208
                          obtain ⟨r_208, kk_208, rfl, N208q, K208, f208_0, f208_1, f208_2, f208_3, f208_4, f208_5, r208_0⟩ := hQ208
                          have N208 := Fr.app N203 N208q
                          obtain ⟨lc208, X208, N208⟩ := own_pack X208 N208
                          refine Go.by' (fun t k => st208.trans k) ?_
                          have g_r_208 : n0 ≤ r_208 := Nat.le_trans (own_le O203) f208_1
                          have sz_r_208 : h0.size ≤ r_208 := Nat.le_trans KC203.1 f208_1
                          have O208 := O203.keep K208 (allS g_b198 all0)
                          have KC208 : Keep h0 T208.heap [] := KC203.trans K208 (allS (Or.inr sz_b198) all0)
                          show Go p.tables e below Pf (T208.setTop (mkF m 345 #[vi is, vi ia, vi ib, vi (0 : Int32), vi (2 : Int32), vi (0 : Int32), vi q6, vi q7, vi q8, vi q9, vi w154_0, vi w156_0, vi w158_0, vi w160_0, vi w162_0, vi w164_0, vi w166_0, vi w168_0, vr b196, vr b198, .unset, .unset] [(.int (1 : Int32))]))
                          refine Go.by' (fun t k => (XS.pop X208.here hx rfl (hb hby at_345) rfl rfl (XS.iload X208.here hx rfl (hb hby at_346) rfl (XS.iconst X208.here hx rfl (hb hby at_348) (XS.icmpNo X208.here hx rfl (hb hby at_349) rfl (flt (by decide)).1 (XS.aload X208.here hx rfl (hb hby at_352) rfl rfl k)))))) ?_
                          obtain ⟨T213, h213, X213, e213, E213, A213, D213, -, st213⟩ := newO X208 hx hZ hown hw41 hw42 hw28 rfl (g := (mkF m 354 #[vi is, vi ia, vi ib, vi (0 : Int32), vi (2 : Int32), vi (0 : Int32), vi q6, vi q7, vi q8, vi q9, vi w154_0, vi w156_0, vi w158_0, vi w160_0, vi w162_0, vi w164_0, vi w166_0, vi w168_0, vr b196, vr b198, .unset, .unset] [(.ref b198)])) rfl (hb hby at_354) (by decide) (by decide)
                          obtain ⟨b213, g213⟩ : ∃ z, z = T208.heap.size := ⟨_, rfl⟩
                          rw [← g213] at A213 D213 st213
                          refine Go.by' st213 ?_
                          have g_b213 : n0 ≤ b213 := Nat.le_trans (own_le O208) (Nat.le_of_eq g213.symm)
                          have sz_b213 : h0.size ≤ b213 := Nat.le_trans KC208.1 (Nat.le_of_eq g213.symm)
                          have O213 := O208.ext E213
                          have KC213 : Keep h0 h213 [] := KC208.ext E213
                          have Fn213_85 : Fld Z h213 b213 "com/example/slatewipe/slatewipe/vendors/mariadb/Columns$Column" "name" "Ljava/lang/String;" Value.null := D213 (Or.inr hw85) (ty := (.object "java/lang/String")) (by decide)
                          have Fn213_87 : Fld Z h213 b213 "com/example/slatewipe/slatewipe/vendors/mariadb/Columns$Column" "type" "Ljava/lang/String;" Value.null := D213 (Or.inr hw87) (ty := (.object "java/lang/String")) (by decide)
                          have Fn213_89 : Fld Z h213 b213 "com/example/slatewipe/slatewipe/vendors/mariadb/Columns$Column" "nullable" "Z" (Value.int (0 : Int32)) := D213 (Or.inr hw89) (ty := .boolean) (by decide)
                          show Go p.tables e below Pf (T213.setTop (mkF m 357 #[vi is, vi ia, vi ib, vi (0 : Int32), vi (2 : Int32), vi (0 : Int32), vi q6, vi q7, vi q8, vi q9, vi w154_0, vi w156_0, vi w158_0, vi w160_0, vi w162_0, vi w164_0, vi w166_0, vi w168_0, vr b196, vr b198, .unset, .unset] [(.ref b213), (.ref b198)]))
                          refine Go.by' (fun t k => (XS.dup X213.here hx rfl (hb hby at_357) rfl rfl (XS.iload X213.here hx rfl (hb hby at_358) rfl k))) ?_
                          obtain ⟨_, _, ⟨T214, L214, k214, n214⟩, -, X214, ⟨Lc214, hQ214, l214, y214, z214⟩, st214⟩ := Jvm.LawKit.callS X213 hx (y := (⟨"com/example/slatewipe/slatewipe/vendors/mariadb/ColumnSameTypesPinLaw", "str", "(I)Ljava/lang/String;"⟩ : MethodName)) hown (mvT hZ hw43) (mvT hZ hw44) (mvT hZ hw45) (mvT hZ hw46) (by decide) (backOf (W := 3) (rmStr l Z a0 hw [] wD kD vcs G w158_0 h213 n0 O213 bd12.1 bd12.2) hZ hw46 hw45 (by decide) (by decide)) (g := (mkF m 360 #[vi is, vi ia, vi ib, vi (0 : Int32), vi (2 : Int32), vi (0 : Int32), vi q6, vi q7, vi q8, vi q9, vi w154_0, vi w156_0, vi w158_0, vi w160_0, vi w162_0, vi w164_0, vi w166_0, vi w168_0, vr b196, vr b198, .unset, .unset] [(.int w158_0), (.ref b213), (.ref b213), (.ref b198)])) rfl (by rw [hml]; rfl) (argsL := [(.int w158_0)]) (rest := [(.ref b213), (.ref b213), (.ref b198)]) (lenOf pd_16 rfl) rfl (by show 2 * 0 + _ ≤ _; exact Nat.le_of_eq rfl) (hb hby at_360) (fun _ _ => ⟨rfl, e213, (by decide : 11 + 3 ≤ _), (by decide : 34 + 6 ≤ _)⟩)
                          dsimp only [Pt.U, Pt.locs, Pt.cells, Pt.slots] at X214 l214 y214 z214 st214 hQ214
                          subst l214 y214 z214
                          obtain ⟨r_214, rb_214, kb_214, rfl, N214q, K214, f214_0, f214_1, f214_2, f214_3, f214_4, f214_5⟩ := hQ214
                          have N214 := Fr.app N208 N214q
                          obtain ⟨lc214, X214, N214⟩ := own_pack X214 N214
                          refine Go.by' st214 ?_
                          have g_r_214 : n0 ≤ r_214 := Nat.le_trans (own_le O213) f214_1
                          have sz_r_214 : h0.size ≤ r_214 := Nat.le_trans KC213.1 f214_1
                          have g_rb_214 : n0 ≤ rb_214 := Nat.le_trans (own_le O213) f214_5
                          have sz_rb_214 : h0.size ≤ rb_214 := Nat.le_trans KC213.1 f214_5
                          have O214 := O213.keep K214 all0
                          have KC214 : Keep h0 T214.heap [] := KC213.trans K214 all0
                          show Go p.tables e below Pf (T214.setTop (mkF m 363 #[vi is, vi ia, vi ib, vi (0 : Int32), vi (2 : Int32), vi (0 : Int32), vi q6, vi q7, vi q8, vi q9, vi w154_0, vi w156_0, vi w158_0, vi w160_0, vi w162_0, vi w164_0, vi w166_0, vi w168_0, vr b196, vr b198, .unset, .unset] [(.ref r_214), (.ref b213), (.ref b213), (.ref b198)]))
                          refine Go.by' (fun t k => (XS.iload X214.here hx rfl (hb hby at_363) rfl k)) ?_
                          obtain ⟨_, _, ⟨T215, L215, k215, n215⟩, -, X215, ⟨Lc215, hQ215, l215, y215, z215⟩, st215⟩ := Jvm.LawKit.callS X214 hx (y := (⟨"com/example/slatewipe/slatewipe/vendors/mariadb/ColumnSameTypesPinLaw", "str", "(I)Ljava/lang/String;"⟩ : MethodName)) hown (mvT hZ hw43) (mvT hZ hw44) (mvT hZ hw45) (mvT hZ hw46) (by decide) (backOf (W := 4) (rmStr l Z a0 hw [] wD kD vcs G w160_0 T214.heap n0 O214 bd13.1 bd13.2) hZ hw46 hw45 (by decide) (by decide)) (g := (mkF m 365 #[vi is, vi ia, vi ib, vi (0 : Int32), vi (2 : Int32), vi (0 : Int32), vi q6, vi q7, vi q8, vi q9, vi w154_0, vi w156_0, vi w158_0, vi w160_0, vi w162_0, vi w164_0, vi w166_0, vi w168_0, vr b196, vr b198, .unset, .unset] [(.int w160_0), (.ref r_214), (.ref b213), (.ref b213), (.ref b198)])) rfl (by rw [hml]; rfl) (argsL := [(.int w160_0)]) (rest := [(.ref r_214), (.ref b213), (.ref b213), (.ref b198)]) (lenOf pd_16 rfl) rfl (by show 2 * 0 + _ ≤ _; exact Nat.le_of_eq rfl) (hb hby at_365) (fun _ _ => ⟨rfl, rfl, (by decide : 14 + 3 ≤ _), (by decide : 40 + 6 ≤ _)⟩)
                          dsimp only [Pt.U, Pt.locs, Pt.cells, Pt.slots] at X215 l215 y215 z215 st215 hQ215
                          subst l215 y215 z215
                          obtain ⟨r_215, rb_215, kb_215, rfl, N215q, K215, f215_0, f215_1, f215_2, f215_3, f215_4, f215_5⟩ := hQ215
                          have N215 := Fr.app N214 N215q
                          obtain ⟨lc215, X215, N215⟩ := own_pack X215 N215
                          refine Go.by' st215 ?_
                          have g_r_215 : n0 ≤ r_215 := Nat.le_trans (own_le O214) f215_1
                          have sz_r_215 : h0.size ≤ r_215 := Nat.le_trans KC214.1 f215_1
                          have g_rb_215 : n0 ≤ rb_215 := Nat.le_trans (own_le O214) f215_5
                          have sz_rb_215 : h0.size ≤ rb_215 := Nat.le_trans KC214.1 f215_5
                          have O215 := O214.keep K215 all0
                          have KC215 : Keep h0 T215.heap [] := KC214.trans K215 all0
                          show Go p.tables e below Pf (T215.setTop (mkF m 368 #[vi is, vi ia, vi ib, vi (0 : Int32), vi (2 : Int32), vi (0 : Int32), vi q6, vi q7, vi q8, vi q9, vi w154_0, vi w156_0, vi w158_0, vi w160_0, vi w162_0, vi w164_0, vi w166_0, vi w168_0, vr b196, vr b198, .unset, .unset] [(.ref r_215), (.ref r_214), (.ref b213), (.ref b213), (.ref b198)]))
                          refine Go.by' (fun t k => (XS.iload X215.here hx rfl (hb hby at_368) rfl k)) ?_
                          have c217 := ((A213.keep K214).keep K215)
                          have c218 := ((Fn213_85.keep K214 nin0).keep K215 nin0)
                          have c219 := ((Fn213_87.keep K214 nin0).keep K215 nin0)
                          have c220 := ((Fn213_89.keep K214 nin0).keep K215 nin0)
                          obtain ⟨_, _, ⟨T216, L216, k216, n216⟩, -, X216, ⟨Lc216, hQ216, l216, y216, z216⟩, st216⟩ := X215.specialBack hx (y := (⟨"com/example/slatewipe/slatewipe/vendors/mariadb/Columns$Column", "<init>", "(Ljava/lang/String;Ljava/lang/String;Z)V"⟩ : MethodName)) rfl hown (mvT hZ hw75) (mvT hZ hw76) (mvT hZ hw77) (by decide) (backOf (W := 2) (rmCol l Z a0 hw [] wD kD vcs G b213 r_214 r_215 w168_0 T215.heap n0 O215 c217 c218 c219 c220 g_b213 bw168_0) hZ hw77 hw28 (by decide) (by decide)) (g := (mkF m 370 #[vi is, vi ia, vi ib, vi (0 : Int32), vi (2 : Int32), vi (0 : Int32), vi q6, vi q7, vi q8, vi q9, vi w154_0, vi w156_0, vi w158_0, vi w160_0, vi w162_0, vi w164_0, vi w166_0, vi w168_0, vr b196, vr b198, .unset, .unset] [(.int w168_0), (.ref r_215), (.ref r_214), (.ref b213), (.ref b213), (.ref b198)])) rfl (by rw [hml]; rfl) (Steps.refl _) (a := b213) (argsL := [(.ref r_214), (.ref r_215), (.int w168_0)]) (rest := [(.ref b213), (.ref b198)]) (lenOf pd_17 rfl) rfl (by show 2 * 0 + _ ≤ _; exact Nat.le_of_eq rfl) (hb hby at_370) (fun _ _ => ⟨rfl, rfl, (by decide : 17 + 0 ≤ _), (by decide : 46 + 0 ≤ _)⟩)
                          dsimp only [Pt.U, Pt.locs, Pt.cells, Pt.slots] at X216 l216 y216 z216 st216 hQ216
                          subst l216 y216 z216
                          obtain ⟨rfl, N216q, K216, f216_0, f216_1, f216_2⟩ := hQ216
                          have N216 := Fr.app N215 N216q
                          obtain ⟨lc216, X216, N216⟩ := own_pack X216 N216
                          refine Go.by' (fun t k => st216.trans k) ?_
                          have O216 := O215.keep K216 (allS g_b213 all0)
                          have KC216 : Keep h0 T216.heap [] := KC215.trans K216 (allS (Or.inr sz_b213) all0)
                          have c222 := ((((f208_0.ext E213).keep K214 nin0).keep K215 nin0).keep K216 (ninS (Nat.ne_of_lt (Nat.lt_of_lt_of_le f208_0.lt (Nat.le_of_eq g213.symm))) nin0))
                          have c223 := ((((f208_2.ext E213).keep K214).keep K215).keep K216)
                          have c224 := ((((f208_4.ext E213).keep K214 nin0).keep K215 nin0).keep K216 (ninS (Nat.ne_of_lt (Nat.lt_of_lt_of_le (Nat.lt_of_lt_of_le A198.lt (Nat.le_trans K199.1 (Nat.le_trans E200.1 (Nat.le_trans K201.1 (Nat.le_trans K202.1 (Nat.le_trans K203.1 K208.1)))))) (Nat.le_of_eq g213.symm))) nin0))
                          have c225 := ((((f208_3.ext E213).keep K214 nin0).keep K215 nin0).keep K216 (ninS (Nat.ne_of_lt (Nat.lt_of_lt_of_le (Nat.lt_of_lt_of_le A198.lt (Nat.le_trans K199.1 (Nat.le_trans E200.1 (Nat.le_trans K201.1 (Nat.le_trans K202.1 (Nat.le_trans K203.1 K208.1)))))) (Nat.le_of_eq g213.symm))) nin0))
                          have c226 := ((((f208_5.ext E213).keep K214 nin0).keep K215 nin0).keep K216 (ninS (Nat.ne_of_lt (Nat.lt_of_lt_of_le (Nat.lt_of_lt_of_le A198.lt (Nat.le_trans K199.1 (Nat.le_trans E200.1 (Nat.le_trans K201.1 (Nat.le_trans K202.1 (Nat.le_trans K203.1 K208.1)))))) (Nat.le_of_eq g213.symm))) nin0))
                          obtain ⟨cq221, kq221, q221a, q221b, q221c⟩ := isOf hZ rfl c223
                          obtain ⟨_, _, ⟨T221, L221, k221, n221⟩, -, X221, ⟨Lc221, hQ221, l221, y221, z221⟩, st221⟩ := X216.interfaceBack hx (xi := (⟨"java/util/List", "add", "(Ljava/lang/Object;)Z"⟩ : MethodName)) (y := (⟨"java/util/ArrayList", "add", "(Ljava/lang/Object;)Z"⟩ : MethodName)) hown (mvT hZ hw90) (mvT hZ hw91) (mvT hZ hw92) (mvT hZ hw93) (mvT hZ hw94) (mvT hZ hw95) (mvT hZ hw96) (mvT hZ hw37) (by decide) (backOf (W := 0) (rmA1_1 l Z a0 hw [] wD kD vcs G b198 b213 (((0 : Int32) + (1 : Int32))) r_208 kk_208 b200 T216.heap n0 O216 c223 c224 c225 c226 g_b198 g_r_208 c222 f216_0 (Nat.ne_of_lt (Nat.lt_of_lt_of_le (Nat.lt_of_lt_of_le A198.lt (Nat.le_trans K199.1 (Nat.le_trans E200.1 (Nat.le_trans K201.1 (Nat.le_trans K202.1 K203.1))))) f208_1)) r208_0) hZ hw97 hw2 (by decide) (by decide)) q221a q221b q221c (g := (mkF m 373 #[vi is, vi ia, vi ib, vi (0 : Int32), vi (2 : Int32), vi (0 : Int32), vi q6, vi q7, vi q8, vi q9, vi w154_0, vi w156_0, vi w158_0, vi w160_0, vi w162_0, vi w164_0, vi w166_0, vi w168_0, vr b196, vr b198, .unset, .unset] [(.ref b213), (.ref b198)])) rfl (by rw [hml]; rfl) (Steps.refl _) (argsL := [(.ref b213)]) (rest := []) (lenOf pd_14 rfl) rfl (by show 2 * 0 + _ ≤ _; exact Nat.le_of_eq rfl) (hb hby at_373) (fun _ _ => ⟨rfl, rfl, (by decide : 17 + 0 ≤ _), (by decide : 46 + 0 ≤ _)⟩)
                          dsimp only [Pt.U, Pt.locs, Pt.cells, Pt.slots] at X221 l221 y221 z221 st221 hQ221
                          subst l221 y221 z221
                          obtain ⟨rfl, N221q, K221, f221_0, f221_1, f221_2, f221_3, f221_4⟩ := hQ221
                          have N221 := Fr.app N216 N221q
                          obtain ⟨lc221, X221, N221⟩ := own_pack X221 N221
                          refine Go.by' (fun t k => st221.trans k) ?_
                          have O221 := O216.keep K221 (allS g_b198 (allS g_r_208 all0))
                          have KC221 : Keep h0 T221.heap [] := KC216.trans K221 (allS (Or.inr sz_b198) (allS (Or.inr sz_r_208) all0))
                          show Go p.tables e below Pf (T221.setTop (mkF m 378 #[vi is, vi ia, vi ib, vi (0 : Int32), vi (2 : Int32), vi (0 : Int32), vi q6, vi q7, vi q8, vi q9, vi w154_0, vi w156_0, vi w158_0, vi w160_0, vi w162_0, vi w164_0, vi w166_0, vi w168_0, vr b196, vr b198, .unset, .unset] [(.int (1 : Int32))]))
                          refine Go.by' (fun t k => (XS.pop X221.here hx rfl (hb hby at_378) rfl rfl (XS.aload X221.here hx rfl (hb hby at_379) rfl rfl (XS.aload X221.here hx rfl (hb hby at_381) rfl rfl k)))) ?_
                          have c228 := ((((((((((((f197_0.ext E198).keep K199).ext E200).keep K201).keep K202).keep K203).keep K208).ext E213).keep K214).keep K215).keep K216).keep K221)
                          have c229 := ((((((((((((f197_3.ext E198).keep K199 (ninS (Nat.ne_of_lt (Nat.lt_of_lt_of_le (Nat.lt_of_lt_of_le A196.lt K197.1) (Nat.le_of_eq g198.symm))) nin0)).ext E200).keep K201 nin0).keep K202 nin0).keep K203 (ninS (Nat.ne_of_lt (Nat.lt_of_lt_of_le (Nat.lt_of_lt_of_le A196.lt (Nat.le_trans K197.1 (Nat.le_trans E198.1 K199.1))) (Nat.le_of_eq g200.symm))) nin0)).keep K208 (ninS (Nat.ne_of_lt (Nat.lt_of_lt_of_le (Nat.lt_of_lt_of_le A196.lt K197.1) (Nat.le_of_eq g198.symm))) nin0)).ext E213).keep K214 nin0).keep K215 nin0).keep K216 (ninS (Nat.ne_of_lt (Nat.lt_of_lt_of_le (Nat.lt_of_lt_of_le A196.lt (Nat.le_trans K197.1 (Nat.le_trans E198.1 (Nat.le_trans K199.1 (Nat.le_trans E200.1 (Nat.le_trans K201.1 (Nat.le_trans K202.1 (Nat.le_trans K203.1 K208.1)))))))) (Nat.le_of_eq g213.symm))) nin0)).keep K221 (ninS (Nat.ne_of_lt (Nat.lt_of_lt_of_le (Nat.lt_of_lt_of_le A196.lt K197.1) (Nat.le_of_eq g198.symm))) (ninS (Nat.ne_of_lt (Nat.lt_of_lt_of_le (Nat.lt_of_lt_of_le A196.lt (Nat.le_trans K197.1 (Nat.le_trans E198.1 (Nat.le_trans K199.1 (Nat.le_trans E200.1 (Nat.le_trans K201.1 (Nat.le_trans K202.1 K203.1))))))) f208_1)) nin0)))
                          obtain ⟨_, _, ⟨T227, L227, k227, n227⟩, -, X227, ⟨Lc227, hQ227, l227, y227, z227⟩, st227⟩ := Jvm.LawKit.callS X221 hx (y := (⟨"com/example/slatewipe/slatewipe/vendors/mariadb/Columns$Column", "sameTypes", "(Ljava/util/List;Ljava/util/List;)Z"⟩ : MethodName)) hown (mvT hZ hw26) (mvT hZ hw27) (mvT hZ hw28) (mvT hZ hw29) (by decide) (backOf (W := 0) (rmTd l Z a0 hw [] wD kD vcs G b196 b198 ((0 : Int32)) ((2 : Int32)) T221.heap n0 O221 c228 f221_1 c229 f221_3 (by decide)) hZ hw29 hw28 (by decide) (by decide)) (g := (mkF m 383 #[vi is, vi ia, vi ib, vi (0 : Int32), vi (2 : Int32), vi (0 : Int32), vi q6, vi q7, vi q8, vi q9, vi w154_0, vi w156_0, vi w158_0, vi w160_0, vi w162_0, vi w164_0, vi w166_0, vi w168_0, vr b196, vr b198, .unset, .unset] [(.ref b198), (.ref b196)])) rfl (by rw [hml]; rfl) (argsL := [(.ref b196), (.ref b198)]) (rest := []) (lenOf pd_15 rfl) rfl (by show 2 * 0 + _ ≤ _; exact Nat.le_of_eq rfl) (hb hby at_383) (fun _ _ => ⟨rfl, rfl, (by decide : 17 + 0 ≤ _), (by decide : 46 + 0 ≤ _)⟩)
                          dsimp only [Pt.U, Pt.locs, Pt.cells, Pt.slots] at X227 l227 y227 z227 st227 hQ227
                          subst l227 y227 z227
                          obtain ⟨rfl, rfl, e227⟩ := hQ227
                          try replace X227 := own_nil X227
                          refine Go.by' st227 ?_
                          show Go p.tables e below Pf (T227.setTop (mkF m 386 #[vi is, vi ia, vi ib, vi (0 : Int32), vi (2 : Int32), vi (0 : Int32), vi q6, vi q7, vi q8, vi q9, vi w154_0, vi w156_0, vi w158_0, vi w160_0, vi w162_0, vi w164_0, vi w166_0, vi w168_0, vr b196, vr b198, .unset, .unset] [(.int (0 : Int32))]))
                          refine Go.by' (fun t k => (XS.istore X227.here hx rfl (hb hby at_386) rfl (l' := #[vi is, vi ia, vi ib, vi (0 : Int32), vi (2 : Int32), vi (0 : Int32), vi q6, vi q7, vi q8, vi q9, vi w154_0, vi w156_0, vi w158_0, vi w160_0, vi w162_0, vi w164_0, vi w166_0, vi w168_0, vr b196, vr b198, vi (0 : Int32), .unset]) rfl (XS.iload X227.here hx rfl (hb hby at_388) rfl (XS.ifYes X227.here hx rfl (pc0 := 390) (pc' := 399) rfl (hb hby at_390) rfl ((if0 _ _).trans (teq (by decide)).1) (by decide) (by decide) (XS.iloadN X227.here hx rfl (hb hby at_399) rfl (XS.iload X227.here hx rfl (hb hby at_400) rfl (XS.icmpNo X227.here hx rfl (hb hby at_402) rfl (feq (by decide)).1 (XS.iconst X227.here hx rfl (hb hby at_405) (XS.istore X227.here hx rfl (hb hby at_406) rfl (l' := #[vi is, vi ia, vi ib, vi (0 : Int32), vi (2 : Int32), vi (0 : Int32), vi q6, vi q7, vi q8, vi q9, vi w154_0, vi w156_0, vi w158_0, vi w160_0, vi w162_0, vi w164_0, vi w166_0, vi w168_0, vr b196, vr b198, vi (0 : Int32), vi (0 : Int32)]) rfl k))))))))) ?_
                          show Go p.tables e below Pf (T227.setTop (mkF m 408 #[vi is, vi ia, vi ib, vi (0 : Int32), vi (2 : Int32), vi (0 : Int32), vi q6, vi q7, vi q8, vi q9, vi w154_0, vi w156_0, vi w158_0, vi w160_0, vi w162_0, vi w164_0, vi w166_0, vi w168_0, vr b196, vr b198, vi (0 : Int32), vi (0 : Int32)] []))
                          refine Go.by' (fun t k => (XS.goto X227.here hx rfl (pc0 := 408) (pc' := 471) rfl (hb hby at_408) (by decide) (by decide) (XS.iload X227.here hx rfl (hb hby at_471) rfl (XS.iload X227.here hx rfl (hb hby at_473) rfl (XS.icmpNo X227.here hx rfl (hb hby at_475) rfl (teq (by decide)).2 (XS.iconst X227.here hx rfl (hb hby at_478) (XS.goto X227.here hx rfl (pc0 := 479) (pc' := 483) rfl (hb hby at_479) (by decide) (by decide) k))))))) ?_
                          show Go p.tables e below Pf (T227.setTop (mkF m 483 #[vi is, vi ia, vi ib, vi (0 : Int32), vi (2 : Int32), vi (0 : Int32), vi q6, vi q7, vi q8, vi q9, vi w154_0, vi w156_0, vi w158_0, vi w160_0, vi w162_0, vi w164_0, vi w166_0, vi w168_0, vr b196, vr b198, vi (0 : Int32), vi (0 : Int32)] [(.int (1 : Int32))]))
                          rw [hPf]
                          exact Go.retI' X227 hx hret hlk (by simp) rfl (hb hby at_483) (by decide) (by decide) ⟨rfl, N221, (by rw [e227]; exact KC221)⟩
                      · refine Go.castF (a := w152_0) (b := (1 : Int32)) (fun z' : Int32 => mkF m 223 #[vi is, vi ia, vi ib, vi (0 : Int32), vi ((((is.toUInt32 >>> ((2 : Int32) &&& 31).toUInt32).toInt32) &&& (3 : Int32)) % (3 : Int32)), vi z', vi q6, vi q7, vi q8, vi q9, vi w154_0, vi w156_0, vi w158_0, vi w160_0, vi w162_0, vi w164_0, vi w166_0, vi w168_0, .unset, .unset, .unset, .unset] []) (hz) ?_
                        obtain ⟨T230, h230, X230, e230, E230, A230, D230, -, st230⟩ := newO X168 hx hZ hown hw0 hw1 hw2 e168 (g := (mkF m 223 #[vi is, vi ia, vi ib, vi (0 : Int32), vi ((((is.toUInt32 >>> ((2 : Int32) &&& 31).toUInt32).toInt32) &&& (3 : Int32)) % (3 : Int32)), vi (1 : Int32), vi q6, vi q7, vi q8, vi q9, vi w154_0, vi w156_0, vi w158_0, vi w160_0, vi w162_0, vi w164_0, vi w166_0, vi w168_0, .unset, .unset, .unset, .unset] [])) rfl (hb hby at_223) (by decide) (by decide)
                        obtain ⟨b230, g230⟩ : ∃ z, z = h0.size := ⟨_, rfl⟩
                        rw [← g230] at A230 D230 st230
                        refine Go.by' st230 ?_
                        have g_b230 : n0 ≤ b230 := Nat.le_trans (own_le O0) (Nat.le_of_eq g230.symm)
                        have sz_b230 : h0.size ≤ b230 := Nat.le_trans KC0.1 (Nat.le_of_eq g230.symm)
                        have O230 := O0.ext E230
                        have KC230 : Keep h0 h230 [] := KC0.ext E230
                        have Fn230_22 : Fld Z h230 b230 "java/util/AbstractList" "modCount" "I" (Value.int (0 : Int32)) := D230 (Or.inl hw22) (ty := .int) (by decide)
                        have Fn230_25 : Fld Z h230 b230 "java/util/ArrayList" "elementData" "[Ljava/lang/Object;" Value.null := D230 (Or.inl hw25) (ty := (.array (.object "java/lang/Object"))) (by decide)
                        have Fn230_40 : Fld Z h230 b230 "java/util/ArrayList" "size" "I" (Value.int (0 : Int32)) := D230 (Or.inl hw40) (ty := .int) (by decide)
                        show Go p.tables e below Pf (T230.setTop (mkF m 226 #[vi is, vi ia, vi ib, vi (0 : Int32), vi ((((is.toUInt32 >>> ((2 : Int32) &&& 31).toUInt32).toInt32) &&& (3 : Int32)) % (3 : Int32)), vi (1 : Int32), vi q6, vi q7, vi q8, vi q9, vi w154_0, vi w156_0, vi w158_0, vi w160_0, vi w162_0, vi w164_0, vi w166_0, vi w168_0, .unset, .unset, .unset, .unset] [(.ref b230)]))
                        refine Go.by' (fun t k => (XS.dup X230.here hx rfl (hb hby at_226) rfl rfl k)) ?_
                        obtain ⟨_, _, ⟨T231, L231, k231, n231⟩, -, X231, ⟨Lc231, hQ231, l231, y231, z231⟩, st231⟩ := X230.specialBack hx (y := (⟨"java/util/ArrayList", "<init>", "()V"⟩ : MethodName)) rfl hown (mvT hZ hw3) (mvT hZ hw4) (mvT hZ hw5) (by decide) (backOf (W := 1) (rmAL l Z a0 hw [] wD kD vcs G b230 h230 n0 O230 A230 Fn230_22 Fn230_25 Fn230_40 g_b230) hZ hw5 hw2 (by decide) (by decide)) (g := (mkF m 227 #[vi is, vi ia, vi ib, vi (0 : Int32), vi ((((is.toUInt32 >>> ((2 : Int32) &&& 31).toUInt32).toInt32) &&& (3 : Int32)) % (3 : Int32)), vi (1 : Int32), vi q6, vi q7, vi q8, vi q9, vi w154_0, vi w156_0, vi w158_0, vi w160_0, vi w162_0, vi w164_0, vi w166_0, vi w168_0, .unset, .unset, .unset, .unset] [(.ref b230), (.ref b230)])) rfl (by rw [hml]; rfl) (Steps.refl _) (a := b230) (argsL := []) (rest := [(.ref b230)]) (lenOf pd_5 rfl) rfl (by show 2 * 0 + _ ≤ _; exact Nat.le_of_eq rfl) (hb hby at_227) (fun _ _ => ⟨rfl, e230, (by decide : 1 + 0 ≤ _), (by decide : 3 + 0 ≤ _)⟩)
                        dsimp only [Pt.U, Pt.locs, Pt.cells, Pt.slots] at X231 l231 y231 z231 st231 hQ231
                        subst l231 y231 z231
                        obtain ⟨rfl, N231q, K231, f231_0, f231_1, f231_2, f231_3⟩ := hQ231
                        have N231 := Fr.app N0 N231q
                        obtain ⟨lc231, X231, N231⟩ := own_pack X231 N231
                        refine Go.by' (fun t k => st231.trans k) ?_
                        have O231 := O230.keep K231 (allS g_b230 all0)
                        have KC231 : Keep h0 T231.heap [] := KC230.trans K231 (allS (Or.inr sz_b230) all0)
                        show Go p.tables e below Pf (T231.setTop (mkF m 230 #[vi is, vi ia, vi ib, vi (0 : Int32), vi ((((is.toUInt32 >>> ((2 : Int32) &&& 31).toUInt32).toInt32) &&& (3 : Int32)) % (3 : Int32)), vi (1 : Int32), vi q6, vi q7, vi q8, vi q9, vi w154_0, vi w156_0, vi w158_0, vi w160_0, vi w162_0, vi w164_0, vi w166_0, vi w168_0, .unset, .unset, .unset, .unset] [(.ref b230)]))
                        refine Go.by' (fun t k => (XS.astore X231.here hx rfl (hb hby at_230) rfl rfl (l' := #[vi is, vi ia, vi ib, vi (0 : Int32), vi ((((is.toUInt32 >>> ((2 : Int32) &&& 31).toUInt32).toInt32) &&& (3 : Int32)) % (3 : Int32)), vi (1 : Int32), vi q6, vi q7, vi q8, vi q9, vi w154_0, vi w156_0, vi w158_0, vi w160_0, vi w162_0, vi w164_0, vi w166_0, vi w168_0, vr b230, .unset, .unset, .unset]) rfl (XS.iloadN X231.here hx rfl (hb hby at_232) rfl (XS.iconst X231.here hx rfl (hb hby at_233) (XS.icmpYes X231.here hx rfl (pc0 := 234) (pc' := 264) rfl (hb hby at_234) rfl (tlt (by decide)).1 (by decide) (by decide) (XS.iloadN X231.here hx rfl (hb hby at_264) rfl (XS.iconst X231.here hx rfl (hb hby at_265) (XS.icmpYes X231.here hx rfl (pc0 := 266) (pc' := 296) rfl (hb hby at_266) rfl (tlt (by decide)).1 (by decide) (by decide) (XS.aconstNull X231.here hx rfl (hb hby at_296) k))))))))) ?_
                        show Go p.tables e below Pf (T231.setTop (mkF m 297 #[vi is, vi ia, vi ib, vi (0 : Int32), vi ((((is.toUInt32 >>> ((2 : Int32) &&& 31).toUInt32).toInt32) &&& (3 : Int32)) % (3 : Int32)), vi (1 : Int32), vi q6, vi q7, vi q8, vi q9, vi w154_0, vi w156_0, vi w158_0, vi w160_0, vi w162_0, vi w164_0, vi w166_0, vi w168_0, vr b230, .unset, .unset, .unset] [.null]))
                        refine Go.by' (fun t k => (XS.astore X231.here hx rfl (hb hby at_297) rfl rfl (l' := #[vi is, vi ia, vi ib, vi (0 : Int32), vi ((((is.toUInt32 >>> ((2 : Int32) &&& 31).toUInt32).toInt32) &&& (3 : Int32)) % (3 : Int32)), vi (1 : Int32), vi q6, vi q7, vi q8, vi q9, vi w154_0, vi w156_0, vi w158_0, vi w160_0, vi w162_0, vi w164_0, vi w166_0, vi w168_0, vr b230, .val .null, .unset, .unset]) rfl (XS.iload X231.here hx rfl (hb hby at_299) rfl (XS.ifYes X231.here hx rfl (pc0 := 301) (pc' := 379) rfl (hb hby at_301) rfl ((if0 _ _).trans (feq (by decide)).2) (by decide) (by decide) (XS.aload X231.here hx rfl (hb hby at_379) rfl rfl (XS.aload X231.here hx rfl (hb hby at_381) rfl rfl k)))))) ?_
                        obtain ⟨_, _, ⟨T232, L232, k232, n232⟩, -, X232, ⟨Lc232, hQ232, l232, y232, z232⟩, st232⟩ := Jvm.LawKit.callS X231 hx (y := (⟨"com/example/slatewipe/slatewipe/vendors/mariadb/Columns$Column", "sameTypes", "(Ljava/util/List;Ljava/util/List;)Z"⟩ : MethodName)) hown (mvT hZ hw26) (mvT hZ hw27) (mvT hZ hw28) (mvT hZ hw29) (by decide) (backOf (W := 0) (rmTn l Z a0 hw [] wD kD vcs G b230 T231.heap n0 O231 ) hZ hw29 hw28 (by decide) (by decide)) (g := (mkF m 383 #[vi is, vi ia, vi ib, vi (0 : Int32), vi ((((is.toUInt32 >>> ((2 : Int32) &&& 31).toUInt32).toInt32) &&& (3 : Int32)) % (3 : Int32)), vi (1 : Int32), vi q6, vi q7, vi q8, vi q9, vi w154_0, vi w156_0, vi w158_0, vi w160_0, vi w162_0, vi w164_0, vi w166_0, vi w168_0, vr b230, .val .null, .unset, .unset] [.null, (.ref b230)])) rfl (by rw [hml]; rfl) (argsL := [(.ref b230), .null]) (rest := []) (lenOf pd_15 rfl) rfl (by show 2 * 0 + _ ≤ _; exact Nat.le_of_eq rfl) (hb hby at_383) (fun _ _ => ⟨rfl, rfl, (by decide : 1 + 0 ≤ _), (by decide : 3 + 0 ≤ _)⟩)
                        dsimp only [Pt.U, Pt.locs, Pt.cells, Pt.slots] at X232 l232 y232 z232 st232 hQ232
                        subst l232 y232 z232
                        obtain ⟨rfl, rfl, e232⟩ := hQ232
                        try replace X232 := own_nil X232
                        refine Go.by' st232 ?_
                        show Go p.tables e below Pf (T232.setTop (mkF m 386 #[vi is, vi ia, vi ib, vi (0 : Int32), vi ((((is.toUInt32 >>> ((2 : Int32) &&& 31).toUInt32).toInt32) &&& (3 : Int32)) % (3 : Int32)), vi (1 : Int32), vi q6, vi q7, vi q8, vi q9, vi w154_0, vi w156_0, vi w158_0, vi w160_0, vi w162_0, vi w164_0, vi w166_0, vi w168_0, vr b230, .val .null, .unset, .unset] [(.int (0 : Int32))]))
                        refine Go.by' (fun t k => (XS.istore X232.here hx rfl (hb hby at_386) rfl (l' := #[vi is, vi ia, vi ib, vi (0 : Int32), vi ((((is.toUInt32 >>> ((2 : Int32) &&& 31).toUInt32).toInt32) &&& (3 : Int32)) % (3 : Int32)), vi (1 : Int32), vi q6, vi q7, vi q8, vi q9, vi w154_0, vi w156_0, vi w158_0, vi w160_0, vi w162_0, vi w164_0, vi w166_0, vi w168_0, vr b230, .val .null, vi (0 : Int32), .unset]) rfl (XS.iload X232.here hx rfl (hb hby at_388) rfl (XS.ifNo X232.here hx rfl (hb hby at_390) rfl ((if0 _ _).trans (feq (by decide)).1) (XS.iconst X232.here hx rfl (hb hby at_393) (XS.istore X232.here hx rfl (hb hby at_394) rfl (l' := #[vi is, vi ia, vi ib, vi (0 : Int32), vi ((((is.toUInt32 >>> ((2 : Int32) &&& 31).toUInt32).toInt32) &&& (3 : Int32)) % (3 : Int32)), vi (1 : Int32), vi q6, vi q7, vi q8, vi q9, vi w154_0, vi w156_0, vi w158_0, vi w160_0, vi w162_0, vi w164_0, vi w166_0, vi w168_0, vr b230, .val .null, vi (0 : Int32), vi (0 : Int32)]) rfl (XS.goto X232.here hx rfl (pc0 := 396) (pc' := 471) rfl (hb hby at_396) (by decide) (by decide) (XS.iload X232.here hx rfl (hb hby at_471) rfl (XS.iload X232.here hx rfl (hb hby at_473) rfl k))))))))) ?_
                        show Go p.tables e below Pf (T232.setTop (mkF m 475 #[vi is, vi ia, vi ib, vi (0 : Int32), vi ((((is.toUInt32 >>> ((2 : Int32) &&& 31).toUInt32).toInt32) &&& (3 : Int32)) % (3 : Int32)), vi (1 : Int32), vi q6, vi q7, vi q8, vi q9, vi w154_0, vi w156_0, vi w158_0, vi w160_0, vi w162_0, vi w164_0, vi w166_0, vi w168_0, vr b230, .val .null, vi (0 : Int32), vi (0 : Int32)] [(.int (0 : Int32)), (.int (0 : Int32))]))
                        refine Go.by' (fun t k => (XS.icmpNo X232.here hx rfl (hb hby at_475) rfl (teq (by decide)).2 (XS.iconst X232.here hx rfl (hb hby at_478) (XS.goto X232.here hx rfl (pc0 := 479) (pc' := 483) rfl (hb hby at_479) (by decide) (by decide) k)))) ?_
                        show Go p.tables e below Pf (T232.setTop (mkF m 483 #[vi is, vi ia, vi ib, vi (0 : Int32), vi ((((is.toUInt32 >>> ((2 : Int32) &&& 31).toUInt32).toInt32) &&& (3 : Int32)) % (3 : Int32)), vi (1 : Int32), vi q6, vi q7, vi q8, vi q9, vi w154_0, vi w156_0, vi w158_0, vi w160_0, vi w162_0, vi w164_0, vi w166_0, vi w168_0, vr b230, .val .null, vi (0 : Int32), vi (0 : Int32)] [(.int (1 : Int32))]))
                        rw [hPf]
                        exact Go.retI' X232 hx hret hlk (by simp) rfl (hb hby at_483) (by decide) (by decide) ⟨rfl, N231, (by rw [e232]; exact KC231)⟩
                    · refine Go.castF (a := ((is &&& (3 : Int32)) % (3 : Int32))) (b := (1 : Int32)) (fun z' : Int32 => mkF m 223 #[vi is, vi ia, vi ib, vi z', vi ((((is.toUInt32 >>> ((2 : Int32) &&& 31).toUInt32).toInt32) &&& (3 : Int32)) % (3 : Int32)), vi w152_0, vi q6, vi q7, vi q8, vi q9, vi w154_0, vi w156_0, vi w158_0, vi w160_0, vi w162_0, vi w164_0, vi w166_0, vi w168_0, .unset, .unset, .unset, .unset] []) (hk) ?_
                      show Go p.tables e below Pf (T168.setTop (mkF m 223 #[vi is, vi ia, vi ib, vi (1 : Int32), vi ((((is.toUInt32 >>> ((2 : Int32) &&& 31).toUInt32).toInt32) &&& (3 : Int32)) % (3 : Int32)), vi w152_0, vi q6, vi q7, vi q8, vi q9, vi w154_0, vi w156_0, vi w158_0, vi w160_0, vi w162_0, vi w164_0, vi w166_0, vi w168_0, .unset, .unset, .unset, .unset] []))
                      rcases bw152_0 with hz | hz
                      · refine Go.castF (a := w152_0) (b := (0 : Int32)) (fun z' : Int32 => mkF m 223 #[vi is, vi ia, vi ib, vi (1 : Int32), vi ((((is.toUInt32 >>> ((2 : Int32) &&& 31).toUInt32).toInt32) &&& (3 : Int32)) % (3 : Int32)), vi z', vi q6, vi q7, vi q8, vi q9, vi w154_0, vi w156_0, vi w158_0, vi w160_0, vi w162_0, vi w164_0, vi w166_0, vi w168_0, .unset, .unset, .unset, .unset] []) (hz) ?_
                        show Go p.tables e below Pf (T168.setTop (mkF m 223 #[vi is, vi ia, vi ib, vi (1 : Int32), vi ((((is.toUInt32 >>> ((2 : Int32) &&& 31).toUInt32).toInt32) &&& (3 : Int32)) % (3 : Int32)), vi (0 : Int32), vi q6, vi q7, vi q8, vi q9, vi w154_0, vi w156_0, vi w158_0, vi w160_0, vi w162_0, vi w164_0, vi w166_0, vi w168_0, .unset, .unset, .unset, .unset] []))
                        rcases own_k _ with hm | hm | hm
                        · refine Go.castF (a := ((((is.toUInt32 >>> ((2 : Int32) &&& 31).toUInt32).toInt32) &&& (3 : Int32)) % (3 : Int32))) (b := (0 : Int32)) (fun z' : Int32 => mkF m 223 #[vi is, vi ia, vi ib, vi (1 : Int32), vi z', vi (0 : Int32), vi q6, vi q7, vi q8, vi q9, vi w154_0, vi w156_0, vi w158_0, vi w160_0, vi w162_0, vi w164_0, vi w166_0, vi w168_0, .unset, .unset, .unset, .unset] []) (hm) ?_
                          obtain ⟨T233, h233, X233, e233, E233, A233, D233, -, st233⟩ := newO X168 hx hZ hown hw0 hw1 hw2 e168 (g := (mkF m 223 #[vi is, vi ia, vi ib, vi (1 : Int32), vi (0 : Int32), vi (0 : Int32), vi q6, vi q7, vi q8, vi q9, vi w154_0, vi w156_0, vi w158_0, vi w160_0, vi w162_0, vi w164_0, vi w166_0, vi w168_0, .unset, .unset, .unset, .unset] [])) rfl (hb hby at_223) (by decide) (by decide)
                          obtain ⟨b233, g233⟩ : ∃ z, z = h0.size := ⟨_, rfl⟩
                          rw [← g233] at A233 D233 st233
                          refine Go.by' st233 ?_
                          have g_b233 : n0 ≤ b233 := Nat.le_trans (own_le O0) (Nat.le_of_eq g233.symm)
                          have sz_b233 : h0.size ≤ b233 := Nat.le_trans KC0.1 (Nat.le_of_eq g233.symm)
                          have O233 := O0.ext E233
                          have KC233 : Keep h0 h233 [] := KC0.ext E233
                          have Fn233_22 : Fld Z h233 b233 "java/util/AbstractList" "modCount" "I" (Value.int (0 : Int32)) := D233 (Or.inl hw22) (ty := .int) (by decide)
                          have Fn233_25 : Fld Z h233 b233 "java/util/ArrayList" "elementData" "[Ljava/lang/Object;" Value.null := D233 (Or.inl hw25) (ty := (.array (.object "java/lang/Object"))) (by decide)
                          have Fn233_40 : Fld Z h233 b233 "java/util/ArrayList" "size" "I" (Value.int (0 : Int32)) := D233 (Or.inl hw40) (ty := .int) (by decide)
                          show Go p.tables e below Pf (T233.setTop (mkF m 226 #[vi is, vi ia, vi ib, vi (1 : Int32), vi (0 : Int32), vi (0 : Int32), vi q6, vi q7, vi q8, vi q9, vi w154_0, vi w156_0, vi w158_0, vi w160_0, vi w162_0, vi w164_0, vi w166_0, vi w168_0, .unset, .unset, .unset, .unset] [(.ref b233)]))
                          refine Go.by' (fun t k => (XS.dup X233.here hx rfl (hb hby at_226) rfl rfl k)) ?_
                          obtain ⟨_, _, ⟨T234, L234, k234, n234⟩, -, X234, ⟨Lc234, hQ234, l234, y234, z234⟩, st234⟩ := X233.specialBack hx (y := (⟨"java/util/ArrayList", "<init>", "()V"⟩ : MethodName)) rfl hown (mvT hZ hw3) (mvT hZ hw4) (mvT hZ hw5) (by decide) (backOf (W := 1) (rmAL l Z a0 hw [] wD kD vcs G b233 h233 n0 O233 A233 Fn233_22 Fn233_25 Fn233_40 g_b233) hZ hw5 hw2 (by decide) (by decide)) (g := (mkF m 227 #[vi is, vi ia, vi ib, vi (1 : Int32), vi (0 : Int32), vi (0 : Int32), vi q6, vi q7, vi q8, vi q9, vi w154_0, vi w156_0, vi w158_0, vi w160_0, vi w162_0, vi w164_0, vi w166_0, vi w168_0, .unset, .unset, .unset, .unset] [(.ref b233), (.ref b233)])) rfl (by rw [hml]; rfl) (Steps.refl _) (a := b233) (argsL := []) (rest := [(.ref b233)]) (lenOf pd_5 rfl) rfl (by show 2 * 0 + _ ≤ _; exact Nat.le_of_eq rfl) (hb hby at_227) (fun _ _ => ⟨rfl, e233, (by decide : 1 + 0 ≤ _), (by decide : 3 + 0 ≤ _)⟩)
                          dsimp only [Pt.U, Pt.locs, Pt.cells, Pt.slots] at X234 l234 y234 z234 st234 hQ234
                          subst l234 y234 z234
                          obtain ⟨rfl, N234q, K234, f234_0, f234_1, f234_2, f234_3⟩ := hQ234
                          have N234 := Fr.app N0 N234q
                          obtain ⟨lc234, X234, N234⟩ := own_pack X234 N234
                          refine Go.by' (fun t k => st234.trans k) ?_
                          have O234 := O233.keep K234 (allS g_b233 all0)
                          have KC234 : Keep h0 T234.heap [] := KC233.trans K234 (allS (Or.inr sz_b233) all0)
                          show Go p.tables e below Pf (T234.setTop (mkF m 230 #[vi is, vi ia, vi ib, vi (1 : Int32), vi (0 : Int32), vi (0 : Int32), vi q6, vi q7, vi q8, vi q9, vi w154_0, vi w156_0, vi w158_0, vi w160_0, vi w162_0, vi w164_0, vi w166_0, vi w168_0, .unset, .unset, .unset, .unset] [(.ref b233)]))
                          refine Go.by' (fun t k => (XS.astore X234.here hx rfl (hb hby at_230) rfl rfl (l' := #[vi is, vi ia, vi ib, vi (1 : Int32), vi (0 : Int32), vi (0 : Int32), vi q6, vi q7, vi q8, vi q9, vi w154_0, vi w156_0, vi w158_0, vi w160_0, vi w162_0, vi w164_0, vi w166_0, vi w168_0, vr b233, .unset, .unset, .unset]) rfl (XS.iloadN X234.here hx rfl (hb hby at_232) rfl (XS.iconst X234.here hx rfl (hb hby at_233) (XS.icmpNo X234.here hx rfl (hb hby at_234) rfl (flt (by decide)).1 (XS.aload X234.here hx rfl (hb hby at_237) rfl rfl k)))))) ?_
                          obtain ⟨T235, h235, X235, e235, E235, A235, D235, -, st235⟩ := newO X234 hx hZ hown hw41 hw42 hw28 rfl (g := (mkF m 239 #[vi is, vi ia, vi ib, vi (1 : Int32), vi (0 : Int32), vi (0 : Int32), vi q6, vi q7, vi q8, vi q9, vi w154_0, vi w156_0, vi w158_0, vi w160_0, vi w162_0, vi w164_0, vi w166_0, vi w168_0, vr b233, .unset, .unset, .unset] [(.ref b233)])) rfl (hb hby at_239) (by decide) (by decide)
                          obtain ⟨b235, g235⟩ : ∃ z, z = T234.heap.size := ⟨_, rfl⟩
                          rw [← g235] at A235 D235 st235
                          refine Go.by' st235 ?_
                          have g_b235 : n0 ≤ b235 := Nat.le_trans (own_le O234) (Nat.le_of_eq g235.symm)
                          have sz_b235 : h0.size ≤ b235 := Nat.le_trans KC234.1 (Nat.le_of_eq g235.symm)
                          have O235 := O234.ext E235
                          have KC235 : Keep h0 h235 [] := KC234.ext E235
                          have Fn235_85 : Fld Z h235 b235 "com/example/slatewipe/slatewipe/vendors/mariadb/Columns$Column" "name" "Ljava/lang/String;" Value.null := D235 (Or.inr hw85) (ty := (.object "java/lang/String")) (by decide)
                          have Fn235_87 : Fld Z h235 b235 "com/example/slatewipe/slatewipe/vendors/mariadb/Columns$Column" "type" "Ljava/lang/String;" Value.null := D235 (Or.inr hw87) (ty := (.object "java/lang/String")) (by decide)
                          have Fn235_89 : Fld Z h235 b235 "com/example/slatewipe/slatewipe/vendors/mariadb/Columns$Column" "nullable" "Z" (Value.int (0 : Int32)) := D235 (Or.inr hw89) (ty := .boolean) (by decide)
                          show Go p.tables e below Pf (T235.setTop (mkF m 242 #[vi is, vi ia, vi ib, vi (1 : Int32), vi (0 : Int32), vi (0 : Int32), vi q6, vi q7, vi q8, vi q9, vi w154_0, vi w156_0, vi w158_0, vi w160_0, vi w162_0, vi w164_0, vi w166_0, vi w168_0, vr b233, .unset, .unset, .unset] [(.ref b235), (.ref b233)]))
                          refine Go.by' (fun t k => (XS.dup X235.here hx rfl (hb hby at_242) rfl rfl (XS.iload X235.here hx rfl (hb hby at_243) rfl k))) ?_
                          obtain ⟨_, _, ⟨T236, L236, k236, n236⟩, -, X236, ⟨Lc236, hQ236, l236, y236, z236⟩, st236⟩ := Jvm.LawKit.callS X235 hx (y := (⟨"com/example/slatewipe/slatewipe/vendors/mariadb/ColumnSameTypesPinLaw", "str", "(I)Ljava/lang/String;"⟩ : MethodName)) hown (mvT hZ hw43) (mvT hZ hw44) (mvT hZ hw45) (mvT hZ hw46) (by decide) (backOf (W := 3) (rmStr l Z a0 hw [] wD kD vcs G q6 h235 n0 O235 bd6.1 bd6.2) hZ hw46 hw45 (by decide) (by decide)) (g := (mkF m 245 #[vi is, vi ia, vi ib, vi (1 : Int32), vi (0 : Int32), vi (0 : Int32), vi q6, vi q7, vi q8, vi q9, vi w154_0, vi w156_0, vi w158_0, vi w160_0, vi w162_0, vi w164_0, vi w166_0, vi w168_0, vr b233, .unset, .unset, .unset] [(.int q6), (.ref b235), (.ref b235), (.ref b233)])) rfl (by rw [hml]; rfl) (argsL := [(.int q6)]) (rest := [(.ref b235), (.ref b235), (.ref b233)]) (lenOf pd_16 rfl) rfl (by show 2 * 0 + _ ≤ _; exact Nat.le_of_eq rfl) (hb hby at_245) (fun _ _ => ⟨rfl, e235, (by decide : 2 + 3 ≤ _), (by decide : 6 + 6 ≤ _)⟩)
                          dsimp only [Pt.U, Pt.locs, Pt.cells, Pt.slots] at X236 l236 y236 z236 st236 hQ236
                          subst l236 y236 z236
                          obtain ⟨r_236, rb_236, kb_236, rfl, N236q, K236, f236_0, f236_1, f236_2, f236_3, f236_4, f236_5⟩ := hQ236
                          have N236 := Fr.app N234 N236q
                          obtain ⟨lc236, X236, N236⟩ := own_pack X236 N236
                          refine Go.by' st236 ?_
                          have g_r_236 : n0 ≤ r_236 := Nat.le_trans (own_le O235) f236_1
                          have sz_r_236 : h0.size ≤ r_236 := Nat.le_trans KC235.1 f236_1
                          have g_rb_236 : n0 ≤ rb_236 := Nat.le_trans (own_le O235) f236_5
                          have sz_rb_236 : h0.size ≤ rb_236 := Nat.le_trans KC235.1 f236_5
                          have O236 := O235.keep K236 all0
                          have KC236 : Keep h0 T236.heap [] := KC235.trans K236 all0
                          show Go p.tables e below Pf (T236.setTop (mkF m 248 #[vi is, vi ia, vi ib, vi (1 : Int32), vi (0 : Int32), vi (0 : Int32), vi q6, vi q7, vi q8, vi q9, vi w154_0, vi w156_0, vi w158_0, vi w160_0, vi w162_0, vi w164_0, vi w166_0, vi w168_0, vr b233, .unset, .unset, .unset] [(.ref r_236), (.ref b235), (.ref b235), (.ref b233)]))
                          refine Go.by' (fun t k => (XS.iload X236.here hx rfl (hb hby at_248) rfl k)) ?_
                          obtain ⟨_, _, ⟨T237, L237, k237, n237⟩, -, X237, ⟨Lc237, hQ237, l237, y237, z237⟩, st237⟩ := Jvm.LawKit.callS X236 hx (y := (⟨"com/example/slatewipe/slatewipe/vendors/mariadb/ColumnSameTypesPinLaw", "str", "(I)Ljava/lang/String;"⟩ : MethodName)) hown (mvT hZ hw43) (mvT hZ hw44) (mvT hZ hw45) (mvT hZ hw46) (by decide) (backOf (W := 4) (rmStr l Z a0 hw [] wD kD vcs G q7 T236.heap n0 O236 bd7.1 bd7.2) hZ hw46 hw45 (by decide) (by decide)) (g := (mkF m 250 #[vi is, vi ia, vi ib, vi (1 : Int32), vi (0 : Int32), vi (0 : Int32), vi q6, vi q7, vi q8, vi q9, vi w154_0, vi w156_0, vi w158_0, vi w160_0, vi w162_0, vi w164_0, vi w166_0, vi w168_0, vr b233, .unset, .unset, .unset] [(.int q7), (.ref r_236), (.ref b235), (.ref b235), (.ref b233)])) rfl (by rw [hml]; rfl) (argsL := [(.int q7)]) (rest := [(.ref r_236), (.ref b235), (.ref b235), (.ref b233)]) (lenOf pd_16 rfl) rfl (by show 2 * 0 + _ ≤ _; exact Nat.le_of_eq rfl) (hb hby at_250) (fun _ _ => ⟨rfl, rfl, (by decide : 5 + 3 ≤ _), (by decide : 12 + 6 ≤ _)⟩)
                          dsimp only [Pt.U, Pt.locs, Pt.cells, Pt.slots] at X237 l237 y237 z237 st237 hQ237
                          subst l237 y237 z237
                          obtain ⟨r_237, rb_237, kb_237, rfl, N237q, K237, f237_0, f237_1, f237_2, f237_3, f237_4, f237_5⟩ := hQ237
                          have N237 := Fr.app N236 N237q
                          obtain ⟨lc237, X237, N237⟩ := own_pack X237 N237
                          refine Go.by' st237 ?_
                          have g_r_237 : n0 ≤ r_237 := Nat.le_trans (own_le O236) f237_1
                          have sz_r_237 : h0.size ≤ r_237 := Nat.le_trans KC236.1 f237_1
                          have g_rb_237 : n0 ≤ rb_237 := Nat.le_trans (own_le O236) f237_5
                          have sz_rb_237 : h0.size ≤ rb_237 := Nat.le_trans KC236.1 f237_5
                          have O237 := O236.keep K237 all0
                          have KC237 : Keep h0 T237.heap [] := KC236.trans K237 all0
                          show Go p.tables e below Pf (T237.setTop (mkF m 253 #[vi is, vi ia, vi ib, vi (1 : Int32), vi (0 : Int32), vi (0 : Int32), vi q6, vi q7, vi q8, vi q9, vi w154_0, vi w156_0, vi w158_0, vi w160_0, vi w162_0, vi w164_0, vi w166_0, vi w168_0, vr b233, .unset, .unset, .unset] [(.ref r_237), (.ref r_236), (.ref b235), (.ref b235), (.ref b233)]))
                          refine Go.by' (fun t k => (XS.iload X237.here hx rfl (hb hby at_253) rfl k)) ?_
                          have c239 := ((A235.keep K236).keep K237)
                          have c240 := ((Fn235_85.keep K236 nin0).keep K237 nin0)
                          have c241 := ((Fn235_87.keep K236 nin0).keep K237 nin0)
                          have c242 := ((Fn235_89.keep K236 nin0).keep K237 nin0)
                          obtain ⟨_, _, ⟨T238, L238, k238, n238⟩, -, X238, ⟨Lc238, hQ238, l238, y238, z238⟩, st238⟩ := X237.specialBack hx (y := (⟨"com/example/slatewipe/slatewipe/vendors/mariadb/Columns$Column", "<init>", "(Ljava/lang/String;Ljava/lang/String;Z)V"⟩ : MethodName)) rfl hown (mvT hZ hw75) (mvT hZ hw76) (mvT hZ hw77) (by decide) (backOf (W := 2) (rmCol l Z a0 hw [] wD kD vcs G b235 r_236 r_237 w162_0 T237.heap n0 O237 c239 c240 c241 c242 g_b235 bw162_0) hZ hw77 hw28 (by decide) (by decide)) (g := (mkF m 255 #[vi is, vi ia, vi ib, vi (1 : Int32), vi (0 : Int32), vi (0 : Int32), vi q6, vi q7, vi q8, vi q9, vi w154_0, vi w156_0, vi w158_0, vi w160_0, vi w162_0, vi w164_0, vi w166_0, vi w168_0, vr b233, .unset, .unset, .unset] [(.int w162_0), (.ref r_237), (.ref r_236), (.ref b235), (.ref b235), (.ref b233)])) rfl (by rw [hml]; rfl) (Steps.refl _) (a := b235) (argsL := [(.ref r_236), (.ref r_237), (.int w162_0)]) (rest := [(.ref b235), (.ref b233)]) (lenOf pd_17 rfl) rfl (by show 2 * 0 + _ ≤ _; exact Nat.le_of_eq rfl) (hb hby at_255) (fun _ _ => ⟨rfl, rfl, (by decide : 8 + 0 ≤ _), (by decide : 18 + 0 ≤ _)⟩)
                          dsimp only [Pt.U, Pt.locs, Pt.cells, Pt.slots] at X238 l238 y238 z238 st238 hQ238
                          subst l238 y238 z238
                          obtain ⟨rfl, N238q, K238, f238_0, f238_1, f238_2⟩ := hQ238
                          have N238 := Fr.app N237 N238q
                          obtain ⟨lc238, X238, N238⟩ := own_pack X238 N238
                          refine Go.by' (fun t k => st238.trans k) ?_
                          have O238 := O237.keep K238 (allS g_b235 all0)
                          have KC238 : Keep h0 T238.heap [] := KC237.trans K238 (allS (Or.inr sz_b235) all0)
                          have c244 := ((((f234_0.ext E235).keep K236).keep K237).keep K238)
                          have c245 := ((((f234_3.ext E235).keep K236 nin0).keep K237 nin0).keep K238 (ninS (Nat.ne_of_lt (Nat.lt_of_lt_of_le (Nat.lt_of_lt_of_le A233.lt K234.1) (Nat.le_of_eq g235.symm))) nin0))
                          have c246 := ((((f234_2.ext E235).keep K236 nin0).keep K237 nin0).keep K238 (ninS (Nat.ne_of_lt (Nat.lt_of_lt_of_le (Nat.lt_of_lt_of_le A233.lt K234.1) (Nat.le_of_eq g235.symm))) nin0))
                          have c247 := ((((f234_1.ext E235).keep K236 nin0).keep K237 nin0).keep K238 (ninS (Nat.ne_of_lt (Nat.lt_of_lt_of_le (Nat.lt_of_lt_of_le A233.lt K234.1) (Nat.le_of_eq g235.symm))) nin0))
                          obtain ⟨cq243, kq243, q243a, q243b, q243c⟩ := isOf hZ rfl c244
                          obtain ⟨_, _, ⟨T243, L243, k243, n243⟩, -, X243, ⟨Lc243, hQ243, l243, y243, z243⟩, st243⟩ := X238.interfaceBack hx (xi := (⟨"java/util/List", "add", "(Ljava/lang/Object;)Z"⟩ : MethodName)) (y := (⟨"java/util/ArrayList", "add", "(Ljava/lang/Object;)Z"⟩ : MethodName)) hown (mvT hZ hw90) (mvT hZ hw91) (mvT hZ hw92) (mvT hZ hw93) (mvT hZ hw94) (mvT hZ hw95) (mvT hZ hw96) (mvT hZ hw37) (by decide) (backOf (W := 0) (rmA1_0 l Z a0 hw [] wD kD vcs G b233 b235 ((0 : Int32)) T238.heap n0 O238 c244 c245 c246 c247 g_b233 f238_0) hZ hw97 hw2 (by decide) (by decide)) q243a q243b q243c (g := (mkF m 258 #[vi is, vi ia, vi ib, vi (1 : Int32), vi (0 : Int32), vi (0 : Int32), vi q6, vi q7, vi q8, vi q9, vi w154_0, vi w156_0, vi w158_0, vi w160_0, vi w162_0, vi w164_0, vi w166_0, vi w168_0, vr b233, .unset, .unset, .unset] [(.ref b235), (.ref b233)])) rfl (by rw [hml]; rfl) (Steps.refl _) (argsL := [(.ref b235)]) (rest := []) (lenOf pd_14 rfl) rfl (by show 2 * 0 + _ ≤ _; exact Nat.le_of_eq rfl) (hb hby at_258) (fun _ _ => ⟨rfl, rfl, (by decide : 8 + 1 ≤ _), (by decide : 18 + 10 ≤ _)⟩)
                          dsimp only [Pt.U, Pt.locs, Pt.cells, Pt.slots] at X243 l243 y243 z243 st243 hQ243
                          subst l243 y243 z243
                          obtain ⟨r_243, kk_243, rfl, N243q, K243, f243_0, f243_1, f243_2, f243_3, f243_4, f243_5, r243_0⟩ := hQ243
                          have N243 := Fr.app N238 N243q
                          obtain ⟨lc243, X243, N243⟩ := own_pack X243 N243
                          refine Go.by' (fun t k => st243.trans k) ?_
                          have g_r_243 : n0 ≤ r_243 := Nat.le_trans (own_le O238) f243_1
                          have sz_r_243 : h0.size ≤ r_243 := Nat.le_trans KC238.1 f243_1
                          have O243 := O238.keep K243 (allS g_b233 all0)
                          have KC243 : Keep h0 T243.heap [] := KC238.trans K243 (allS (Or.inr sz_b233) all0)
                          show Go p.tables e below Pf (T243.setTop (mkF m 263 #[vi is, vi ia, vi ib, vi (1 : Int32), vi (0 : Int32), vi (0 : Int32), vi q6, vi q7, vi q8, vi q9, vi w154_0, vi w156_0, vi w158_0, vi w160_0, vi w162_0, vi w164_0, vi w166_0, vi w168_0, vr b233, .unset, .unset, .unset] [(.int (1 : Int32))]))
                          refine Go.by' (fun t k => (XS.pop X243.here hx rfl (hb hby at_263) rfl rfl (XS.iloadN X243.here hx rfl (hb hby at_264) rfl (XS.iconst X243.here hx rfl (hb hby at_265) (XS.icmpYes X243.here hx rfl (pc0 := 266) (pc' := 296) rfl (hb hby at_266) rfl (tlt (by decide)).1 (by decide) (by decide) (XS.aconstNull X243.here hx rfl (hb hby at_296) (XS.astore X243.here hx rfl (hb hby at_297) rfl rfl (l' := #[vi is, vi ia, vi ib, vi (1 : Int32), vi (0 : Int32), vi (0 : Int32), vi q6, vi q7, vi q8, vi q9, vi w154_0, vi w156_0, vi w158_0, vi w160_0, vi w162_0, vi w164_0, vi w166_0, vi w168_0, vr b233, .val .null, .unset, .unset]) rfl (XS.iload X243.here hx rfl (hb hby at_299) rfl (XS.ifNo X243.here hx rfl (hb hby at_301) rfl ((if0 _ _).trans (teq (by decide)).2) k))))))))) ?_
                          obtain ⟨T248, h248, X248, e248, E248, A248, D248, -, st248⟩ := newO X243 hx hZ hown hw0 hw1 hw2 rfl (g := (mkF m 304 #[vi is, vi ia, vi ib, vi (1 : Int32), vi (0 : Int32), vi (0 : Int32), vi q6, vi q7, vi q8, vi q9, vi w154_0, vi w156_0, vi w158_0, vi w160_0, vi w162_0, vi w164_0, vi w166_0, vi w168_0, vr b233, .val .null, .unset, .unset] [])) rfl (hb hby at_304) (by decide) (by decide)
                          obtain ⟨b248, g248⟩ : ∃ z, z = T243.heap.size := ⟨_, rfl⟩
                          rw [← g248] at A248 D248 st248
                          refine Go.by' st248 ?_
                          have g_b248 : n0 ≤ b248 := Nat.le_trans (own_le O243) (Nat.le_of_eq g248.symm)
                          have sz_b248 : h0.size ≤ b248 := Nat.le_trans KC243.1 (Nat.le_of_eq g248.symm)
                          have O248 := O243.ext E248
                          have KC248 : Keep h0 h248 [] := KC243.ext E248
                          have Fn248_22 : Fld Z h248 b248 "java/util/AbstractList" "modCount" "I" (Value.int (0 : Int32)) := D248 (Or.inl hw22) (ty := .int) (by decide)
                          have Fn248_25 : Fld Z h248 b248 "java/util/ArrayList" "elementData" "[Ljava/lang/Object;" Value.null := D248 (Or.inl hw25) (ty := (.array (.object "java/lang/Object"))) (by decide)
                          have Fn248_40 : Fld Z h248 b248 "java/util/ArrayList" "size" "I" (Value.int (0 : Int32)) := D248 (Or.inl hw40) (ty := .int) (by decide)
                          show Go p.tables e below Pf (T248.setTop (mkF m 307 #[vi is, vi ia, vi ib, vi (1 : Int32), vi (0 : Int32), vi (0 : Int32), vi q6, vi q7, vi q8, vi q9, vi w154_0, vi w156_0, vi w158_0, vi w160_0, vi w162_0, vi w164_0, vi w166_0, vi w168_0, vr b233, .val .null, .unset, .unset] [(.ref b248)]))
                          refine Go.by' (fun t k => (XS.dup X248.here hx rfl (hb hby at_307) rfl rfl k)) ?_
                          obtain ⟨_, _, ⟨T249, L249, k249, n249⟩, -, X249, ⟨Lc249, hQ249, l249, y249, z249⟩, st249⟩ := X248.specialBack hx (y := (⟨"java/util/ArrayList", "<init>", "()V"⟩ : MethodName)) rfl hown (mvT hZ hw3) (mvT hZ hw4) (mvT hZ hw5) (by decide) (backOf (W := 1) (rmAL l Z a0 hw [] wD kD vcs G b248 h248 n0 O248 A248 Fn248_22 Fn248_25 Fn248_40 g_b248) hZ hw5 hw2 (by decide) (by decide)) (g := (mkF m 308 #[vi is, vi ia, vi ib, vi (1 : Int32), vi (0 : Int32), vi (0 : Int32), vi q6, vi q7, vi q8, vi q9, vi w154_0, vi w156_0, vi w158_0, vi w160_0, vi w162_0, vi w164_0, vi w166_0, vi w168_0, vr b233, .val .null, .unset, .unset] [(.ref b248), (.ref b248)])) rfl (by rw [hml]; rfl) (Steps.refl _) (a := b248) (argsL := []) (rest := [(.ref b248)]) (lenOf pd_5 rfl) rfl (by show 2 * 0 + _ ≤ _; exact Nat.le_of_eq rfl) (hb hby at_308) (fun _ _ => ⟨rfl, e248, (by decide : 10 + 0 ≤ _), (by decide : 31 + 0 ≤ _)⟩)
                          dsimp only [Pt.U, Pt.locs, Pt.cells, Pt.slots] at X249 l249 y249 z249 st249 hQ249
                          subst l249 y249 z249
                          obtain ⟨rfl, N249q, K249, f249_0, f249_1, f249_2, f249_3⟩ := hQ249
                          have N249 := Fr.app N243 N249q
                          obtain ⟨lc249, X249, N249⟩ := own_pack X249 N249
                          refine Go.by' (fun t k => st249.trans k) ?_
                          have O249 := O248.keep K249 (allS g_b248 all0)
                          have KC249 : Keep h0 T249.heap [] := KC248.trans K249 (allS (Or.inr sz_b248) all0)
                          show Go p.tables e below Pf (T249.setTop (mkF m 311 #[vi is, vi ia, vi ib, vi (1 : Int32), vi (0 : Int32), vi (0 : Int32), vi q6, vi q7, vi q8, vi q9, vi w154_0, vi w156_0, vi w158_0, vi w160_0, vi w162_0, vi w164_0, vi w166_0, vi w168_0, vr b233, .val .null, .unset, .unset] [(.ref b248)]))
                          refine Go.by' (fun t k => (XS.astore X249.here hx rfl (hb hby at_311) rfl rfl (l' := #[vi is, vi ia, vi ib, vi (1 : Int32), vi (0 : Int32), vi (0 : Int32), vi q6, vi q7, vi q8, vi q9, vi w154_0, vi w156_0, vi w158_0, vi w160_0, vi w162_0, vi w164_0, vi w166_0, vi w168_0, vr b233, vr b248, .unset, .unset]) rfl (XS.iload X249.here hx rfl (hb hby at_313) rfl (XS.iconst X249.here hx rfl (hb hby at_315) (XS.icmpYes X249.here hx rfl (pc0 := 316) (pc' := 346) rfl (hb hby at_316) rfl (tlt (by decide)).1 (by decide) (by decide) (XS.iload X249.here hx rfl (hb hby at_346) rfl (XS.iconst X249.here hx rfl (hb hby at_348) (XS.icmpYes X249.here hx rfl (pc0 := 349) (pc' := 379) rfl (hb hby at_349) rfl (tlt (by decide)).1 (by decide) (by decide) (XS.aload X249.here hx rfl (hb hby at_379) rfl rfl k))))))))) ?_
                          show Go p.tables e below Pf (T249.setTop (mkF m 381 #[vi is, vi ia, vi ib, vi (1 : Int32), vi (0 : Int32), vi (0 : Int32), vi q6, vi q7, vi q8, vi q9, vi w154_0, vi w156_0, vi w158_0, vi w160_0, vi w162_0, vi w164_0, vi w166_0, vi w168_0, vr b233, vr b248, .unset, .unset] [(.ref b233)]))
                          refine Go.by' (fun t k => (XS.aload X249.here hx rfl (hb hby at_381) rfl rfl k)) ?_
                          have c251 := ((f243_2.ext E248).keep K249)
                          have c252 := ((f243_4.ext E248).keep K249 (ninS (Nat.ne_of_lt (Nat.lt_of_lt_of_le (Nat.lt_of_lt_of_le A233.lt (Nat.le_trans K234.1 (Nat.le_trans E235.1 (Nat.le_trans K236.1 (Nat.le_trans K237.1 (Nat.le_trans K238.1 K243.1)))))) (Nat.le_of_eq g248.symm))) nin0))
                          obtain ⟨_, _, ⟨T250, L250, k250, n250⟩, -, X250, ⟨Lc250, hQ250, l250, y250, z250⟩, st250⟩ := Jvm.LawKit.callS X249 hx (y := (⟨"com/example/slatewipe/slatewipe/vendors/mariadb/Columns$Column", "sameTypes", "(Ljava/util/List;Ljava/util/List;)Z"⟩ : MethodName)) hown (mvT hZ hw26) (mvT hZ hw27) (mvT hZ hw28) (mvT hZ hw29) (by decide) (backOf (W := 0) (rmTd l Z a0 hw [] wD kD vcs G b233 b248 ((1 : Int32)) ((0 : Int32)) T249.heap n0 O249 c251 f249_0 c252 f249_3 (by decide)) hZ hw29 hw28 (by decide) (by decide)) (g := (mkF m 383 #[vi is, vi ia, vi ib, vi (1 : Int32), vi (0 : Int32), vi (0 : Int32), vi q6, vi q7, vi q8, vi q9, vi w154_0, vi w156_0, vi w158_0, vi w160_0, vi w162_0, vi w164_0, vi w166_0, vi w168_0, vr b233, vr b248, .unset, .unset] [(.ref b248), (.ref b233)])) rfl (by rw [hml]; rfl) (argsL := [(.ref b233), (.ref b248)]) (rest := []) (lenOf pd_15 rfl) rfl (by show 2 * 0 + _ ≤ _; exact Nat.le_of_eq rfl) (hb hby at_383) (fun _ _ => ⟨rfl, rfl, (by decide : 10 + 0 ≤ _), (by decide : 31 + 0 ≤ _)⟩)
                          dsimp only [Pt.U, Pt.locs, Pt.cells, Pt.slots] at X250 l250 y250 z250 st250 hQ250
                          subst l250 y250 z250
                          obtain ⟨rfl, rfl, e250⟩ := hQ250
                          try replace X250 := own_nil X250
                          refine Go.by' st250 ?_
                          show Go p.tables e below Pf (T250.setTop (mkF m 386 #[vi is, vi ia, vi ib, vi (1 : Int32), vi (0 : Int32), vi (0 : Int32), vi q6, vi q7, vi q8, vi q9, vi w154_0, vi w156_0, vi w158_0, vi w160_0, vi w162_0, vi w164_0, vi w166_0, vi w168_0, vr b233, vr b248, .unset, .unset] [(.int (0 : Int32))]))
                          refine Go.by' (fun t k => (XS.istore X250.here hx rfl (hb hby at_386) rfl (l' := #[vi is, vi ia, vi ib, vi (1 : Int32), vi (0 : Int32), vi (0 : Int32), vi q6, vi q7, vi q8, vi q9, vi w154_0, vi w156_0, vi w158_0, vi w160_0, vi w162_0, vi w164_0, vi w166_0, vi w168_0, vr b233, vr b248, vi (0 : Int32), .unset]) rfl (XS.iload X250.here hx rfl (hb hby at_388) rfl (XS.ifYes X250.here hx rfl (pc0 := 390) (pc' := 399) rfl (hb hby at_390) rfl ((if0 _ _).trans (teq (by decide)).1) (by decide) (by decide) (XS.iloadN X250.here hx rfl (hb hby at_399) rfl (XS.iload X250.here hx rfl (hb hby at_400) rfl (XS.icmpNo X250.here hx rfl (hb hby at_402) rfl (feq (by decide)).1 (XS.iconst X250.here hx rfl (hb hby at_405) (XS.istore X250.here hx rfl (hb hby at_406) rfl (l' := #[vi is, vi ia, vi ib, vi (1 : Int32), vi (0 : Int32), vi (0 : Int32), vi q6, vi q7, vi q8, vi q9, vi w154_0, vi w156_0, vi w158_0, vi w160_0, vi w162_0, vi w164_0, vi w166_0, vi w168_0, vr b233, vr b248, vi (0 : Int32), vi (0 : Int32)]) rfl k))))))))) ?_
                          show Go p.tables e below Pf (T250.setTop (mkF m 408 #[vi is, vi ia, vi ib, vi (1 : Int32), vi (0 : Int32), vi (0 : Int32), vi q6, vi q7, vi q8, vi q9, vi w154_0, vi w156_0, vi w158_0, vi w160_0, vi w162_0, vi w164_0, vi w166_0, vi w168_0, vr b233, vr b248, vi (0 : Int32), vi (0 : Int32)] []))
                          refine Go.by' (fun t k => (XS.goto X250.here hx rfl (pc0 := 408) (pc' := 471) rfl (hb hby at_408) (by decide) (by decide) (XS.iload X250.here hx rfl (hb hby at_471) rfl (XS.iload X250.here hx rfl (hb hby at_473) rfl (XS.icmpNo X250.here hx rfl (hb hby at_475) rfl (teq (by decide)).2 (XS.iconst X250.here hx rfl (hb hby at_478) (XS.goto X250.here hx rfl (pc0 := 479) (pc' := 483) rfl (hb hby at_479) (by decide) (by decide) k))))))) ?_
                          show Go p.tables e below Pf (T250.setTop (mkF m 483 #[vi is, vi ia, vi ib, vi (1 : Int32), vi (0 : Int32), vi (0 : Int32), vi q6, vi q7, vi q8, vi q9, vi w154_0, vi w156_0, vi w158_0, vi w160_0, vi w162_0, vi w164_0, vi w166_0, vi w168_0, vr b233, vr b248, vi (0 : Int32), vi (0 : Int32)] [(.int (1 : Int32))]))
                          rw [hPf]
                          exact Go.retI' X250 hx hret hlk (by simp) rfl (hb hby at_483) (by decide) (by decide) ⟨rfl, N249, (by rw [e250]; exact KC249)⟩
                        · refine Go.castF (a := ((((is.toUInt32 >>> ((2 : Int32) &&& 31).toUInt32).toInt32) &&& (3 : Int32)) % (3 : Int32))) (b := (1 : Int32)) (fun z' : Int32 => mkF m 223 #[vi is, vi ia, vi ib, vi (1 : Int32), vi z', vi (0 : Int32), vi q6, vi q7, vi q8, vi q9, vi w154_0, vi w156_0, vi w158_0, vi w160_0, vi w162_0, vi w164_0, vi w166_0, vi w168_0, .unset, .unset, .unset, .unset] []) (hm) ?_
                          obtain ⟨T253, h253, X253, e253, E253, A253, D253, -, st253⟩ := newO X168 hx hZ hown hw0 hw1 hw2 e168 (g := (mkF m 223 #[vi is, vi ia, vi ib, vi (1 : Int32), vi (1 : Int32), vi (0 : Int32), vi q6, vi q7, vi q8, vi q9, vi w154_0, vi w156_0, vi w158_0, vi w160_0, vi w162_0, vi w164_0, vi w166_0, vi w168_0, .unset, .unset, .unset, .unset] [])) rfl (hb hby at_223) (by decide) (by decide)
                          obtain ⟨b253, g253⟩ : ∃ z, z = h0.size := ⟨_, rfl⟩
                          rw [← g253] at A253 D253 st253
                          refine Go.by' st253 ?_
                          have g_b253 : n0 ≤ b253 := Nat.le_trans (own_le O0) (Nat.le_of_eq g253.symm)
                          have sz_b253 : h0.size ≤ b253 := Nat.le_trans KC0.1 (Nat.le_of_eq g253.symm)
                          have O253 := O0.ext E253
                          have KC253 : Keep h0 h253 [] := KC0.ext E253
                          have Fn253_22 : Fld Z h253 b253 "java/util/AbstractList" "modCount" "I" (Value.int (0 : Int32)) := D253 (Or.inl hw22) (ty := .int) (by decide)
                          have Fn253_25 : Fld Z h253 b253 "java/util/ArrayList" "elementData" "[Ljava/lang/Object;" Value.null := D253 (Or.inl hw25) (ty := (.array (.object "java/lang/Object"))) (by decide)
                          have Fn253_40 : Fld Z h253 b253 "java/util/ArrayList" "size" "I" (Value.int (0 : Int32)) := D253 (Or.inl hw40) (ty := .int) (by decide)
                          show Go p.tables e below Pf (T253.setTop (mkF m 226 #[vi is, vi ia, vi ib, vi (1 : Int32), vi (1 : Int32), vi (0 : Int32), vi q6, vi q7, vi q8, vi q9, vi w154_0, vi w156_0, vi w158_0, vi w160_0, vi w162_0, vi w164_0, vi w166_0, vi w168_0, .unset, .unset, .unset, .unset] [(.ref b253)]))
                          refine Go.by' (fun t k => (XS.dup X253.here hx rfl (hb hby at_226) rfl rfl k)) ?_
                          obtain ⟨_, _, ⟨T254, L254, k254, n254⟩, -, X254, ⟨Lc254, hQ254, l254, y254, z254⟩, st254⟩ := X253.specialBack hx (y := (⟨"java/util/ArrayList", "<init>", "()V"⟩ : MethodName)) rfl hown (mvT hZ hw3) (mvT hZ hw4) (mvT hZ hw5) (by decide) (backOf (W := 1) (rmAL l Z a0 hw [] wD kD vcs G b253 h253 n0 O253 A253 Fn253_22 Fn253_25 Fn253_40 g_b253) hZ hw5 hw2 (by decide) (by decide)) (g := (mkF m 227 #[vi is, vi ia, vi ib, vi (1 : Int32), vi (1 : Int32), vi (0 : Int32), vi q6, vi q7, vi q8, vi q9, vi w154_0, vi w156_0, vi w158_0, vi w160_0, vi w162_0, vi w164_0, vi w166_0, vi w168_0, .unset, .unset, .unset, .unset] [(.ref b253), (.ref b253)])) rfl (by rw [hml]; rfl) (Steps.refl _) (a := b253) (argsL := []) (rest := [(.ref b253)]) (lenOf pd_5 rfl) rfl (by show 2 * 0 + _ ≤ _; exact Nat.le_of_eq rfl) (hb hby at_227) (fun _ _ => ⟨rfl, e253, (by decide : 1 + 0 ≤ _), (by decide : 3 + 0 ≤ _)⟩)
                          dsimp only [Pt.U, Pt.locs, Pt.cells, Pt.slots] at X254 l254 y254 z254 st254 hQ254
                          subst l254 y254 z254
                          obtain ⟨rfl, N254q, K254, f254_0, f254_1, f254_2, f254_3⟩ := hQ254
                          have N254 := Fr.app N0 N254q
                          obtain ⟨lc254, X254, N254⟩ := own_pack X254 N254
                          refine Go.by' (fun t k => st254.trans k) ?_
                          have O254 := O253.keep K254 (allS g_b253 all0)
                          have KC254 : Keep h0 T254.heap [] := KC253.trans K254 (allS (Or.inr sz_b253) all0)
                          show Go p.tables e below Pf (T254.setTop (mkF m 230 #[vi is, vi ia, vi ib, vi (1 : Int32), vi (1 : Int32), vi (0 : Int32), vi q6, vi q7, vi q8, vi q9, vi w154_0, vi w156_0, vi w158_0, vi w160_0, vi w162_0, vi w164_0, vi w166_0, vi w168_0, .unset, .unset, .unset, .unset] [(.ref b253)]))
                          refine Go.by' (fun t k => (XS.astore X254.here hx rfl (hb hby at_230) rfl rfl (l' := #[vi is, vi ia, vi ib, vi (1 : Int32), vi (1 : Int32), vi (0 : Int32), vi q6, vi q7, vi q8, vi q9, vi w154_0, vi w156_0, vi w158_0, vi w160_0, vi w162_0, vi w164_0, vi w166_0, vi w168_0, vr b253, .unset, .unset, .unset]) rfl (XS.iloadN X254.here hx rfl (hb hby at_232) rfl (XS.iconst X254.here hx rfl (hb hby at_233) (XS.icmpNo X254.here hx rfl (hb hby at_234) rfl (flt (by decide)).1 (XS.aload X254.here hx rfl (hb hby at_237) rfl rfl k)))))) ?_
                          obtain ⟨T255, h255, X255, e255, E255, A255, D255, -, st255⟩ := newO X254 hx hZ hown hw41 hw42 hw28 rfl (g := (mkF m 239 #[vi is, vi ia, vi ib, vi (1 : Int32), vi (1 : Int32), vi (0 : Int32), vi q6, vi q7, vi q8, vi q9, vi w154_0, vi w156_0, vi w158_0, vi w160_0, vi w162_0, vi w164_0, vi w166_0, vi w168_0, vr b253, .unset, .unset, .unset] [(.ref b253)])) rfl (hb hby at_239) (by decide) (by decide)
                          obtain ⟨b255, g255⟩ : ∃ z, z = T254.heap.size := ⟨_, rfl⟩
                          rw [← g255] at A255 D255 st255
                          refine Go.by' st255 ?_
                          have g_b255 : n0 ≤ b255 := Nat.le_trans (own_le O254) (Nat.le_of_eq g255.symm)
                          have sz_b255 : h0.size ≤ b255 := Nat.le_trans KC254.1 (Nat.le_of_eq g255.symm)
                          have O255 := O254.ext E255
                          have KC255 : Keep h0 h255 [] := KC254.ext E255
                          have Fn255_85 : Fld Z h255 b255 "com/example/slatewipe/slatewipe/vendors/mariadb/Columns$Column" "name" "Ljava/lang/String;" Value.null := D255 (Or.inr hw85) (ty := (.object "java/lang/String")) (by decide)
                          have Fn255_87 : Fld Z h255 b255 "com/example/slatewipe/slatewipe/vendors/mariadb/Columns$Column" "type" "Ljava/lang/String;" Value.null := D255 (Or.inr hw87) (ty := (.object "java/lang/String")) (by decide)
                          have Fn255_89 : Fld Z h255 b255 "com/example/slatewipe/slatewipe/vendors/mariadb/Columns$Column" "nullable" "Z" (Value.int (0 : Int32)) := D255 (Or.inr hw89) (ty := .boolean) (by decide)
                          show Go p.tables e below Pf (T255.setTop (mkF m 242 #[vi is, vi ia, vi ib, vi (1 : Int32), vi (1 : Int32), vi (0 : Int32), vi q6, vi q7, vi q8, vi q9, vi w154_0, vi w156_0, vi w158_0, vi w160_0, vi w162_0, vi w164_0, vi w166_0, vi w168_0, vr b253, .unset, .unset, .unset] [(.ref b255), (.ref b253)]))
                          refine Go.by' (fun t k => (XS.dup X255.here hx rfl (hb hby at_242) rfl rfl (XS.iload X255.here hx rfl (hb hby at_243) rfl k))) ?_
                          obtain ⟨_, _, ⟨T256, L256, k256, n256⟩, -, X256, ⟨Lc256, hQ256, l256, y256, z256⟩, st256⟩ := Jvm.LawKit.callS X255 hx (y := (⟨"com/example/slatewipe/slatewipe/vendors/mariadb/ColumnSameTypesPinLaw", "str", "(I)Ljava/lang/String;"⟩ : MethodName)) hown (mvT hZ hw43) (mvT hZ hw44) (mvT hZ hw45) (mvT hZ hw46) (by decide) (backOf (W := 3) (rmStr l Z a0 hw [] wD kD vcs G q6 h255 n0 O255 bd6.1 bd6.2) hZ hw46 hw45 (by decide) (by decide)) (g := (mkF m 245 #[vi is, vi ia, vi ib, vi (1 : Int32), vi (1 : Int32), vi (0 : Int32), vi q6, vi q7, vi q8, vi q9, vi w154_0, vi w156_0, vi w158_0, vi w160_0, vi w162_0, vi w164_0, vi w166_0, vi w168_0, vr b253, .unset, .unset, .unset] [(.int q6), (.ref b255), (.ref b255), (.ref b253)])) rfl (by rw [hml]; rfl) (argsL := [(.int q6)]) (rest := [(.ref b255), (.ref b255), (.ref b253)]) (lenOf pd_16 rfl) rfl (by show 2 * 0 + _ ≤ _; exact Nat.le_of_eq rfl) (hb hby at_245) (fun _ _ => ⟨rfl, e255, (by decide : 2 + 3 ≤ _), (by decide : 6 + 6 ≤ _)⟩)
                          dsimp only [Pt.U, Pt.locs, Pt.cells, Pt.slots] at X256 l256 y256 z256 st256 hQ256
                          subst l256 y256 z256
                          obtain ⟨r_256, rb_256, kb_256, rfl, N256q, K256, f256_0, f256_1, f256_2, f256_3, f256_4, f256_5⟩ := hQ256
                          have N256 := Fr.app N254 N256q
                          obtain ⟨lc256, X256, N256⟩ := own_pack X256 N256
                          refine Go.by' st256 ?_
                          have g_r_256 : n0 ≤ r_256 := Nat.le_trans (own_le O255) f256_1
                          have sz_r_256 : h0.size ≤ r_256 := Nat.le_trans KC255.1 f256_1
                          have g_rb_256 : n0 ≤ rb_256 := Nat.le_trans (own_le O255) f256_5
                          have sz_rb_256 : h0.size ≤ rb_256 := Nat.le_trans KC255.1 f256_5
                          have O256 := O255.keep K256 all0
                          have KC256 : Keep h0 T256.heap [] := KC255.trans K256 all0
                          show Go p.tables e below Pf (T256.setTop (mkF m 248 #[vi is, vi ia, vi ib, vi (1 : Int32), vi (1 : Int32), vi (0 : Int32), vi q6, vi q7, vi q8, vi q9, vi w154_0, vi w156_0, vi w158_0, vi w160_0, vi w162_0, vi w164_0, vi w166_0, vi w168_0, vr b253, .unset, .unset, .unset] [(.ref r_256), (.ref b255), (.ref b255), (.ref b253)]))
                          refine Go.by' (fun t k => (XS.iload X256.here hx rfl (hb hby at_248) rfl k)) ?_
                          obtain ⟨_, _, ⟨T257, L257, k257, n257⟩, -, X257, ⟨Lc257, hQ257, l257, y257, z257⟩, st257⟩ := Jvm.LawKit.callS X256 hx (y := (⟨"com/example/slatewipe/slatewipe/vendors/mariadb/ColumnSameTypesPinLaw", "str", "(I)Ljava/lang/String;"⟩ : MethodName)) hown (mvT hZ hw43) (mvT hZ hw44) (mvT hZ hw45) (mvT hZ hw46) (by decide) (backOf (W := 4) (rmStr l Z a0 hw [] wD kD vcs G q7 T256.heap n0 O256 bd7.1 bd7.2) hZ hw46 hw45 (by decide) (by decide)) (g := (mkF m 250 #[vi is, vi ia, vi ib, vi (1 : Int32), vi (1 : Int32), vi (0 : Int32), vi q6, vi q7, vi q8, vi q9, vi w154_0, vi w156_0, vi w158_0, vi w160_0, vi w162_0, vi w164_0, vi w166_0, vi w168_0, vr b253, .unset, .unset, .unset] [(.int q7), (.ref r_256), (.ref b255), (.ref b255), (.ref b253)])) rfl (by rw [hml]; rfl) (argsL := [(.int q7)]) (rest := [(.ref r_256), (.ref b255), (.ref b255), (.ref b253)]) (lenOf pd_16 rfl) rfl (by show 2 * 0 + _ ≤ _; exact Nat.le_of_eq rfl) (hb hby at_250) (fun _ _ => ⟨rfl, rfl, (by decide : 5 + 3 ≤ _), (by decide : 12 + 6 ≤ _)⟩)
                          dsimp only [Pt.U, Pt.locs, Pt.cells, Pt.slots] at X257 l257 y257 z257 st257 hQ257
                          subst l257 y257 z257
                          obtain ⟨r_257, rb_257, kb_257, rfl, N257q, K257, f257_0, f257_1, f257_2, f257_3, f257_4, f257_5⟩ := hQ257
                          have N257 := Fr.app N256 N257q
                          obtain ⟨lc257, X257, N257⟩ := own_pack X257 N257
                          refine Go.by' st257 ?_
                          have g_r_257 : n0 ≤ r_257 := Nat.le_trans (own_le O256) f257_1
                          have sz_r_257 : h0.size ≤ r_257 := Nat.le_trans KC256.1 f257_1
                          have g_rb_257 : n0 ≤ rb_257 := Nat.le_trans (own_le O256) f257_5
                          have sz_rb_257 : h0.size ≤ rb_257 := Nat.le_trans KC256.1 f257_5
                          have O257 := O256.keep K257 all0
                          have KC257 : Keep h0 T257.heap [] := KC256.trans K257 all0
                          show Go p.tables e below Pf (T257.setTop (mkF m 253 #[vi is, vi ia, vi ib, vi (1 : Int32), vi (1 : Int32), vi (0 : Int32), vi q6, vi q7, vi q8, vi q9, vi w154_0, vi w156_0, vi w158_0, vi w160_0, vi w162_0, vi w164_0, vi w166_0, vi w168_0, vr b253, .unset, .unset, .unset] [(.ref r_257), (.ref r_256), (.ref b255), (.ref b255), (.ref b253)]))
                          refine Go.by' (fun t k => (XS.iload X257.here hx rfl (hb hby at_253) rfl k)) ?_
                          have c259 := ((A255.keep K256).keep K257)
                          have c260 := ((Fn255_85.keep K256 nin0).keep K257 nin0)
                          have c261 := ((Fn255_87.keep K256 nin0).keep K257 nin0)
                          have c262 := ((Fn255_89.keep K256 nin0).keep K257 nin0)
                          obtain ⟨_, _, ⟨T258, L258, k258, n258⟩, -, X258, ⟨Lc258, hQ258, l258, y258, z258⟩, st258⟩ := X257.specialBack hx (y := (⟨"com/example/slatewipe/slatewipe/vendors/mariadb/Columns$Column", "<init>", "(Ljava/lang/String;Ljava/lang/String;Z)V"⟩ : MethodName)) rfl hown (mvT hZ hw75) (mvT hZ hw76) (mvT hZ hw77) (by decide) (backOf (W := 2) (rmCol l Z a0 hw [] wD kD vcs G b255 r_256 r_257 w162_0 T257.heap n0 O257 c259 c260 c261 c262 g_b255 bw162_0) hZ hw77 hw28 (by decide) (by decide)) (g := (mkF m 255 #[vi is, vi ia, vi ib, vi (1 : Int32), vi (1 : Int32), vi (0 : Int32), vi q6, vi q7, vi q8, vi q9, vi w154_0, vi w156_0, vi w158_0, vi w160_0, vi w162_0, vi w164_0, vi w166_0, vi w168_0, vr b253, .unset, .unset, .unset] [(.int w162_0), (.ref r_257), (.ref r_256), (.ref b255), (.ref b255), (.ref b253)])) rfl (by rw [hml]; rfl) (Steps.refl _) (a := b255) (argsL := [(.ref r_256), (.ref r_257), (.int w162_0)]) (rest := [(.ref b255), (.ref b253)]) (lenOf pd_17 rfl) rfl (by show 2 * 0 + _ ≤ _; exact Nat.le_of_eq rfl) (hb hby at_255) (fun _ _ => ⟨rfl, rfl, (by decide : 8 + 0 ≤ _), (by decide : 18 + 0 ≤ _)⟩)
                          dsimp only [Pt.U, Pt.locs, Pt.cells, Pt.slots] at X258 l258 y258 z258 st258 hQ258
                          subst l258 y258 z258
                          obtain ⟨rfl, N258q, K258, f258_0, f258_1, f258_2⟩ := hQ258
                          have N258 := Fr.app N257 N258q
                          obtain ⟨lc258, X258, N258⟩ := own_pack X258 N258
                          refine Go.by' (fun t k => st258.trans k) ?_
                          have O258 := O257.keep K258 (allS g_b255 all0)
                          have KC258 : Keep h0 T258.heap [] := KC257.trans K258 (allS (Or.inr sz_b255) all0)
                          have c264 := ((((f254_0.ext E255).keep K256).keep K257).keep K258)
                          have c265 := ((((f254_3.ext E255).keep K256 nin0).keep K257 nin0).keep K258 (ninS (Nat.ne_of_lt (Nat.lt_of_lt_of_le (Nat.lt_of_lt_of_le A253.lt K254.1) (Nat.le_of_eq g255.symm))) nin0))
                          have c266 := ((((f254_2.ext E255).keep K256 nin0).keep K257 nin0).keep K258 (ninS (Nat.ne_of_lt (Nat.lt_of_lt_of_le (Nat.lt_of_lt_of_le A253.lt K254.1) (Nat.le_of_eq g255.symm))) nin0))
                          have c267 := ((((f254_1.ext E255).keep K256 nin0).keep K257 nin0).keep K258 (ninS (Nat.ne_of_lt (Nat.lt_of_lt_of_le (Nat.lt_of_lt_of_le A253.lt K254.1) (Nat.le_of_eq g255.symm))) nin0))
                          obtain ⟨cq263, kq263, q263a, q263b, q263c⟩ := isOf hZ rfl c264
                          obtain ⟨_, _, ⟨T263, L263, k263, n263⟩, -, X263, ⟨Lc263, hQ263, l263, y263, z263⟩, st263⟩ := X258.interfaceBack hx (xi := (⟨"java/util/List", "add", "(Ljava/lang/Object;)Z"⟩ : MethodName)) (y := (⟨"java/util/ArrayList", "add", "(Ljava/lang/Object;)Z"⟩ : MethodName)) hown (mvT hZ hw90) (mvT hZ hw91) (mvT hZ hw92) (mvT hZ hw93) (mvT hZ hw94) (mvT hZ hw95) (mvT hZ hw96) (mvT hZ hw37) (by decide) (backOf (W := 0) (rmA1_0 l Z a0 hw [] wD kD vcs G b253 b255 ((0 : Int32)) T258.heap n0 O258 c264 c265 c266 c267 g_b253 f258_0) hZ hw97 hw2 (by decide) (by decide)) q263a q263b q263c (g := (mkF m 258 #[vi is, vi ia, vi ib, vi (1 : Int32), vi (1 : Int32), vi (0 : Int32), vi q6, vi q7, vi q8, vi q9, vi w154_0, vi w156_0, vi w158_0, vi w160_0, vi w162_0, vi w164_0, vi w166_0, vi w168_0, vr b253, .unset, .unset, .unset] [(.ref b255), (.ref b253)])) rfl (by rw [hml]; rfl) (Steps.refl _) (argsL := [(.ref b255)]) (rest := []) (lenOf pd_14 rfl) rfl (by show 2 * 0 + _ ≤ _; exact Nat.le_of_eq rfl) (hb hby at_258) (fun _ _ => ⟨rfl, rfl, (by decide : 8 + 1 ≤ _), (by decide : 18 + 10 ≤ _)⟩)
                          dsimp only [Pt.U, Pt.locs, Pt.cells, Pt.slots] at X263 l263 y263 z263 st263 hQ263
                          subst l263 y263 z263
                          obtain ⟨r_263, kk_263, rfl, N263q, K263, f263_0, f263_1, f263_2, f263_3, f263_4, f263_5, r263_0⟩ := hQ263
                          have N263 := Fr.app N258 N263q
                          obtain ⟨lc263, X263, N263⟩ := own_pack X263 N263
                          refine Go.by' (fun t k => st263.trans k) ?_
                          have g_r_263 : n0 ≤ r_263 := Nat.le_trans (own_le O258) f263_1
                          have sz_r_263 : h0.size ≤ r_263 := Nat.le_trans KC258.1 f263_1
                          have O263 := O258.keep K263 (allS g_b253 all0)
                          have KC263 : Keep h0 T263.heap [] := KC258.trans K263 (allS (Or.inr sz_b253) all0)
                          show Go p.tables e below Pf (T263.setTop (mkF m 263 #[vi is, vi ia, vi ib, vi (1 : Int32), vi (1 : Int32), vi (0 : Int32), vi q6, vi q7, vi q8, vi q9, vi w154_0, vi w156_0, vi w158_0, vi w160_0, vi w162_0, vi w164_0, vi w166_0, vi w168_0, vr b253, .unset, .unset, .unset] [(.int (1 : Int32))]))
                          refine Go.by' (fun t k => (XS.pop X263.here hx rfl (hb hby at_263) rfl rfl (XS.iloadN X263.here hx rfl (hb hby at_264) rfl (XS.iconst X263.here hx rfl (hb hby at_265) (XS.icmpYes X263.here hx rfl (pc0 := 266) (pc' := 296) rfl (hb hby at_266) rfl (tlt (by decide)).1 (by decide) (by decide) (XS.aconstNull X263.here hx rfl (hb hby at_296) (XS.astore X263.here hx rfl (hb hby at_297) rfl rfl (l' := #[vi is, vi ia, vi ib, vi (1 : Int32), vi (1 : Int32), vi (0 : Int32), vi q6, vi q7, vi q8, vi q9, vi w154_0, vi w156_0, vi w158_0, vi w160_0, vi w162_0, vi w164_0, vi w166_0, vi w168_0, vr b253, .val .null, .unset, .unset]) rfl (XS.iload X263.here hx rfl (hb hby at_299) rfl (XS.ifNo X263.here hx rfl (hb hby at_301) rfl ((if0 _ _).trans (teq (by decide)).2) k))))))))) ?_
                          obtain ⟨T268, h268, X268, e268, E268, A268, D268, -, st268⟩ := newO X263 hx hZ hown hw0 hw1 hw2 rfl (g := (mkF m 304 #[vi is, vi ia, vi ib, vi (1 : Int32), vi (1 : Int32), vi (0 : Int32), vi q6, vi q7, vi q8, vi q9, vi w154_0, vi w156_0, vi w158_0, vi w160_0, vi w162_0, vi w164_0, vi w166_0, vi w168_0, vr b253, .val .null, .unset, .unset] [])) rfl (hb hby at_304) (by decide) (by decide)
                          obtain ⟨b268, g268⟩ : ∃ z, z = T263.heap.size := ⟨_, rfl⟩
                          rw [← g268] at A268 D268 st268
                          refine Go.by' st268 ?_
                          have g_b268 : n0 ≤ b268 := Nat.le_trans (own_le O263) (Nat.le_of_eq g268.symm)
                          have sz_b268 : h0.size ≤ b268 := Nat.le_trans KC263.1 (Nat.le_of_eq g268.symm)
                          have O268 := O263.ext E268
                          have KC268 : Keep h0 h268 [] := KC263.ext E268
                          have Fn268_22 : Fld Z h268 b268 "java/util/AbstractList" "modCount" "I" (Value.int (0 : Int32)) := D268 (Or.inl hw22) (ty := .int) (by decide)
                          have Fn268_25 : Fld Z h268 b268 "java/util/ArrayList" "elementData" "[Ljava/lang/Object;" Value.null := D268 (Or.inl hw25) (ty := (.array (.object "java/lang/Object"))) (by decide)
                          have Fn268_40 : Fld Z h268 b268 "java/util/ArrayList" "size" "I" (Value.int (0 : Int32)) := D268 (Or.inl hw40) (ty := .int) (by decide)
                          show Go p.tables e below Pf (T268.setTop (mkF m 307 #[vi is, vi ia, vi ib, vi (1 : Int32), vi (1 : Int32), vi (0 : Int32), vi q6, vi q7, vi q8, vi q9, vi w154_0, vi w156_0, vi w158_0, vi w160_0, vi w162_0, vi w164_0, vi w166_0, vi w168_0, vr b253, .val .null, .unset, .unset] [(.ref b268)]))
                          refine Go.by' (fun t k => (XS.dup X268.here hx rfl (hb hby at_307) rfl rfl k)) ?_
                          obtain ⟨_, _, ⟨T269, L269, k269, n269⟩, -, X269, ⟨Lc269, hQ269, l269, y269, z269⟩, st269⟩ := X268.specialBack hx (y := (⟨"java/util/ArrayList", "<init>", "()V"⟩ : MethodName)) rfl hown (mvT hZ hw3) (mvT hZ hw4) (mvT hZ hw5) (by decide) (backOf (W := 1) (rmAL l Z a0 hw [] wD kD vcs G b268 h268 n0 O268 A268 Fn268_22 Fn268_25 Fn268_40 g_b268) hZ hw5 hw2 (by decide) (by decide)) (g := (mkF m 308 #[vi is, vi ia, vi ib, vi (1 : Int32), vi (1 : Int32), vi (0 : Int32), vi q6, vi q7, vi q8, vi q9, vi w154_0, vi w156_0, vi w158_0, vi w160_0, vi w162_0, vi w164_0, vi w166_0, vi w168_0, vr b253, .val .null, .unset, .unset] [(.ref b268), (.ref b268)])) rfl (by rw [hml]; rfl) (Steps.refl _) (a := b268) (argsL := []) (rest := [(.ref b268)]) (lenOf pd_5 rfl) rfl (by show 2 * 0 + _ ≤ _; exact Nat.le_of_eq rfl) (hb hby at_308) (fun _ _ => ⟨rfl, e268, (by decide : 10 + 0 ≤ _), (by decide : 31 + 0 ≤ _)⟩)
                          dsimp only [Pt.U, Pt.locs, Pt.cells, Pt.slots] at X269 l269 y269 z269 st269 hQ269
                          subst l269 y269 z269
                          obtain ⟨rfl, N269q, K269, f269_0, f269_1, f269_2, f269_3⟩ := hQ269
                          have N269 := Fr.app N263 N269q
                          obtain ⟨lc269, X269, N269⟩ := own_pack X269 N269
                          refine Go.by' (fun t k => st269.trans k) ?_
                          have O269 := O268.keep K269 (allS g_b268 all0)
                          have KC269 : Keep h0 T269.heap [] := KC268.trans K269 (allS (Or.inr sz_b268) all0)
                          show Go p.tables e below Pf (T269.setTop (mkF m 311 #[vi is, vi ia, vi ib, vi (1 : Int32), vi (1 : Int32), vi (0 : Int32), vi q6, vi q7, vi q8, vi q9, vi w154_0, vi w156_0, vi w158_0, vi w160_0, vi w162_0, vi w164_0, vi w166_0, vi w168_0, vr b253, .val .null, .unset, .unset] [(.ref b268)]))
                          refine Go.by' (fun t k => (XS.astore X269.here hx rfl (hb hby at_311) rfl rfl (l' := #[vi is, vi ia, vi ib, vi (1 : Int32), vi (1 : Int32), vi (0 : Int32), vi q6, vi q7, vi q8, vi q9, vi w154_0, vi w156_0, vi w158_0, vi w160_0, vi w162_0, vi w164_0, vi w166_0, vi w168_0, vr b253, vr b268, .unset, .unset]) rfl (XS.iload X269.here hx rfl (hb hby at_313) rfl (XS.iconst X269.here hx rfl (hb hby at_315) (XS.icmpNo X269.here hx rfl (hb hby at_316) rfl (flt (by decide)).1 (XS.aload X269.here hx rfl (hb hby at_319) rfl rfl k)))))) ?_
                          obtain ⟨T270, h270, X270, e270, E270, A270, D270, -, st270⟩ := newO X269 hx hZ hown hw41 hw42 hw28 rfl (g := (mkF m 321 #[vi is, vi ia, vi ib, vi (1 : Int32), vi (1 : Int32), vi (0 : Int32), vi q6, vi q7, vi q8, vi q9, vi w154_0, vi w156_0, vi w158_0, vi w160_0, vi w162_0, vi w164_0, vi w166_0, vi w168_0, vr b253, vr b268, .unset, .unset] [(.ref b268)])) rfl (hb hby at_321) (by decide) (by decide)
                          obtain ⟨b270, g270⟩ : ∃ z, z = T269.heap.size := ⟨_, rfl⟩
                          rw [← g270] at A270 D270 st270
                          refine Go.by' st270 ?_
                          have g_b270 : n0 ≤ b270 := Nat.le_trans (own_le O269) (Nat.le_of_eq g270.symm)
                          have sz_b270 : h0.size ≤ b270 := Nat.le_trans KC269.1 (Nat.le_of_eq g270.symm)
                          have O270 := O269.ext E270
                          have KC270 : Keep h0 h270 [] := KC269.ext E270
                          have Fn270_85 : Fld Z h270 b270 "com/example/slatewipe/slatewipe/vendors/mariadb/Columns$Column" "name" "Ljava/lang/String;" Value.null := D270 (Or.inr hw85) (ty := (.object "java/lang/String")) (by decide)
                          have Fn270_87 : Fld Z h270 b270 "com/example/slatewipe/slatewipe/vendors/mariadb/Columns$Column" "type" "Ljava/lang/String;" Value.null := D270 (Or.inr hw87) (ty := (.object "java/lang/String")) (by decide)
                          have Fn270_89 : Fld Z h270 b270 "com/example/slatewipe/slatewipe/vendors/mariadb/Columns$Column" "nullable" "Z" (Value.int (0 : Int32)) := D270 (Or.inr hw89) (ty := .boolean) (by decide)
                          show Go p.tables e below Pf (T270.setTop (mkF m 324 #[vi is, vi ia, vi ib, vi (1 : Int32), vi (1 : Int32), vi (0 : Int32), vi q6, vi q7, vi q8, vi q9, vi w154_0, vi w156_0, vi w158_0, vi w160_0, vi w162_0, vi w164_0, vi w166_0, vi w168_0, vr b253, vr b268, .unset, .unset] [(.ref b270), (.ref b268)]))
                          refine Go.by' (fun t k => (XS.dup X270.here hx rfl (hb hby at_324) rfl rfl (XS.iload X270.here hx rfl (hb hby at_325) rfl k))) ?_
                          obtain ⟨_, _, ⟨T271, L271, k271, n271⟩, -, X271, ⟨Lc271, hQ271, l271, y271, z271⟩, st271⟩ := Jvm.LawKit.callS X270 hx (y := (⟨"com/example/slatewipe/slatewipe/vendors/mariadb/ColumnSameTypesPinLaw", "str", "(I)Ljava/lang/String;"⟩ : MethodName)) hown (mvT hZ hw43) (mvT hZ hw44) (mvT hZ hw45) (mvT hZ hw46) (by decide) (backOf (W := 3) (rmStr l Z a0 hw [] wD kD vcs G w154_0 h270 n0 O270 bd10.1 bd10.2) hZ hw46 hw45 (by decide) (by decide)) (g := (mkF m 327 #[vi is, vi ia, vi ib, vi (1 : Int32), vi (1 : Int32), vi (0 : Int32), vi q6, vi q7, vi q8, vi q9, vi w154_0, vi w156_0, vi w158_0, vi w160_0, vi w162_0, vi w164_0, vi w166_0, vi w168_0, vr b253, vr b268, .unset, .unset] [(.int w154_0), (.ref b270), (.ref b270), (.ref b268)])) rfl (by rw [hml]; rfl) (argsL := [(.int w154_0)]) (rest := [(.ref b270), (.ref b270), (.ref b268)]) (lenOf pd_16 rfl) rfl (by show 2 * 0 + _ ≤ _; exact Nat.le_of_eq rfl) (hb hby at_327) (fun _ _ => ⟨rfl, e270, (by decide : 11 + 3 ≤ _), (by decide : 34 + 6 ≤ _)⟩)
                          dsimp only [Pt.U, Pt.locs, Pt.cells, Pt.slots] at X271 l271 y271 z271 st271 hQ271
                          subst l271 y271 z271
                          obtain ⟨r_271, rb_271, kb_271, rfl, N271q, K271, f271_0, f271_1, f271_2, f271_3, f271_4, f271_5⟩ := hQ271
                          have N271 := Fr.app N269 N271q
                          obtain ⟨lc271, X271, N271⟩ := own_pack X271 N271
                          refine Go.by' st271 ?_
                          have g_r_271 : n0 ≤ r_271 := Nat.le_trans (own_le O270) f271_1
                          have sz_r_271 : h0.size ≤ r_271 := Nat.le_trans KC270.1 f271_1
                          have g_rb_271 : n0 ≤ rb_271 := Nat.le_trans (own_le O270) f271_5
                          have sz_rb_271 : h0.size ≤ rb_271 := Nat.le_trans KC270.1 f271_5
                          have O271 := O270.keep K271 all0
                          have KC271 : Keep h0 T271.heap [] := KC270.trans K271 all0
                          show Go p.tables e below Pf (T271.setTop (mkF m 330 #[vi is, vi ia, vi ib, vi (1 : Int32), vi (1 : Int32), vi (0 : Int32), vi q6, vi q7, vi q8, vi q9, vi w154_0, vi w156_0, vi w158_0, vi w160_0, vi w162_0, vi w164_0, vi w166_0, vi w168_0, vr b253, vr b268, .unset, .unset] [(.ref r_271), (.ref b270), (.ref b270), (.ref b268)]))
                          refine Go.by' (fun t k => (XS.iload X271.here hx rfl (hb hby at_330) rfl k)) ?_
                          obtain ⟨_, _, ⟨T272, L272, k272, n272⟩, -, X272, ⟨Lc272, hQ272, l272, y272, z272⟩, st272⟩ := Jvm.LawKit.callS X271 hx (y := (⟨"com/example/slatewipe/slatewipe/vendors/mariadb/ColumnSameTypesPinLaw", "str", "(I)Ljava/lang/String;"⟩ : MethodName)) hown (mvT hZ hw43) (mvT hZ hw44) (mvT hZ hw45) (mvT hZ hw46) (by decide) (backOf (W := 4) (rmStr l Z a0 hw [] wD kD vcs G w156_0 T271.heap n0 O271 bd11.1 bd11.2) hZ hw46 hw45 (by decide) (by decide)) (g := (mkF m 332 #[vi is, vi ia, vi ib, vi (1 : Int32), vi (1 : Int32), vi (0 : Int32), vi q6, vi q7, vi q8, vi q9, vi w154_0, vi w156_0, vi w158_0, vi w160_0, vi w162_0, vi w164_0, vi w166_0, vi w168_0, vr b253, vr b268, .unset, .unset] [(.int w156_0), (.ref r_271), (.ref b270), (.ref b270), (.ref b268)])) rfl (by rw [hml]; rfl) (argsL := [(.int w156_0)]) (rest := [(.ref r_271), (.ref b270), (.ref b270), (.ref b268)]) (lenOf pd_16 rfl) rfl (by show 2 * 0 + _ ≤ _; exact Nat.le_of_eq rfl) (hb hby at_332) (fun _ _ => ⟨rfl, rfl, (by decide : 14 + 3 ≤ _), (by decide : 40 + 6 ≤ _)⟩)
                          dsimp only [Pt.U, Pt.locs, Pt.cells, Pt.slots] at X272 l272 y272 z272 st272 hQ272
                          subst l272 y272 z272
                          obtain ⟨r_272, rb_272, kb_272, rfl, N272q, K272, f272_0, f272_1, f272_2, f272_3, f272_4, f272_5⟩ := hQ272
                          have N272 := Fr.app N271 N272q
                          obtain ⟨lc272, X272, N272⟩ := own_pack X272 N272
                          refine Go.by' st272 ?_
                          have g_r_272 : n0 ≤ r_272 := Nat.le_trans (own_le O271) f272_1
                          have sz_r_272 : h0.size ≤ r_272 := Nat.le_trans KC271.1 f272_1
                          have g_rb_272 : n0 ≤ rb_272 := Nat.le_trans (own_le O271) f272_5
                          have sz_rb_272 : h0.size ≤ rb_272 := Nat.le_trans KC271.1 f272_5
                          have O272 := O271.keep K272 all0
                          have KC272 : Keep h0 T272.heap [] := KC271.trans K272 all0
                          show Go p.tables e below Pf (T272.setTop (mkF m 335 #[vi is, vi ia, vi ib, vi (1 : Int32), vi (1 : Int32), vi (0 : Int32), vi q6, vi q7, vi q8, vi q9, vi w154_0, vi w156_0, vi w158_0, vi w160_0, vi w162_0, vi w164_0, vi w166_0, vi w168_0, vr b253, vr b268, .unset, .unset] [(.ref r_272), (.ref r_271), (.ref b270), (.ref b270), (.ref b268)]))
                          refine Go.by' (fun t k => (XS.iload X272.here hx rfl (hb hby at_335) rfl k)) ?_
                          have c274 := ((A270.keep K271).keep K272)
                          have c275 := ((Fn270_85.keep K271 nin0).keep K272 nin0)
                          have c276 := ((Fn270_87.keep K271 nin0).keep K272 nin0)
                          have c277 := ((Fn270_89.keep K271 nin0).keep K272 nin0)
                          obtain ⟨_, _, ⟨T273, L273, k273, n273⟩, -, X273, ⟨Lc273, hQ273, l273, y273, z273⟩, st273⟩ := X272.specialBack hx (y := (⟨"com/example/slatewipe/slatewipe/vendors/mariadb/Columns$Column", "<init>", "(Ljava/lang/String;Ljava/lang/String;Z)V"⟩ : MethodName)) rfl hown (mvT hZ hw75) (mvT hZ hw76) (mvT hZ hw77) (by decide) (backOf (W := 2) (rmCol l Z a0 hw [] wD kD vcs G b270 r_271 r_272 w166_0 T272.heap n0 O272 c274 c275 c276 c277 g_b270 bw166_0) hZ hw77 hw28 (by decide) (by decide)) (g := (mkF m 337 #[vi is, vi ia, vi ib, vi (1 : Int32), vi (1 : Int32), vi (0 : Int32), vi q6, vi q7, vi q8, vi q9, vi w154_0, vi w156_0, vi w158_0, vi w160_0, vi w162_0, vi w164_0, vi w166_0, vi w168_0, vr b253, vr b268, .unset, .unset] [(.int w166_0), (.ref r_272), (.ref r_271), (.ref b270), (.ref b270), (.ref b268)])) rfl (by rw [hml]; rfl) (Steps.refl _) (a := b270) (argsL := [(.ref r_271), (.ref r_272), (.int w166_0)]) (rest := [(.ref b270), (.ref b268)]) (lenOf pd_17 rfl) rfl (by show 2 * 0 + _ ≤ _; exact Nat.le_of_eq rfl) (hb hby at_337) (fun _ _ => ⟨rfl, rfl, (by decide : 17 + 0 ≤ _), (by decide : 46 + 0 ≤ _)⟩)
                          dsimp only [Pt.U, Pt.locs, Pt.cells, Pt.slots] at X273 l273 y273 z273 st273 hQ273
                          subst l273 y273 z273
                          obtain ⟨rfl, N273q, K273, f273_0, f273_1, f273_2⟩ := hQ273
                          have N273 := Fr.app N272 N273q
                          obtain ⟨lc273, X273, N273⟩ := own_pack X273 N273
                          refine Go.by' (fun t k => st273.trans k) ?_
                          have O273 := O272.keep K273 (allS g_b270 all0)
                          have KC273 : Keep h0 T273.heap [] := KC272.trans K273 (allS (Or.inr sz_b270) all0)
                          have c279 := ((((f269_0.ext E270).keep K271).keep K272).keep K273)
                          have c280 := ((((f269_3.ext E270).keep K271 nin0).keep K272 nin0).keep K273 (ninS (Nat.ne_of_lt (Nat.lt_of_lt_of_le (Nat.lt_of_lt_of_le A268.lt K269.1) (Nat.le_of_eq g270.symm))) nin0))
                          have c281 := ((((f269_2.ext E270).keep K271 nin0).keep K272 nin0).keep K273 (ninS (Nat.ne_of_lt (Nat.lt_of_lt_of_le (Nat.lt_of_lt_of_le A268.lt K269.1) (Nat.le_of_eq g270.symm))) nin0))
                          have c282 := ((((f269_1.ext E270).keep K271 nin0).keep K272 nin0).keep K273 (ninS (Nat.ne_of_lt (Nat.lt_of_lt_of_le (Nat.lt_of_lt_of_le A268.lt K269.1) (Nat.le_of_eq g270.symm))) nin0))
                          obtain ⟨cq278, kq278, q278a, q278b, q278c⟩ := isOf hZ rfl c279
                          obtain ⟨_, _, ⟨T278, L278, k278, n278⟩, -, X278, ⟨Lc278, hQ278, l278, y278, z278⟩, st278⟩ := X273.interfaceBack hx (xi := (⟨"java/util/List", "add", "(Ljava/lang/Object;)Z"⟩ : MethodName)) (y := (⟨"java/util/ArrayList", "add", "(Ljava/lang/Object;)Z"⟩ : MethodName)) hown (mvT hZ hw90) (mvT hZ hw91) (mvT hZ hw92) (mvT hZ hw93) (mvT hZ hw94) (mvT hZ hw95) (mvT hZ hw96) (mvT hZ hw37) (by decide) (backOf (W := 0) (rmA1_0 l Z a0 hw [] wD kD vcs G b268 b270 ((0 : Int32)) T273.heap n0 O273 c279 c280 c281 c282 g_b268 f273_0) hZ hw97 hw2 (by decide) (by decide)) q278a q278b q278c (g := (mkF m 340 #[vi is, vi ia, vi ib, vi (1 : Int32), vi (1 : Int32), vi (0 : Int32), vi q6, vi q7, vi q8, vi q9, vi w154_0, vi w156_0, vi w158_0, vi w160_0, vi w162_0, vi w164_0, vi w166_0, vi w168_0, vr b253, vr b268, .unset, .unset] [(.ref b270), (.ref b268)])) rfl (by rw [hml]; rfl) (Steps.refl _) (argsL := [(.ref b270)]) (rest := []) (lenOf pd_14 rfl) rfl (by show 2 * 0 + _ ≤ _; exact Nat.le_of_eq rfl) (hb hby at_340) (fun _ _ => ⟨rfl, rfl, (by decide : 17 + 1 ≤ _), (by decide : 46 + 10 ≤ _)⟩)
                          dsimp only [Pt.U, Pt.locs, Pt.cells, Pt.slots] at X278 l278 y278 z278 st278 hQ278
                          subst l278 y278 z278
                          obtain ⟨r_278, kk_278, rfl, N278q, K278, f278_0, f278_1, f278_2, f278_3, f278_4, f278_5, r278_0⟩ := hQ278
                          have N278 := Fr.app N273 N278q
                          obtain ⟨lc278, X278, N278⟩ := own_pack X278 N278
                          refine Go.by' (fun t k => st278.trans k) ?_
                          have g_r_278 : n0 ≤ r_278 := Nat.le_trans (own_le O273) f278_1
                          have sz_r_278 : h0.size ≤ r_278 := Nat.le_trans KC273.1 f278_1
                          have O278 := O273.keep K278 (allS g_b268 all0)
                          have KC278 : Keep h0 T278.heap [] := KC273.trans K278 (allS (Or.inr sz_b268) all0)
                          show Go p.tables e below Pf (T278.setTop (mkF m 345 #[vi is, vi ia, vi ib, vi (1 : Int32), vi (1 : Int32), vi (0 : Int32), vi q6, vi q7, vi q8, vi q9, vi w154_0, vi w156_0, vi w158_0, vi w160_0, vi w162_0, vi w164_0, vi w166_0, vi w168_0, vr b253, vr b268, .unset, .unset] [(.int (1 : Int32))]))
                          refine Go.by' (fun t k => (XS.pop X278.here hx rfl (hb hby at_345) rfl rfl (XS.iload X278.here hx rfl (hb hby at_346) rfl (XS.iconst X278.here hx rfl (hb hby at_348) (XS.icmpYes X278.here hx rfl (pc0 := 349) (pc' := 379) rfl (hb hby at_349) rfl (tlt (by decide)).1 (by decide) (by decide) (XS.aload X278.here hx rfl (hb hby at_379) rfl rfl (XS.aload X278.here hx rfl (hb hby at_381) rfl rfl k))))))) ?_
                          have c284 := (((((((f263_0.ext E268).keep K269 (ninS (Nat.ne_of_lt (Nat.lt_of_lt_of_le f263_0.lt (Nat.le_of_eq g268.symm))) nin0)).ext E270).keep K271 nin0).keep K272 nin0).keep K273 (ninS (Nat.ne_of_lt (Nat.lt_of_lt_of_le (Nat.lt_of_lt_of_le f263_0.lt (Nat.le_trans E268.1 K269.1)) (Nat.le_of_eq g270.symm))) nin0)).keep K278 (ninS (Nat.ne_of_lt (Nat.lt_of_lt_of_le f263_0.lt (Nat.le_of_eq g268.symm))) nin0))
                          have c285 := ((((((((((f256_4.keep K257 nin0).keep K258 (ninS (Ne.symm (Nat.ne_of_lt (Nat.lt_of_lt_of_le A255.lt f256_5))) nin0)).keep K263 (ninS (Ne.symm (Nat.ne_of_lt (Nat.lt_of_lt_of_le (Nat.lt_of_lt_of_le A253.lt (Nat.le_trans K254.1 E255.1)) f256_5))) nin0)).ext E268).keep K269 (ninS (Nat.ne_of_lt (Nat.lt_of_lt_of_le (Nat.lt_of_lt_of_le f256_4.lt (Nat.le_trans K257.1 (Nat.le_trans K258.1 K263.1))) (Nat.le_of_eq g268.symm))) nin0)).ext E270).keep K271 nin0).keep K272 nin0).keep K273 (ninS (Nat.ne_of_lt (Nat.lt_of_lt_of_le (Nat.lt_of_lt_of_le f256_4.lt (Nat.le_trans K257.1 (Nat.le_trans K258.1 (Nat.le_trans K263.1 (Nat.le_trans E268.1 K269.1))))) (Nat.le_of_eq g270.symm))) nin0)).keep K278 (ninS (Nat.ne_of_lt (Nat.lt_of_lt_of_le (Nat.lt_of_lt_of_le f256_4.lt (Nat.le_trans K257.1 (Nat.le_trans K258.1 K263.1))) (Nat.le_of_eq g268.symm))) nin0))
                          have c286 := (((((((((f257_4.keep K258 (ninS (Ne.symm (Nat.ne_of_lt (Nat.lt_of_lt_of_le (Nat.lt_of_lt_of_le A255.lt K256.1) f257_5))) nin0)).keep K263 (ninS (Ne.symm (Nat.ne_of_lt (Nat.lt_of_lt_of_le (Nat.lt_of_lt_of_le A253.lt (Nat.le_trans K254.1 (Nat.le_trans E255.1 K256.1))) f257_5))) nin0)).ext E268).keep K269 (ninS (Nat.ne_of_lt (Nat.lt_of_lt_of_le (Nat.lt_of_lt_of_le f257_4.lt (Nat.le_trans K258.1 K263.1)) (Nat.le_of_eq g268.symm))) nin0)).ext E270).keep K271 nin0).keep K272 nin0).keep K273 (ninS (Nat.ne_of_lt (Nat.lt_of_lt_of_le (Nat.lt_of_lt_of_le f257_4.lt (Nat.le_trans K258.1 (Nat.le_trans K263.1 (Nat.le_trans E268.1 K269.1)))) (Nat.le_of_eq g270.symm))) nin0)).keep K278 (ninS (Nat.ne_of_lt (Nat.lt_of_lt_of_le (Nat.lt_of_lt_of_le f257_4.lt (Nat.le_trans K258.1 K263.1)) (Nat.le_of_eq g268.symm))) nin0))
                          have c287 := (((f271_4.keep K272 nin0).keep K273 (ninS (Ne.symm (Nat.ne_of_lt (Nat.lt_of_lt_of_le A270.lt f271_5))) nin0)).keep K278 (ninS (Ne.symm (Nat.ne_of_lt (Nat.lt_of_lt_of_le (Nat.lt_of_lt_of_le A268.lt (Nat.le_trans K269.1 E270.1)) f271_5))) nin0))
                          have c288 := ((f272_4.keep K273 (ninS (Ne.symm (Nat.ne_of_lt (Nat.lt_of_lt_of_le (Nat.lt_of_lt_of_le A270.lt K271.1) f272_5))) nin0)).keep K278 (ninS (Ne.symm (Nat.ne_of_lt (Nat.lt_of_lt_of_le (Nat.lt_of_lt_of_le A268.lt (Nat.le_trans K269.1 (Nat.le_trans E270.1 K271.1))) f272_5))) nin0))
                          have c289 := (((((((f263_2.ext E268).keep K269).ext E270).keep K271).keep K272).keep K273).keep K278)
                          have c290 := (((((((f263_4.ext E268).keep K269 (ninS (Nat.ne_of_lt (Nat.lt_of_lt_of_le (Nat.lt_of_lt_of_le A253.lt (Nat.le_trans K254.1 (Nat.le_trans E255.1 (Nat.le_trans K256.1 (Nat.le_trans K257.1 (Nat.le_trans K258.1 K263.1)))))) (Nat.le_of_eq g268.symm))) nin0)).ext E270).keep K271 nin0).keep K272 nin0).keep K273 (ninS (Nat.ne_of_lt (Nat.lt_of_lt_of_le (Nat.lt_of_lt_of_le A253.lt (Nat.le_trans K254.1 (Nat.le_trans E255.1 (Nat.le_trans K256.1 (Nat.le_trans K257.1 (Nat.le_trans K258.1 (Nat.le_trans K263.1 (Nat.le_trans E268.1 K269.1)))))))) (Nat.le_of_eq g270.symm))) nin0)).keep K278 (ninS (Nat.ne_of_lt (Nat.lt_of_lt_of_le (Nat.lt_of_lt_of_le A253.lt (Nat.le_trans K254.1 (Nat.le_trans E255.1 (Nat.le_trans K256.1 (Nat.le_trans K257.1 (Nat.le_trans K258.1 K263.1)))))) (Nat.le_of_eq g268.symm))) nin0))
                          have c291 := (((((((f263_3.ext E268).keep K269 (ninS (Nat.ne_of_lt (Nat.lt_of_lt_of_le (Nat.lt_of_lt_of_le A253.lt (Nat.le_trans K254.1 (Nat.le_trans E255.1 (Nat.le_trans K256.1 (Nat.le_trans K257.1 (Nat.le_trans K258.1 K263.1)))))) (Nat.le_of_eq g268.symm))) nin0)).ext E270).keep K271 nin0).keep K272 nin0).keep K273 (ninS (Nat.ne_of_lt (Nat.lt_of_lt_of_le (Nat.lt_of_lt_of_le A253.lt (Nat.le_trans K254.1 (Nat.le_trans E255.1 (Nat.le_trans K256.1 (Nat.le_trans K257.1 (Nat.le_trans K258.1 (Nat.le_trans K263.1 (Nat.le_trans E268.1 K269.1)))))))) (Nat.le_of_eq g270.symm))) nin0)).keep K278 (ninS (Nat.ne_of_lt (Nat.lt_of_lt_of_le (Nat.lt_of_lt_of_le A253.lt (Nat.le_trans K254.1 (Nat.le_trans E255.1 (Nat.le_trans K256.1 (Nat.le_trans K257.1 (Nat.le_trans K258.1 K263.1)))))) (Nat.le_of_eq g268.symm))) nin0))
                          have c292 := ((((((((f258_0.keep K263).ext E268).keep K269).ext E270).keep K271).keep K272).keep K273).keep K278)
                          have c293 := ((((((((f258_1.keep K263 (ninS (Ne.symm (Nat.ne_of_lt (Nat.lt_of_lt_of_le (Nat.lt_of_lt_of_le A253.lt K254.1) (Nat.le_of_eq g255.symm)))) nin0)).ext E268).keep K269 (ninS (Nat.ne_of_lt (Nat.lt_of_lt_of_le (Nat.lt_of_lt_of_le A255.lt (Nat.le_trans K256.1 (Nat.le_trans K257.1 (Nat.le_trans K258.1 K263.1)))) (Nat.le_of_eq g268.symm))) nin0)).ext E270).keep K271 nin0).keep K272 nin0).keep K273 (ninS (Nat.ne_of_lt (Nat.lt_of_lt_of_le (Nat.lt_of_lt_of_le A255.lt (Nat.le_trans K256.1 (Nat.le_trans K257.1 (Nat.le_trans K258.1 (Nat.le_trans K263.1 (Nat.le_trans E268.1 K269.1)))))) (Nat.le_of_eq g270.symm))) nin0)).keep K278 (ninS (Nat.ne_of_lt (Nat.lt_of_lt_of_le (Nat.lt_of_lt_of_le A255.lt (Nat.le_trans K256.1 (Nat.le_trans K257.1 (Nat.le_trans K258.1 K263.1)))) (Nat.le_of_eq g268.symm))) nin0))
                          have c294 := ((((((((((f256_0.keep K257).keep K258).keep K263).ext E268).keep K269).ext E270).keep K271).keep K272).keep K273).keep K278)
                          have c295 := ((((((((((f256_2.keep K257 nin0).keep K258 (ninS (Ne.symm (Nat.ne_of_lt (Nat.lt_of_lt_of_le A255.lt f256_1))) nin0)).keep K263 (ninS (Ne.symm (Nat.ne_of_lt (Nat.lt_of_lt_of_le (Nat.lt_of_lt_of_le A253.lt (Nat.le_trans K254.1 E255.1)) f256_1))) nin0)).ext E268).keep K269 (ninS (Nat.ne_of_lt (Nat.lt_of_lt_of_le (Nat.lt_of_lt_of_le f256_0.lt (Nat.le_trans K257.1 (Nat.le_trans K258.1 K263.1))) (Nat.le_of_eq g268.symm))) nin0)).ext E270).keep K271 nin0).keep K272 nin0).keep K273 (ninS (Nat.ne_of_lt (Nat.lt_of_lt_of_le (Nat.lt_of_lt_of_le f256_0.lt (Nat.le_trans K257.1 (Nat.le_trans K258.1 (Nat.le_trans K263.1 (Nat.le_trans E268.1 K269.1))))) (Nat.le_of_eq g270.symm))) nin0)).keep K278 (ninS (Nat.ne_of_lt (Nat.lt_of_lt_of_le (Nat.lt_of_lt_of_le f256_0.lt (Nat.le_trans K257.1 (Nat.le_trans K258.1 K263.1))) (Nat.le_of_eq g268.symm))) nin0))
                          have c296 := ((((((((((f256_3.keep K257 nin0).keep K258 (ninS (Ne.symm (Nat.ne_of_lt (Nat.lt_of_lt_of_le A255.lt f256_1))) nin0)).keep K263 (ninS (Ne.symm (Nat.ne_of_lt (Nat.lt_of_lt_of_le (Nat.lt_of_lt_of_le A253.lt (Nat.le_trans K254.1 E255.1)) f256_1))) nin0)).ext E268).keep K269 (ninS (Nat.ne_of_lt (Nat.lt_of_lt_of_le (Nat.lt_of_lt_of_le f256_0.lt (Nat.le_trans K257.1 (Nat.le_trans K258.1 K263.1))) (Nat.le_of_eq g268.symm))) nin0)).ext E270).keep K271 nin0).keep K272 nin0).keep K273 (ninS (Nat.ne_of_lt (Nat.lt_of_lt_of_le (Nat.lt_of_lt_of_le f256_0.lt (Nat.le_trans K257.1 (Nat.le_trans K258.1 (Nat.le_trans K263.1 (Nat.le_trans E268.1 K269.1))))) (Nat.le_of_eq g270.symm))) nin0)).keep K278 (ninS (Nat.ne_of_lt (Nat.lt_of_lt_of_le (Nat.lt_of_lt_of_le f256_0.lt (Nat.le_trans K257.1 (Nat.le_trans K258.1 K263.1))) (Nat.le_of_eq g268.symm))) nin0))
                          have c297 := ((((((((f258_2.keep K263 (ninS (Ne.symm (Nat.ne_of_lt (Nat.lt_of_lt_of_le (Nat.lt_of_lt_of_le A253.lt K254.1) (Nat.le_of_eq g255.symm)))) nin0)).ext E268).keep K269 (ninS (Nat.ne_of_lt (Nat.lt_of_lt_of_le (Nat.lt_of_lt_of_le A255.lt (Nat.le_trans K256.1 (Nat.le_trans K257.1 (Nat.le_trans K258.1 K263.1)))) (Nat.le_of_eq g268.symm))) nin0)).ext E270).keep K271 nin0).keep K272 nin0).keep K273 (ninS (Nat.ne_of_lt (Nat.lt_of_lt_of_le (Nat.lt_of_lt_of_le A255.lt (Nat.le_trans K256.1 (Nat.le_trans K257.1 (Nat.le_trans K258.1 (Nat.le_trans K263.1 (Nat.le_trans E268.1 K269.1)))))) (Nat.le_of_eq g270.symm))) nin0)).keep K278 (ninS (Nat.ne_of_lt (Nat.lt_of_lt_of_le (Nat.lt_of_lt_of_le A255.lt (Nat.le_trans K256.1 (Nat.le_trans K257.1 (Nat.le_trans K258.1 K263.1)))) (Nat.le_of_eq g268.symm))) nin0))
                          have c298 := (((((((((f257_0.keep K258).keep K263).ext E268).keep K269).ext E270).keep K271).keep K272).keep K273).keep K278)
                          have c299 := (((((((((f257_2.keep K258 (ninS (Ne.symm (Nat.ne_of_lt (Nat.lt_of_lt_of_le (Nat.lt_of_lt_of_le A255.lt K256.1) f257_1))) nin0)).keep K263 (ninS (Ne.symm (Nat.ne_of_lt (Nat.lt_of_lt_of_le (Nat.lt_of_lt_of_le A253.lt (Nat.le_trans K254.1 (Nat.le_trans E255.1 K256.1))) f257_1))) nin0)).ext E268).keep K269 (ninS (Nat.ne_of_lt (Nat.lt_of_lt_of_le (Nat.lt_of_lt_of_le f257_0.lt (Nat.le_trans K258.1 K263.1)) (Nat.le_of_eq g268.symm))) nin0)).ext E270).keep K271 nin0).keep K272 nin0).keep K273 (ninS (Nat.ne_of_lt (Nat.lt_of_lt_of_le (Nat.lt_of_lt_of_le f257_0.lt (Nat.le_trans K258.1 (Nat.le_trans K263.1 (Nat.le_trans E268.1 K269.1)))) (Nat.le_of_eq g270.symm))) nin0)).keep K278 (ninS (Nat.ne_of_lt (Nat.lt_of_lt_of_le (Nat.lt_of_lt_of_le f257_0.lt (Nat.le_trans K258.1 K263.1)) (Nat.le_of_eq g268.symm))) nin0))
                          have c300 := (((((((((f257_3.keep K258 (ninS (Ne.symm (Nat.ne_of_lt (Nat.lt_of_lt_of_le (Nat.lt_of_lt_of_le A255.lt K256.1) f257_1))) nin0)).keep K263 (ninS (Ne.symm (Nat.ne_of_lt (Nat.lt_of_lt_of_le (Nat.lt_of_lt_of_le A253.lt (Nat.le_trans K254.1 (Nat.le_trans E255.1 K256.1))) f257_1))) nin0)).ext E268).keep K269 (ninS (Nat.ne_of_lt (Nat.lt_of_lt_of_le (Nat.lt_of_lt_of_le f257_0.lt (Nat.le_trans K258.1 K263.1)) (Nat.le_of_eq g268.symm))) nin0)).ext E270).keep K271 nin0).keep K272 nin0).keep K273 (ninS (Nat.ne_of_lt (Nat.lt_of_lt_of_le (Nat.lt_of_lt_of_le f257_0.lt (Nat.le_trans K258.1 (Nat.le_trans K263.1 (Nat.le_trans E268.1 K269.1)))) (Nat.le_of_eq g270.symm))) nin0)).keep K278 (ninS (Nat.ne_of_lt (Nat.lt_of_lt_of_le (Nat.lt_of_lt_of_le f257_0.lt (Nat.le_trans K258.1 K263.1)) (Nat.le_of_eq g268.symm))) nin0))
                          have c301 := (((f271_0.keep K272).keep K273).keep K278)
                          have c302 := (((f271_2.keep K272 nin0).keep K273 (ninS (Ne.symm (Nat.ne_of_lt (Nat.lt_of_lt_of_le A270.lt f271_1))) nin0)).keep K278 (ninS (Ne.symm (Nat.ne_of_lt (Nat.lt_of_lt_of_le (Nat.lt_of_lt_of_le A268.lt (Nat.le_trans K269.1 E270.1)) f271_1))) nin0))
                          have c303 := (((f271_3.keep K272 nin0).keep K273 (ninS (Ne.symm (Nat.ne_of_lt (Nat.lt_of_lt_of_le A270.lt f271_1))) nin0)).keep K278 (ninS (Ne.symm (Nat.ne_of_lt (Nat.lt_of_lt_of_le (Nat.lt_of_lt_of_le A268.lt (Nat.le_trans K269.1 E270.1)) f271_1))) nin0))
                          have c304 := ((f272_0.keep K273).keep K278)
                          have c305 := ((f272_2.keep K273 (ninS (Ne.symm (Nat.ne_of_lt (Nat.lt_of_lt_of_le (Nat.lt_of_lt_of_le A270.lt K271.1) f272_1))) nin0)).keep K278 (ninS (Ne.symm (Nat.ne_of_lt (Nat.lt_of_lt_of_le (Nat.lt_of_lt_of_le A268.lt (Nat.le_trans K269.1 (Nat.le_trans E270.1 K271.1))) f272_1))) nin0))
                          have c306 := ((f272_3.keep K273 (ninS (Ne.symm (Nat.ne_of_lt (Nat.lt_of_lt_of_le (Nat.lt_of_lt_of_le A270.lt K271.1) f272_1))) nin0)).keep K278 (ninS (Ne.symm (Nat.ne_of_lt (Nat.lt_of_lt_of_le (Nat.lt_of_lt_of_le A268.lt (Nat.le_trans K269.1 (Nat.le_trans E270.1 K271.1))) f272_1))) nin0))
                          obtain ⟨_, _, ⟨T283, L283, k283, n283⟩, -, X283, ⟨Lc283, hQ283, l283, y283, z283⟩, st283⟩ := Jvm.LawKit.callS X278 hx (y := (⟨"com/example/slatewipe/slatewipe/vendors/mariadb/Columns$Column", "sameTypes", "(Ljava/util/List;Ljava/util/List;)Z"⟩ : MethodName)) hown (mvT hZ hw26) (mvT hZ hw27) (mvT hZ hw28) (mvT hZ hw29) (by decide) (backOf (W := 0) (rmT1 l Z a0 hw [] wD kD vcs G b253 b268 r_263 kk_263 r_278 kk_278 b255 r_256 rb_256 kb_256 ((q6.toInt8.toInt32)) r_257 rb_257 kb_257 ((q7.toInt8.toInt32)) b270 r_271 rb_271 kb_271 ((w154_0.toInt8.toInt32)) r_272 rb_272 kb_272 ((w156_0.toInt8.toInt32)) T278.heap n0 O278 c289 f278_2 c290 f278_4 c291 c284 f278_3 f278_0 c292 c293 c294 c295 c296 c285 c297 c298 c299 c300 c286 (f273_0.keep K278) (f273_1.keep K278 (ninS (Ne.symm (Nat.ne_of_lt (Nat.lt_of_lt_of_le (Nat.lt_of_lt_of_le A268.lt K269.1) (Nat.le_of_eq g270.symm)))) nin0)) c301 c302 c303 c287 (f273_2.keep K278 (ninS (Ne.symm (Nat.ne_of_lt (Nat.lt_of_lt_of_le (Nat.lt_of_lt_of_le A268.lt K269.1) (Nat.le_of_eq g270.symm)))) nin0)) c304 c305 c306 c288 (Nat.ne_of_lt (Nat.lt_of_lt_of_le (Nat.lt_of_lt_of_le f256_0.lt (Nat.le_trans K257.1 (Nat.le_trans K258.1 (Nat.le_trans K263.1 (Nat.le_trans E268.1 (Nat.le_trans K269.1 E270.1)))))) f271_1)) (Nat.ne_of_lt (Nat.lt_of_lt_of_le (Nat.lt_of_lt_of_le f257_0.lt (Nat.le_trans K258.1 (Nat.le_trans K263.1 (Nat.le_trans E268.1 (Nat.le_trans K269.1 (Nat.le_trans E270.1 K271.1)))))) f272_1))) hZ hw29 hw28 (by decide) (by decide)) (g := (mkF m 383 #[vi is, vi ia, vi ib, vi (1 : Int32), vi (1 : Int32), vi (0 : Int32), vi q6, vi q7, vi q8, vi q9, vi w154_0, vi w156_0, vi w158_0, vi w160_0, vi w162_0, vi w164_0, vi w166_0, vi w168_0, vr b253, vr b268, .unset, .unset] [(.ref b268), (.ref b253)])) rfl (by rw [hml]; rfl) (argsL := [(.ref b253), (.ref b268)]) (rest := []) (lenOf pd_15 rfl) rfl (by show 2 * 0 + _ ≤ _; exact Nat.le_of_eq rfl) (hb hby at_383) (fun _ _ => ⟨rfl, rfl, (by decide : 18 + 0 ≤ _), (by decide : 56 + 0 ≤ _)⟩)
                          dsimp only [Pt.U, Pt.locs, Pt.cells, Pt.slots] at X283 l283 y283 z283 st283 hQ283
                          subst l283 y283 z283
                          obtain ⟨r_283, rfl, rfl, e283, r283_0⟩ := hQ283
                          try replace X283 := own_nil X283
                          refine Go.by' st283 ?_
                          show Go p.tables e below Pf (T283.setTop (mkF m 386 #[vi is, vi ia, vi ib, vi (1 : Int32), vi (1 : Int32), vi (0 : Int32), vi q6, vi q7, vi q8, vi q9, vi w154_0, vi w156_0, vi w158_0, vi w160_0, vi w162_0, vi w164_0, vi w166_0, vi w168_0, vr b253, vr b268, .unset, .unset] [(.int r_283)]))
                          refine Go.by' (fun t k => (XS.istore X283.here hx rfl (hb hby at_386) rfl (l' := #[vi is, vi ia, vi ib, vi (1 : Int32), vi (1 : Int32), vi (0 : Int32), vi q6, vi q7, vi q8, vi q9, vi w154_0, vi w156_0, vi w158_0, vi w160_0, vi w162_0, vi w164_0, vi w166_0, vi w168_0, vr b253, vr b268, vi r_283, .unset]) rfl (XS.iload X283.here hx rfl (hb hby at_388) rfl (XS.ifYes X283.here hx rfl (pc0 := 390) (pc' := 399) rfl (hb hby at_390) rfl ((if0 _ _).trans (teq (by decide)).1) (by decide) (by decide) (XS.iloadN X283.here hx rfl (hb hby at_399) rfl (XS.iload X283.here hx rfl (hb hby at_400) rfl (XS.icmpYes X283.here hx rfl (pc0 := 402) (pc' := 411) rfl (hb hby at_402) rfl (teq (by decide)).1 (by decide) (by decide) (XS.iconst X283.here hx rfl (hb hby at_411) (XS.istore X283.here hx rfl (hb hby at_412) rfl (l' := #[vi is, vi ia, vi ib, vi (1 : Int32), vi (1 : Int32), vi (0 : Int32), vi q6, vi q7, vi q8, vi q9, vi w154_0, vi w156_0, vi w158_0, vi w160_0, vi w162_0, vi w164_0, vi w166_0, vi w168_0, vr b253, vr b268, vi r_283, vi (1 : Int32)]) rfl k))))))))) ?_
                          show Go p.tables e below Pf (T283.setTop (mkF m 414 #[vi is, vi ia, vi ib, vi (1 : Int32), vi (1 : Int32), vi (0 : Int32), vi q6, vi q7, vi q8, vi q9, vi w154_0, vi w156_0, vi w158_0, vi w160_0, vi w162_0, vi w164_0, vi w166_0, vi w168_0, vr b253, vr b268, vi r_283, vi (1 : Int32)] []))
                          refine Go.by' (fun t k => (XS.iloadN X283.here hx rfl (hb hby at_414) rfl (XS.iconst X283.here hx rfl (hb hby at_415) (XS.icmpNo X283.here hx rfl (hb hby at_416) rfl (flt (by decide)).1 (XS.iload X283.here hx rfl (hb hby at_419) rfl (XS.iload X283.here hx rfl (hb hby at_421) rfl k)))))) ?_
                          show Go p.tables e below Pf (T283.setTop (mkF m 423 #[vi is, vi ia, vi ib, vi (1 : Int32), vi (1 : Int32), vi (0 : Int32), vi q6, vi q7, vi q8, vi q9, vi w154_0, vi w156_0, vi w158_0, vi w160_0, vi w162_0, vi w164_0, vi w166_0, vi w168_0, vr b253, vr b268, vi r_283, vi (1 : Int32)] [(.int w154_0), (.int q6)]))
                          have jn309 : ∀ (T' : State) (w309_0 : Int32), Like X283 T' → T'.heap = T278.heap → ((q6 = w154_0 ∧ q7 = w156_0 ∧ w309_0 = (1 : Int32)) ∨ (q6 = w154_0 ∧ ¬ (q7 = w156_0) ∧ w309_0 = (0 : Int32)) ∨ (¬ (q6 = w154_0) ∧ w309_0 = (0 : Int32))) → Go p.tables e below Pf (T'.setTop (mkF m 438 #[vi is, vi ia, vi ib, vi (1 : Int32), vi (1 : Int32), vi (0 : Int32), vi q6, vi q7, vi q8, vi q9, vi w154_0, vi w156_0, vi w158_0, vi w160_0, vi w162_0, vi w164_0, vi w166_0, vi w168_0, vr b253, vr b268, vi r_283, vi (1 : Int32)] [(.int w309_0)])) := by
                            intro T309 w309_0 X309 e309 hm309
                            unfold Like at X309
                            have bw309_0 : w309_0 = 0 ∨ w309_0 = 1 := by rcases hm309 with ⟨_, _, h⟩ | ⟨_, _, h⟩ | ⟨_, h⟩ <;> first | exact Or.inl h | exact Or.inr h
                            show Go p.tables e below Pf (T309.setTop (mkF m 438 #[vi is, vi ia, vi ib, vi (1 : Int32), vi (1 : Int32), vi (0 : Int32), vi q6, vi q7, vi q8, vi q9, vi w154_0, vi w156_0, vi w158_0, vi w160_0, vi w162_0, vi w164_0, vi w166_0, vi w168_0, vr b253, vr b268, vi r_283, vi (1 : Int32)] [(.int w309_0)]))
                            refine Go.by' (fun t k => (XS.istore X309.here hx rfl (hb hby at_438) rfl (l' := #[vi is, vi ia, vi ib, vi (1 : Int32), vi (1 : Int32), vi (0 : Int32), vi q6, vi q7, vi q8, vi q9, vi w154_0, vi w156_0, vi w158_0, vi w160_0, vi w162_0, vi w164_0, vi w166_0, vi w168_0, vr b253, vr b268, vi r_283, vi w309_0]) rfl (XS.iloadN X309.here hx rfl (hb hby at_440) rfl (XS.iconst X309.here hx rfl (hb hby at_441) (XS.icmpYes X309.here hx rfl (pc0 := 442) (pc' := 471) rfl (hb hby at_442) rfl (tlt (by decide)).1 (by decide) (by decide) (XS.iload X309.here hx rfl (hb hby at_471) rfl (XS.iload X309.here hx rfl (hb hby at_473) rfl (XS.icmpNo X309.here hx rfl (hb hby at_475) rfl (teq (own_fin1 (by have hr' := r283_0; have e6 := own_b8 bd6.1 bd6.2 bd10.1 bd10.2; have e7 := own_b8 bd7.1 bd7.2 bd11.1 bd11.2; simp only [e6, e7] at hr'; exact hr') hm309)).2 (XS.iconst X309.here hx rfl (hb hby at_478) k))))))))) ?_
                            show Go p.tables e below Pf (T309.setTop (mkF m 479 #[vi is, vi ia, vi ib, vi (1 : Int32), vi (1 : Int32), vi (0 : Int32), vi q6, vi q7, vi q8, vi q9, vi w154_0, vi w156_0, vi w158_0, vi w160_0, vi w162_0, vi w164_0, vi w166_0, vi w168_0, vr b253, vr b268, vi r_283, vi w309_0] [(.int (1 : Int32))]))
                            refine Go.by' (fun t k => (XS.goto X309.here hx rfl (pc0 := 479) (pc' := 483) rfl (hb hby at_479) (by decide) (by decide) k)) ?_
                            show Go p.tables e below Pf (T309.setTop (mkF m 483 #[vi is, vi ia, vi ib, vi (1 : Int32), vi (1 : Int32), vi (0 : Int32), vi q6, vi q7, vi q8, vi q9, vi w154_0, vi w156_0, vi w158_0, vi w160_0, vi w162_0, vi w164_0, vi w166_0, vi w168_0, vr b253, vr b268, vi r_283, vi w309_0] [(.int (1 : Int32))]))
                            rw [hPf]
                            exact Go.retI' X309 hx hret hlk (by simp) rfl (hb hby at_483) (by decide) (by decide) ⟨rfl, N278, (by rw [e309]; exact KC278)⟩
                          by_cases hc310 : q6 = w154_0
                          · refine Go.by' (fun t k => (XS.icmpNo X283.here hx rfl (hb hby at_423) rfl (teq hc310).2 (XS.iload X283.here hx rfl (hb hby at_426) rfl (XS.iload X283.here hx rfl (hb hby at_428) rfl k)))) ?_
                            show Go p.tables e below Pf (T283.setTop (mkF m 430 #[vi is, vi ia, vi ib, vi (1 : Int32), vi (1 : Int32), vi (0 : Int32), vi q6, vi q7, vi q8, vi q9, vi w154_0, vi w156_0, vi w158_0, vi w160_0, vi w162_0, vi w164_0, vi w166_0, vi w168_0, vr b253, vr b268, vi r_283, vi (1 : Int32)] [(.int w156_0), (.int q7)]))
                            by_cases hc311 : q7 = w156_0
                            · refine Go.by' (fun t k => (XS.icmpNo X283.here hx rfl (hb hby at_430) rfl (teq hc311).2 (XS.iconst X283.here hx rfl (hb hby at_433) (XS.goto X283.here hx rfl (pc0 := 434) (pc' := 438) rfl (hb hby at_434) (by decide) (by decide) k)))) ?_
                              show Go p.tables e below Pf (T283.setTop (mkF m 438 #[vi is, vi ia, vi ib, vi (1 : Int32), vi (1 : Int32), vi (0 : Int32), vi q6, vi q7, vi q8, vi q9, vi w154_0, vi w156_0, vi w158_0, vi w160_0, vi w162_0, vi w164_0, vi w166_0, vi w168_0, vr b253, vr b268, vi r_283, vi (1 : Int32)] [(.int (1 : Int32))]))
                              exact jn309 T283 ((1 : Int32)) X283 e283  (Or.inl ⟨hc310, hc311, rfl⟩)
                            · refine Go.by' (fun t k => (XS.icmpYes X283.here hx rfl (pc0 := 430) (pc' := 437) rfl (hb hby at_430) rfl (feq hc311).2 (by decide) (by decide) (XS.iconst X283.here hx rfl (hb hby at_437) k))) ?_
                              show Go p.tables e below Pf (T283.setTop (mkF m 438 #[vi is, vi ia, vi ib, vi (1 : Int32), vi (1 : Int32), vi (0 : Int32), vi q6, vi q7, vi q8, vi q9, vi w154_0, vi w156_0, vi w158_0, vi w160_0, vi w162_0, vi w164_0, vi w166_0, vi w168_0, vr b253, vr b268, vi r_283, vi (1 : Int32)] [(.int (0 : Int32))]))
                              exact jn309 T283 ((0 : Int32)) X283 e283  (Or.inr (Or.inl ⟨hc310, hc311, rfl⟩))
                          · refine Go.by' (fun t k => (XS.icmpYes X283.here hx rfl (pc0 := 423) (pc' := 437) rfl (hb hby at_423) rfl (feq hc310).2 (by decide) (by decide) (XS.iconst X283.here hx rfl (hb hby at_437) k))) ?_
                            show Go p.tables e below Pf (T283.setTop (mkF m 438 #[vi is, vi ia, vi ib, vi (1 : Int32), vi (1 : Int32), vi (0 : Int32), vi q6, vi q7, vi q8, vi q9, vi w154_0, vi w156_0, vi w158_0, vi w160_0, vi w162_0, vi w164_0, vi w166_0, vi w168_0, vr b253, vr b268, vi r_283, vi (1 : Int32)] [(.int (0 : Int32))]))
                            exact jn309 T283 ((0 : Int32)) X283 e283  (Or.inr (Or.inr ⟨hc310, rfl⟩))
                        · refine Go.castF (a := ((((is.toUInt32 >>> ((2 : Int32) &&& 31).toUInt32).toInt32) &&& (3 : Int32)) % (3 : Int32))) (b := (2 : Int32)) (fun z' : Int32 => mkF m 223 #[vi is, vi ia, vi ib, vi (1 : Int32), vi z', vi (0 : Int32), vi q6, vi q7, vi q8, vi q9, vi w154_0, vi w156_0, vi w158_0, vi w160_0, vi w162_0, vi w164_0, vi w166_0, vi w168_0, .unset, .unset, .unset, .unset] []) (hm) ?_
                          obtain ⟨T312, h312, X312, e312, E312, A312, D312, -, st312⟩ := newO X168 hx hZ hown hw0 hw1 hw2 e168 (g := (mkF m 223 #[vi is, vi ia, vi ib, vi (1 : Int32), vi (2 : Int32), vi (0 : Int32), vi q6, vi q7, vi q8, vi q9, vi w154_0, vi w156_0, vi w158_0, vi w160_0, vi w162_0, vi w164_0, vi w166_0, vi w168_0, .unset, .unset, .unset, .unset] [])) rfl (hb hby at_223) (by decide) (by decide)
                          obtain ⟨b312, g312⟩ : ∃ z, z = h0.size := ⟨_, rfl⟩
                          rw [← g312] at A312 D312 st312
                          refine Go.by' st312 ?_
                          have g_b312 : n0 ≤ b312 := Nat.le_trans (own_le O0) (Nat.le_of_eq g312.symm)
                          have sz_b312 : h0.size ≤ b312 := Nat.le_trans KC0.1 (Nat.le_of_eq g312.symm)
                          have O312 := O0.ext E312
                          have KC312 : Keep h0 h312 [] := KC0.ext E312
                          have Fn312_22 : Fld Z h312 b312 "java/util/AbstractList" "modCount" "I" (Value.int (0 : Int32)) := D312 (Or.inl hw22) (ty := .int) (by decide)
                          have Fn312_25 : Fld Z h312 b312 "java/util/ArrayList" "elementData" "[Ljava/lang/Object;" Value.null := D312 (Or.inl hw25) (ty := (.array (.object "java/lang/Object"))) (by decide)
                          have Fn312_40 : Fld Z h312 b312 "java/util/ArrayList" "size" "I" (Value.int (0 : Int32)) := D312 (Or.inl hw40) (ty := .int) (by decide)
                          show Go p.tables e below Pf (T312.setTop (mkF m 226 #[vi is, vi ia, vi ib, vi (1 : Int32), vi (2 : Int32), vi (0 : Int32), vi q6, vi q7, vi q8, vi q9, vi w154_0, vi w156_0, vi w158_0, vi w160_0, vi w162_0, vi w164_0, vi w166_0, vi w168_0, .unset, .unset, .unset, .unset] [(.ref b312)]))
                          refine Go.by' (fun t k => (XS.dup X312.here hx rfl (hb hby at_226) rfl rfl k)) ?_
                          obtain ⟨_, _, ⟨T313, L313, k313, n313⟩, -, X313, ⟨Lc313, hQ313, l313, y313, z313⟩, st313⟩ := X312.specialBack hx (y := (⟨"java/util/ArrayList", "<init>", "()V"⟩ : MethodName)) rfl hown (mvT hZ hw3) (mvT hZ hw4) (mvT hZ hw5) (by decide) (backOf (W := 1) (rmAL l Z a0 hw [] wD kD vcs G b312 h312 n0 O312 A312 Fn312_22 Fn312_25 Fn312_40 g_b312) hZ hw5 hw2 (by decide) (by decide)) (g := (mkF m 227 #[vi is, vi ia, vi ib, vi (1 : Int32), vi (2 : Int32), vi (0 : Int32), vi q6, vi q7, vi q8, vi q9, vi w154_0, vi w156_0, vi w158_0, vi w160_0, vi w162_0, vi w164_0, vi w166_0, vi w168_0, .unset, .unset, .unset, .unset] [(.ref b312), (.ref b312)])) rfl (by rw [hml]; rfl) (Steps.refl _) (a := b312) (argsL := []) (rest := [(.ref b312)]) (lenOf pd_5 rfl) rfl (by show 2 * 0 + _ ≤ _; exact Nat.le_of_eq rfl) (hb hby at_227) (fun _ _ => ⟨rfl, e312, (by decide : 1 + 0 ≤ _), (by decide : 3 + 0 ≤ _)⟩)
                          dsimp only [Pt.U, Pt.locs, Pt.cells, Pt.slots] at X313 l313 y313 z313 st313 hQ313
                          subst l313 y313 z313
                          obtain ⟨rfl, N313q, K313, f313_0, f313_1, f313_2, f313_3⟩ := hQ313
                          have N313 := Fr.app N0 N313q
                          obtain ⟨lc313, X313, N313⟩ := own_pack X313 N313
                          refine Go.by' (fun t k => st313.trans k) ?_
                          have O313 := O312.keep K313 (allS g_b312 all0)
                          have KC313 : Keep h0 T313.heap [] := KC312.trans K313 (allS (Or.inr sz_b312) all0)
                          show Go p.tables e below Pf (T313.setTop (mkF m 230 #[vi is, vi ia, vi ib, vi (1 : Int32), vi (2 : Int32), vi (0 : Int32), vi q6, vi q7, vi q8, vi q9, vi w154_0, vi w156_0, vi w158_0, vi w160_0, vi w162_0, vi w164_0, vi w166_0, vi w168_0, .unset, .unset, .unset, .unset] [(.ref b312)]))
                          refine Go.by' (fun t k => (XS.astore X313.here hx rfl (hb hby at_230) rfl rfl (l' := #[vi is, vi ia, vi ib, vi (1 : Int32), vi (2 : Int32), vi (0 : Int32), vi q6, vi q7, vi q8, vi q9, vi w154_0, vi w156_0, vi w158_0, vi w160_0, vi w162_0, vi w164_0, vi w166_0, vi w168_0, vr b312, .unset, .unset, .unset]) rfl (XS.iloadN X313.here hx rfl (hb hby at_232) rfl (XS.iconst X313.here hx rfl (hb hby at_233) (XS.icmpNo X313.here hx rfl (hb hby at_234) rfl (flt (by decide)).1 (XS.aload X313.here hx rfl (hb hby at_237) rfl rfl k)))))) ?_
                          obtain ⟨T314, h314, X314, e314, E314, A314, D314, -, st314⟩ := newO X313 hx hZ hown hw41 hw42 hw28 rfl (g := (mkF m 239 #[vi is, vi ia, vi ib, vi (1 : Int32), vi (2 : Int32), vi (0 : Int32), vi q6, vi q7, vi q8, vi q9, vi w154_0, vi w156_0, vi w158_0, vi w160_0, vi w162_0, vi w164_0, vi w166_0, vi w168_0, vr b312, .unset, .unset, .unset] [(.ref b312)])) rfl (hb hby at_239) (by decide) (by decide)
                          obtain ⟨b314, g314⟩ : ∃ z, z = T313.heap.size := ⟨_, rfl⟩
                          rw [← g314] at A314 D314 st314
                          refine Go.by' st314 ?_
                          have g_b314 : n0 ≤ b314 := Nat.le_trans (own_le O313) (Nat.le_of_eq g314.symm)
                          have sz_b314 : h0.size ≤ b314 := Nat.le_trans KC313.1 (Nat.le_of_eq g314.symm)
                          have O314 := O313.ext E314
                          have KC314 : Keep h0 h314 [] := KC313.ext E314
                          have Fn314_85 : Fld Z h314 b314 "com/example/slatewipe/slatewipe/vendors/mariadb/Columns$Column" "name" "Ljava/lang/String;" Value.null := D314 (Or.inr hw85) (ty := (.object "java/lang/String")) (by decide)
                          have Fn314_87 : Fld Z h314 b314 "com/example/slatewipe/slatewipe/vendors/mariadb/Columns$Column" "type" "Ljava/lang/String;" Value.null := D314 (Or.inr hw87) (ty := (.object "java/lang/String")) (by decide)
                          have Fn314_89 : Fld Z h314 b314 "com/example/slatewipe/slatewipe/vendors/mariadb/Columns$Column" "nullable" "Z" (Value.int (0 : Int32)) := D314 (Or.inr hw89) (ty := .boolean) (by decide)
                          show Go p.tables e below Pf (T314.setTop (mkF m 242 #[vi is, vi ia, vi ib, vi (1 : Int32), vi (2 : Int32), vi (0 : Int32), vi q6, vi q7, vi q8, vi q9, vi w154_0, vi w156_0, vi w158_0, vi w160_0, vi w162_0, vi w164_0, vi w166_0, vi w168_0, vr b312, .unset, .unset, .unset] [(.ref b314), (.ref b312)]))
                          refine Go.by' (fun t k => (XS.dup X314.here hx rfl (hb hby at_242) rfl rfl (XS.iload X314.here hx rfl (hb hby at_243) rfl k))) ?_
                          obtain ⟨_, _, ⟨T315, L315, k315, n315⟩, -, X315, ⟨Lc315, hQ315, l315, y315, z315⟩, st315⟩ := Jvm.LawKit.callS X314 hx (y := (⟨"com/example/slatewipe/slatewipe/vendors/mariadb/ColumnSameTypesPinLaw", "str", "(I)Ljava/lang/String;"⟩ : MethodName)) hown (mvT hZ hw43) (mvT hZ hw44) (mvT hZ hw45) (mvT hZ hw46) (by decide) (backOf (W := 3) (rmStr l Z a0 hw [] wD kD vcs G q6 h314 n0 O314 bd6.1 bd6.2) hZ hw46 hw45 (by decide) (by decide)) (g := (mkF m 245 #[vi is, vi ia, vi ib, vi (1 : Int32), vi (2 : Int32), vi (0 : Int32), vi q6, vi q7, vi q8, vi q9, vi w154_0, vi w156_0, vi w158_0, vi w160_0, vi w162_0, vi w164_0, vi w166_0, vi w168_0, vr b312, .unset, .unset, .unset] [(.int q6), (.ref b314), (.ref b314), (.ref b312)])) rfl (by rw [hml]; rfl) (argsL := [(.int q6)]) (rest := [(.ref b314), (.ref b314), (.ref b312)]) (lenOf pd_16 rfl) rfl (by show 2 * 0 + _ ≤ _; exact Nat.le_of_eq rfl) (hb hby at_245) (fun _ _ => ⟨rfl, e314, (by decide : 2 + 3 ≤ _), (by decide : 6 + 6 ≤ _)⟩)
                          dsimp only [Pt.U, Pt.locs, Pt.cells, Pt.slots] at X315 l315 y315 z315 st315 hQ315
                          subst l315 y315 z315
                          obtain ⟨r_315, rb_315, kb_315, rfl, N315q, K315, f315_0, f315_1, f315_2, f315_3, f315_4, f315_5⟩ := hQ315
                          have N315 := Fr.app N313 N315q
                          obtain ⟨lc315, X315, N315⟩ := own_pack X315 N315
                          refine Go.by' st315 ?_
                          have g_r_315 : n0 ≤ r_315 := Nat.le_trans (own_le O314) f315_1
                          have sz_r_315 : h0.size ≤ r_315 := Nat.le_trans KC314.1 f315_1
                          have g_rb_315 : n0 ≤ rb_315 := Nat.le_trans (own_le O314) f315_5
                          have sz_rb_315 : h0.size ≤ rb_315 := Nat.le_trans KC314.1 f315_5
                          have O315 := O314.keep K315 all0
                          have KC315 : Keep h0 T315.heap [] := KC314.trans K315 all0
                          show Go p.tables e below Pf (T315.setTop (mkF m 248 #[vi is, vi ia, vi ib, vi (1 : Int32), vi (2 : Int32), vi (0 : Int32), vi q6, vi q7, vi q8, vi q9, vi w154_0, vi w156_0, vi w158_0, vi w160_0, vi w162_0, vi w164_0, vi w166_0, vi w168_0, vr b312, .unset, .unset, .unset] [(.ref r_315), (.ref b314), (.ref b314), (.ref b312)]))
                          refine Go.by' (fun t k => (XS.iload X315.here hx rfl (hb hby at_248) rfl k)) ?_
                          obtain ⟨_, _, ⟨T316, L316, k316, n316⟩, -, X316, ⟨Lc316, hQ316, l316, y316, z316⟩, st316⟩ := Jvm.LawKit.callS X315 hx (y := (⟨"com/example/slatewipe/slatewipe/vendors/mariadb/ColumnSameTypesPinLaw", "str", "(I)Ljava/lang/String;"⟩ : MethodName)) hown (mvT hZ hw43) (mvT hZ hw44) (mvT hZ hw45) (mvT hZ hw46) (by decide) (backOf (W := 4) (rmStr l Z a0 hw [] wD kD vcs G q7 T315.heap n0 O315 bd7.1 bd7.2) hZ hw46 hw45 (by decide) (by decide)) (g := (mkF m 250 #[vi is, vi ia, vi ib, vi (1 : Int32), vi (2 : Int32), vi (0 : Int32), vi q6, vi q7, vi q8, vi q9, vi w154_0, vi w156_0, vi w158_0, vi w160_0, vi w162_0, vi w164_0, vi w166_0, vi w168_0, vr b312, .unset, .unset, .unset] [(.int q7), (.ref r_315), (.ref b314), (.ref b314), (.ref b312)])) rfl (by rw [hml]; rfl) (argsL := [(.int q7)]) (rest := [(.ref r_315), (.ref b314), (.ref b314), (.ref b312)]) (lenOf pd_16 rfl) rfl (by show 2 * 0 + _ ≤ _; exact Nat.le_of_eq rfl) (hb hby at_250) (fun _ _ => ⟨rfl, rfl, (by decide : 5 + 3 ≤ _), (by decide : 12 + 6 ≤ _)⟩)
                          dsimp only [Pt.U, Pt.locs, Pt.cells, Pt.slots] at X316 l316 y316 z316 st316 hQ316
                          subst l316 y316 z316
                          obtain ⟨r_316, rb_316, kb_316, rfl, N316q, K316, f316_0, f316_1, f316_2, f316_3, f316_4, f316_5⟩ := hQ316
                          have N316 := Fr.app N315 N316q
                          obtain ⟨lc316, X316, N316⟩ := own_pack X316 N316
                          refine Go.by' st316 ?_
                          have g_r_316 : n0 ≤ r_316 := Nat.le_trans (own_le O315) f316_1
                          have sz_r_316 : h0.size ≤ r_316 := Nat.le_trans KC315.1 f316_1
                          have g_rb_316 : n0 ≤ rb_316 := Nat.le_trans (own_le O315) f316_5
                          have sz_rb_316 : h0.size ≤ rb_316 := Nat.le_trans KC315.1 f316_5
                          have O316 := O315.keep K316 all0
                          have KC316 : Keep h0 T316.heap [] := KC315.trans K316 all0
                          show Go p.tables e below Pf (T316.setTop (mkF m 253 #[vi is, vi ia, vi ib, vi (1 : Int32), vi (2 : Int32), vi (0 : Int32), vi q6, vi q7, vi q8, vi q9, vi w154_0, vi w156_0, vi w158_0, vi w160_0, vi w162_0, vi w164_0, vi w166_0, vi w168_0, vr b312, .unset, .unset, .unset] [(.ref r_316), (.ref r_315), (.ref b314), (.ref b314), (.ref b312)]))
                          refine Go.by' (fun t k => (XS.iload X316.here hx rfl (hb hby at_253) rfl k)) ?_
                          have c318 := ((A314.keep K315).keep K316)
                          have c319 := ((Fn314_85.keep K315 nin0).keep K316 nin0)
                          have c320 := ((Fn314_87.keep K315 nin0).keep K316 nin0)
                          have c321 := ((Fn314_89.keep K315 nin0).keep K316 nin0)
                          obtain ⟨_, _, ⟨T317, L317, k317, n317⟩, -, X317, ⟨Lc317, hQ317, l317, y317, z317⟩, st317⟩ := X316.specialBack hx (y := (⟨"com/example/slatewipe/slatewipe/vendors/mariadb/Columns$Column", "<init>", "(Ljava/lang/String;Ljava/lang/String;Z)V"⟩ : MethodName)) rfl hown (mvT hZ hw75) (mvT hZ hw76) (mvT hZ hw77) (by decide) (backOf (W := 2) (rmCol l Z a0 hw [] wD kD vcs G b314 r_315 r_316 w162_0 T316.heap n0 O316 c318 c319 c320 c321 g_b314 bw162_0) hZ hw77 hw28 (by decide) (by decide)) (g := (mkF m 255 #[vi is, vi ia, vi ib, vi (1 : Int32), vi (2 : Int32), vi (0 : Int32), vi q6, vi q7, vi q8, vi q9, vi w154_0, vi w156_0, vi w158_0, vi w160_0, vi w162_0, vi w164_0, vi w166_0, vi w168_0, vr b312, .unset, .unset, .unset] [(.int w162_0), (.ref r_316), (.ref r_315), (.ref b314), (.ref b314), (.ref b312)])) rfl (by rw [hml]; rfl) (Steps.refl _) (a := b314) (argsL := [(.ref r_315), (.ref r_316), (.int w162_0)]) (rest := [(.ref b314), (.ref b312)]) (lenOf pd_17 rfl) rfl (by show 2 * 0 + _ ≤ _; exact Nat.le_of_eq rfl) (hb hby at_255) (fun _ _ => ⟨rfl, rfl, (by decide : 8 + 0 ≤ _), (by decide : 18 + 0 ≤ _)⟩)
                          dsimp only [Pt.U, Pt.locs, Pt.cells, Pt.slots] at X317 l317 y317 z317 st317 hQ317
                          subst l317 y317 z317
                          obtain ⟨rfl, N317q, K317, f317_0, f317_1, f317_2⟩ := hQ317
                          have N317 := Fr.app N316 N317q
                          obtain ⟨lc317, X317, N317⟩ := own_pack X317 N317
                          refine Go.by' (fun t k => st317.trans k) ?_
                          have O317 := O316.keep K317 (allS g_b314 all0)
                          have KC317 : Keep h0 T317.heap [] := KC316.trans K317 (allS (Or.inr sz_b314) all0)
                          have c323 := ((((f313_0.ext E314).keep K315).keep K316).keep K317)
                          have c324 := ((((f313_3.ext E314).keep K315 nin0).keep K316 nin0).keep K317 (ninS (Nat.ne_of_lt (Nat.lt_of_lt_of_le (Nat.lt_of_lt_of_le A312.lt K313.1) (Nat.le_of_eq g314.symm))) nin0))
                          have c325 := ((((f313_2.ext E314).keep K315 nin0).keep K316 nin0).keep K317 (ninS (Nat.ne_of_lt (Nat.lt_of_lt_of_le (Nat.lt_of_lt_of_le A312.lt K313.1) (Nat.le_of_eq g314.symm))) nin0))
                          have c326 := ((((f313_1.ext E314).keep K315 nin0).keep K316 nin0).keep K317 (ninS (Nat.ne_of_lt (Nat.lt_of_lt_of_le (Nat.lt_of_lt_of_le A312.lt K313.1) (Nat.le_of_eq g314.symm))) nin0))
                          obtain ⟨cq322, kq322, q322a, q322b, q322c⟩ := isOf hZ rfl c323
                          obtain ⟨_, _, ⟨T322, L322, k322, n322⟩, -, X322, ⟨Lc322, hQ322, l322, y322, z322⟩, st322⟩ := X317.interfaceBack hx (xi := (⟨"java/util/List", "add", "(Ljava/lang/Object;)Z"⟩ : MethodName)) (y := (⟨"java/util/ArrayList", "add", "(Ljava/lang/Object;)Z"⟩ : MethodName)) hown (mvT hZ hw90) (mvT hZ hw91) (mvT hZ hw92) (mvT hZ hw93) (mvT hZ hw94) (mvT hZ hw95) (mvT hZ hw96) (mvT hZ hw37) (by decide) (backOf (W := 0) (rmA1_0 l Z a0 hw [] wD kD vcs G b312 b314 ((0 : Int32)) T317.heap n0 O317 c323 c324 c325 c326 g_b312 f317_0) hZ hw97 hw2 (by decide) (by decide)) q322a q322b q322c (g := (mkF m 258 #[vi is, vi ia, vi ib, vi (1 : Int32), vi (2 : Int32), vi (0 : Int32), vi q6, vi q7, vi q8, vi q9, vi w154_0, vi w156_0, vi w158_0, vi w160_0, vi w162_0, vi w164_0, vi w166_0, vi w168_0, vr b312, .unset, .unset, .unset] [(.ref b314), (.ref b312)])) rfl (by rw [hml]; rfl) (Steps.refl _) (argsL := [(.ref b314)]) (rest := []) (lenOf pd_14 rfl) rfl (by show 2 * 0 + _ ≤ _; exact Nat.le_of_eq rfl) (hb hby at_258) (fun _ _ => ⟨rfl, rfl, (by decide : 8 + 1 ≤ _), (by decide : 18 + 10 ≤ _)⟩)
                          dsimp only [Pt.U, Pt.locs, Pt.cells, Pt.slots] at X322 l322 y322 z322 st322 hQ322
                          subst l322 y322 z322
                          obtain ⟨r_322, kk_322, rfl, N322q, K322, f322_0, f322_1, f322_2, f322_3, f322_4, f322_5, r322_0⟩ := hQ322
                          have N322 := Fr.app N317 N322q
                          obtain ⟨lc322, X322, N322⟩ := own_pack X322 N322
                          refine Go.by' (fun t k => st322.trans k) ?_
                          have g_r_322 : n0 ≤ r_322 := Nat.le_trans (own_le O317) f322_1
                          have sz_r_322 : h0.size ≤ r_322 := Nat.le_trans KC317.1 f322_1
                          have O322 := O317.keep K322 (allS g_b312 all0)
                          have KC322 : Keep h0 T322.heap [] := KC317.trans K322 (allS (Or.inr sz_b312) all0)
                          show Go p.tables e below Pf (T322.setTop (mkF m 263 #[vi is, vi ia, vi ib, vi (1 : Int32), vi (2 : Int32), vi (0 : Int32), vi q6, vi q7, vi q8, vi q9, vi w154_0, vi w156_0, vi w158_0, vi w160_0, vi w162_0, vi w164_0, vi w166_0, vi w168_0, vr b312, .unset, .unset, .unset] [(.int (1 : Int32))]))
                          refine Go.by' (fun t k => (XS.pop X322.here hx rfl (hb hby at_263) rfl rfl (XS.iloadN X322.here hx rfl (hb hby at_264) rfl (XS.iconst X322.here hx rfl (hb hby at_265) (XS.icmpYes X322.here hx rfl (pc0 := 266) (pc' := 296) rfl (hb hby at_266) rfl (tlt (by decide)).1 (by decide) (by decide) (XS.aconstNull X322.here hx rfl (hb hby at_296) (XS.astore X322.here hx rfl (hb hby at_297) rfl rfl (l' := #[vi is, vi ia, vi ib, vi (1 : Int32), vi (2 : Int32), vi (0 : Int32), vi q6, vi q7, vi q8, vi q9, vi w154_0, vi w156_0, vi w158_0, vi w160_0, vi w162_0, vi w164_0, vi w166_0, vi w168_0, vr b312, .val .null, .unset, .unset]) rfl (XS.iload X322.here hx rfl (hb hby at_299) rfl (XS.ifNo X322.here hx rfl (hb hby at_301) rfl ((if0 _ _).trans (teq (by decide)).2) k))))))))) ?_
                          obtain ⟨T327, h327, X327, e327, E327, A327, D327, -, st327⟩ := newO X322 hx hZ hown hw0 hw1 hw2 rfl (g := (mkF m 304 #[vi is, vi ia, vi ib, vi (1 : Int32), vi (2 : Int32), vi (0 : Int32), vi q6, vi q7, vi q8, vi q9, vi w154_0, vi w156_0, vi w158_0, vi w160_0, vi w162_0, vi w164_0, vi w166_0, vi w168_0, vr b312, .val .null, .unset, .unset] [])) rfl (hb hby at_304) (by decide) (by decide)
                          obtain ⟨b327, g327⟩ : ∃ z, z = T322.heap.size := ⟨_, rfl⟩
                          rw [← g327] at A327 D327 st327
                          refine Go.by' st327 ?_
                          have g_b327 : n0 ≤ b327 := Nat.le_trans (own_le O322) (Nat.le_of_eq g327.symm)
                          have sz_b327 : h0.size ≤ b327 := Nat.le_trans KC322.1 (Nat.le_of_eq g327.symm)
                          have O327 := O322.ext E327
                          have KC327 : Keep h0 h327 [] := KC322.ext E327
                          have Fn327_22 : Fld Z h327 b327 "java/util/AbstractList" "modCount" "I" (Value.int (0 : Int32)) := D327 (Or.inl hw22) (ty := .int) (by decide)
                          have Fn327_25 : Fld Z h327 b327 "java/util/ArrayList" "elementData" "[Ljava/lang/Object;" Value.null := D327 (Or.inl hw25) (ty := (.array (.object "java/lang/Object"))) (by decide)
                          have Fn327_40 : Fld Z h327 b327 "java/util/ArrayList" "size" "I" (Value.int (0 : Int32)) := D327 (Or.inl hw40) (ty := .int) (by decide)
                          show Go p.tables e below Pf (T327.setTop (mkF m 307 #[vi is, vi ia, vi ib, vi (1 : Int32), vi (2 : Int32), vi (0 : Int32), vi q6, vi q7, vi q8, vi q9, vi w154_0, vi w156_0, vi w158_0, vi w160_0, vi w162_0, vi w164_0, vi w166_0, vi w168_0, vr b312, .val .null, .unset, .unset] [(.ref b327)]))
                          refine Go.by' (fun t k => (XS.dup X327.here hx rfl (hb hby at_307) rfl rfl k)) ?_
                          obtain ⟨_, _, ⟨T328, L328, k328, n328⟩, -, X328, ⟨Lc328, hQ328, l328, y328, z328⟩, st328⟩ := X327.specialBack hx (y := (⟨"java/util/ArrayList", "<init>", "()V"⟩ : MethodName)) rfl hown (mvT hZ hw3) (mvT hZ hw4) (mvT hZ hw5) (by decide) (backOf (W := 1) (rmAL l Z a0 hw [] wD kD vcs G b327 h327 n0 O327 A327 Fn327_22 Fn327_25 Fn327_40 g_b327) hZ hw5 hw2 (by decide) (by decide)) (g := (mkF m 308 #[vi is, vi ia, vi ib, vi (1 : Int32), vi (2 : Int32), vi (0 : Int32), vi q6, vi q7, vi q8, vi q9, vi w154_0, vi w156_0, vi w158_0, vi w160_0, vi w162_0, vi w164_0, vi w166_0, vi w168_0, vr b312, .val .null, .unset, .unset] [(.ref b327), (.ref b327)])) rfl (by rw [hml]; rfl) (Steps.refl _) (a := b327) (argsL := []) (rest := [(.ref b327)]) (lenOf pd_5 rfl) rfl (by show 2 * 0 + _ ≤ _; exact Nat.le_of_eq rfl) (hb hby at_308) (fun _ _ => ⟨rfl, e327, (by decide : 10 + 0 ≤ _), (by decide : 31 + 0 ≤ _)⟩)
                          dsimp only [Pt.U, Pt.locs, Pt.cells, Pt.slots] at X328 l328 y328 z328 st328 hQ328
                          subst l328 y328 z328
                          obtain ⟨rfl, N328q, K328, f328_0, f328_1, f328_2, f328_3⟩ := hQ328
                          have N328 := Fr.app N322 N328q
                          obtain ⟨lc328, X328, N328⟩ := own_pack X328 N328
                          refine Go.by' (fun t k => st328.trans k) ?_
                          have O328 := O327.keep K328 (allS g_b327 all0)
                          have KC328 : Keep h0 T328.heap [] := KC327.trans K328 (allS (Or.inr sz_b327) all0)
                          show Go p.tables e below Pf (T328.setTop (mkF m 311 #[vi is, vi ia, vi ib, vi (1 : Int32), vi (2 : Int32), vi (0 : Int32), vi q6, vi q7, vi q8, vi q9, vi w154_0, vi w156_0, vi w158_0, vi w160_0, vi w162_0, vi w164_0, vi w166_0, vi w168_0, vr b312, .val .null, .unset, .unset] [(.ref b327)]))
                          refine Go.by' (fun t k => (XS.astore X328.here hx rfl (hb hby at_311) rfl rfl (l' := #[vi is, vi ia, vi ib, vi (1 : Int32), vi (2 : Int32), vi (0 : Int32), vi q6, vi q7, vi q8, vi q9, vi w154_0, vi w156_0, vi w158_0, vi w160_0, vi w162_0, vi w164_0, vi w166_0, vi w168_0, vr b312, vr b327, .unset, .unset]) rfl (XS.iload X328.here hx rfl (hb hby at_313) rfl (XS.iconst X328.here hx rfl (hb hby at_315) (XS.icmpNo X328.here hx rfl (hb hby at_316) rfl (flt (by decide)).1 (XS.aload X328.here hx rfl (hb hby at_319) rfl rfl k)))))) ?_
                          obtain ⟨T329, h329, X329, e329, E329, A329, D329, -, st329⟩ := newO X328 hx hZ hown hw41 hw42 hw28 rfl (g := (mkF m 321 #[vi is, vi ia, vi ib, vi (1 : Int32), vi (2 : Int32), vi (0 : Int32), vi q6, vi q7, vi q8, vi q9, vi w154_0, vi w156_0, vi w158_0, vi w160_0, vi w162_0, vi w164_0, vi w166_0, vi w168_0, vr b312, vr b327, .unset, .unset] [(.ref b327)])) rfl (hb hby at_321) (by decide) (by decide)
                          obtain ⟨b329, g329⟩ : ∃ z, z = T328.heap.size := ⟨_, rfl⟩
                          rw [← g329] at A329 D329 st329
                          refine Go.by' st329 ?_
                          have g_b329 : n0 ≤ b329 := Nat.le_trans (own_le O328) (Nat.le_of_eq g329.symm)
                          have sz_b329 : h0.size ≤ b329 := Nat.le_trans KC328.1 (Nat.le_of_eq g329.symm)
                          have O329 := O328.ext E329
                          have KC329 : Keep h0 h329 [] := KC328.ext E329
                          have Fn329_85 : Fld Z h329 b329 "com/example/slatewipe/slatewipe/vendors/mariadb/Columns$Column" "name" "Ljava/lang/String;" Value.null := D329 (Or.inr hw85) (ty := (.object "java/lang/String")) (by decide)
                          have Fn329_87 : Fld Z h329 b329 "com/example/slatewipe/slatewipe/vendors/mariadb/Columns$Column" "type" "Ljava/lang/String;" Value.null := D329 (Or.inr hw87) (ty := (.object "java/lang/String")) (by decide)
                          have Fn329_89 : Fld Z h329 b329 "com/example/slatewipe/slatewipe/vendors/mariadb/Columns$Column" "nullable" "Z" (Value.int (0 : Int32)) := D329 (Or.inr hw89) (ty := .boolean) (by decide)
                          show Go p.tables e below Pf (T329.setTop (mkF m 324 #[vi is, vi ia, vi ib, vi (1 : Int32), vi (2 : Int32), vi (0 : Int32), vi q6, vi q7, vi q8, vi q9, vi w154_0, vi w156_0, vi w158_0, vi w160_0, vi w162_0, vi w164_0, vi w166_0, vi w168_0, vr b312, vr b327, .unset, .unset] [(.ref b329), (.ref b327)]))
                          refine Go.by' (fun t k => (XS.dup X329.here hx rfl (hb hby at_324) rfl rfl (XS.iload X329.here hx rfl (hb hby at_325) rfl k))) ?_
                          obtain ⟨_, _, ⟨T330, L330, k330, n330⟩, -, X330, ⟨Lc330, hQ330, l330, y330, z330⟩, st330⟩ := Jvm.LawKit.callS X329 hx (y := (⟨"com/example/slatewipe/slatewipe/vendors/mariadb/ColumnSameTypesPinLaw", "str", "(I)Ljava/lang/String;"⟩ : MethodName)) hown (mvT hZ hw43) (mvT hZ hw44) (mvT hZ hw45) (mvT hZ hw46) (by decide) (backOf (W := 3) (rmStr l Z a0 hw [] wD kD vcs G w154_0 h329 n0 O329 bd10.1 bd10.2) hZ hw46 hw45 (by decide) (by decide)) (g := (mkF m 327 #[vi is, vi ia, vi ib, vi (1 : Int32), vi (2 : Int32), vi (0 : Int32), vi q6, vi q7, vi q8, vi q9, vi w154_0, vi w156_0, vi w158_0, vi w160_0, vi w162_0, vi w164_0, vi w166_0, vi w168_0, vr b312, vr b327, .unset, .unset] [(.int w154_0), (.ref b329), (.ref b329), (.ref b327)])) rfl (by rw [hml]; rfl) (argsL := [(.int w154_0)]) (rest := [(.ref b329), (.ref b329), (.ref b327)]) (lenOf pd_16 rfl) rfl (by show 2 * 0 + _ ≤ _; exact Nat.le_of_eq rfl) (hb hby at_327) (fun _ _ => ⟨rfl, e329, (by decide : 11 + 3 ≤ _), (by decide : 34 + 6 ≤ _)⟩)
                          dsimp only [Pt.U, Pt.locs, Pt.cells, Pt.slots] at X330 l330 y330 z330 st330 hQ330
                          subst l330 y330 z330
                          obtain ⟨r_330, rb_330, kb_330, rfl, N330q, K330, f330_0, f330_1, f330_2, f330_3, f330_4, f330_5⟩ := hQ330
                          have N330 := Fr.app N328 N330q
                          obtain ⟨lc330, X330, N330⟩ := own_pack X330 N330
                          refine Go.by' st330 ?_
                          have g_r_330 : n0 ≤ r_330 := Nat.le_trans (own_le O329) f330_1
                          have sz_r_330 : h0.size ≤ r_330 := Nat.le_trans KC329.1 f330_1
                          have g_rb_330 : n0 ≤ rb_330 := Nat.le_trans (own_le O329) f330_5
                          have sz_rb_330 : h0.size ≤ rb_330 := Nat.le_trans KC329.1 f330_5
                          have O330 := O329.keep K330 all0
                          have KC330 : Keep h0 T330.heap [] := KC329.trans K330 all0
                          show Go p.tables e below Pf (T330.setTop (mkF m 330 #[vi is, vi ia, vi ib, vi (1 : Int32), vi (2 : Int32), vi (0 : Int32), vi q6, vi q7, vi q8, vi q9, vi w154_0, vi w156_0, vi w158_0, vi w160_0, vi w162_0, vi w164_0, vi w166_0, vi w168_0, vr b312, vr b327, .unset, .unset] [(.ref r_330), (.ref b329), (.ref b329), (.ref b327)]))
                          refine Go.by' (fun t k => (XS.iload X330.here hx rfl (hb hby at_330) rfl k)) ?_
                          obtain ⟨_, _, ⟨T331, L331, k331, n331⟩, -, X331, ⟨Lc331, hQ331, l331, y331, z331⟩, st331⟩ := Jvm.LawKit.callS X330 hx (y := (⟨"com/example/slatewipe/slatewipe/vendors/mariadb/ColumnSameTypesPinLaw", "str", "(I)Ljava/lang/String;"⟩ : MethodName)) hown (mvT hZ hw43) (mvT hZ hw44) (mvT hZ hw45) (mvT hZ hw46) (by decide) (backOf (W := 4) (rmStr l Z a0 hw [] wD kD vcs G w156_0 T330.heap n0 O330 bd11.1 bd11.2) hZ hw46 hw45 (by decide) (by decide)) (g := (mkF m 332 #[vi is, vi ia, vi ib, vi (1 : Int32), vi (2 : Int32), vi (0 : Int32), vi q6, vi q7, vi q8, vi q9, vi w154_0, vi w156_0, vi w158_0, vi w160_0, vi w162_0, vi w164_0, vi w166_0, vi w168_0, vr b312, vr b327, .unset, .unset] [(.int w156_0), (.ref r_330), (.ref b329), (.ref b329), (.ref b327)])) rfl (by rw [hml]; rfl) (argsL := [(.int w156_0)]) (rest := [(.ref r_330), (.ref b329), (.ref b329), (.ref b327)]) (lenOf pd_16 rfl) rfl (by show 2 * 0 + _ ≤ _; exact Nat.le_of_eq rfl) (hb hby at_332) (fun _ _ => ⟨rfl, rfl, (by decide : 14 + 3 ≤ _), (by decide : 40 + 6 ≤ _)⟩)
                          dsimp only [Pt.U, Pt.locs, Pt.cells, Pt.slots] at X331 l331 y331 z331 st331 hQ331
                          subst l331 y331 z331
                          obtain ⟨r_331, rb_331, kb_331, rfl, N331q, K331, f331_0, f331_1, f331_2, f331_3, f331_4, f331_5⟩ := hQ331
                          have N331 := Fr.app N330 N331q
                          obtain ⟨lc331, X331, N331⟩ := own_pack X331 N331
                          refine Go.by' st331 ?_
                          have g_r_331 : n0 ≤ r_331 := Nat.le_trans (own_le O330) f331_1
                          have sz_r_331 : h0.size ≤ r_331 := Nat.le_trans KC330.1 f331_1
                          have g_rb_331 : n0 ≤ rb_331 := Nat.le_trans (own_le O330) f331_5
                          have sz_rb_331 : h0.size ≤ rb_331 := Nat.le_trans KC330.1 f331_5
                          have O331 := O330.keep K331 all0
                          have KC331 : Keep h0 T331.heap [] := KC330.trans K331 all0
                          show Go p.tables e below Pf (T331.setTop (mkF m 335 #[vi is, vi ia, vi ib, vi (1 : Int32), vi (2 : Int32), vi (0 : Int32), vi q6, vi q7, vi q8, vi q9, vi w154_0, vi w156_0, vi w158_0, vi w160_0, vi w162_0, vi w164_0, vi w166_0, vi w168_0, vr b312, vr b327, .unset, .unset] [(.ref r_331), (.ref r_330), (.ref b329), (.ref b329), (.ref b327)]))
                          refine Go.by' (fun t k => (XS.iload X331.here hx rfl (hb hby at_335) rfl k)) ?_
                          have c333 := ((A329.keep K330).keep K331)
                          have c334 := ((Fn329_85.keep K330 nin0).keep K331 nin0)
                          have c335 := ((Fn329_87.keep K330 nin0).keep K331 nin0)
                          have c336 := ((Fn329_89.keep K330 nin0).keep K331 nin0)
                          obtain ⟨_, _, ⟨T332, L332, k332, n332⟩, -, X332, ⟨Lc332, hQ332, l332, y332, z332⟩, st332⟩ := X331.specialBack hx (y := (⟨"com/example/slatewipe/slatewipe/vendors/mariadb/Columns$Column", "<init>", "(Ljava/lang/String;Ljava/lang/String;Z)V"⟩ : MethodName)) rfl hown (mvT hZ hw75) (mvT hZ hw76) (mvT hZ hw77) (by decide) (backOf (W := 2) (rmCol l Z a0 hw [] wD kD vcs G b329 r_330 r_331 w166_0 T331.heap n0 O331 c333 c334 c335 c336 g_b329 bw166_0) hZ hw77 hw28 (by decide) (by decide)) (g := (mkF m 337 #[vi is, vi ia, vi ib, vi (1 : Int32), vi (2 : Int32), vi (0 : Int32), vi q6, vi q7, vi q8, vi q9, vi w154_0, vi w156_0, vi w158_0, vi w160_0, vi w162_0, vi w164_0, vi w166_0, vi w168_0, vr b312, vr b327, .unset, .unset] [(.int w166_0), (.ref r_331), (.ref r_330), (.ref b329), (.ref b329), (.ref b327)])) rfl (by rw [hml]; rfl) (Steps.refl _) (a := b329) (argsL := [(.ref r_330), (.ref r_331), (.int w166_0)]) (rest := [(.ref b329), (.ref b327)]) (lenOf pd_17 rfl) rfl (by show 2 * 0 + _ ≤ _; exact Nat.le_of_eq rfl) (hb hby at_337) (fun _ _ => ⟨rfl, rfl, (by decide : 17 + 0 ≤ _), (by decide : 46 + 0 ≤ _)⟩)
                          dsimp only [Pt.U, Pt.locs, Pt.cells, Pt.slots] at X332 l332 y332 z332 st332 hQ332
                          subst l332 y332 z332
                          obtain ⟨rfl, N332q, K332, f332_0, f332_1, f332_2⟩ := hQ332
                          have N332 := Fr.app N331 N332q
                          obtain ⟨lc332, X332, N332⟩ := own_pack X332 N332
                          refine Go.by' (fun t k => st332.trans k) ?_
                          have O332 := O331.keep K332 (allS g_b329 all0)
                          have KC332 : Keep h0 T332.heap [] := KC331.trans K332 (allS (Or.inr sz_b329) all0)
                          have c338 := ((((f328_0.ext E329).keep K330).keep K331).keep K332)
                          have c339 := ((((f328_3.ext E329).keep K330 nin0).keep K331 nin0).keep K332 (ninS (Nat.ne_of_lt (Nat.lt_of_lt_of_le (Nat.lt_of_lt_of_le A327.lt K328.1) (Nat.le_of_eq g329.symm))) nin0))
                          have c340 := ((((f328_2.ext E329).keep K330 nin0).keep K331 nin0).keep K332 (ninS (Nat.ne_of_lt (Nat.lt_of_lt_of_le (Nat.lt_of_lt_of_le A327.lt K328.1) (Nat.le_of_eq g329.symm))) nin0))
                          have c341 := ((((f328_1.ext E329).keep K330 nin0).keep K331 nin0).keep K332 (ninS (Nat.ne_of_lt (Nat.lt_of_lt_of_le (Nat.lt_of_lt_of_le A327.lt K328.1) (Nat.le_of_eq g329.symm))) nin0))
                          obtain ⟨cq337, kq337, q337a, q337b, q337c⟩ := isOf hZ rfl c338
                          obtain ⟨_, _, ⟨T337, L337, k337, n337⟩, -, X337, ⟨Lc337, hQ337, l337, y337, z337⟩, st337⟩ := X332.interfaceBack hx (xi := (⟨"java/util/List", "add", "(Ljava/lang/Object;)Z"⟩ : MethodName)) (y := (⟨"java/util/ArrayList", "add", "(Ljava/lang/Object;)Z"⟩ : MethodName)) hown (mvT hZ hw90) (mvT hZ hw91) (mvT hZ hw92) (mvT hZ hw93) (mvT hZ hw94) (mvT hZ hw95) (mvT hZ hw96) (mvT hZ hw37) (by decide) (backOf (W := 0) (rmA1_0 l Z a0 hw [] wD kD vcs G b327 b329 ((0 : Int32)) T332.heap n0 O332 c338 c339 c340 c341 g_b327 f332_0) hZ hw97 hw2 (by decide) (by decide)) q337a q337b q337c (g := (mkF m 340 #[vi is, vi ia, vi ib, vi (1 : Int32), vi (2 : Int32), vi (0 : Int32), vi q6, vi q7, vi q8, vi q9, vi w154_0, vi w156_0, vi w158_0, vi w160_0, vi w162_0, vi w164_0, vi w166_0, vi w168_0, vr b312, vr b327, .unset, .unset] [(.ref b329), (.ref b327)])) rfl (by rw [hml]; rfl) (Steps.refl _) (argsL := [(.ref b329)]) (rest := []) (lenOf pd_14 rfl) rfl (by show 2 * 0 + _ ≤ _; exact Nat.le_of_eq rfl) (hb hby at_340) (fun _ _ => ⟨rfl, rfl, (by decide : 17 + 1 ≤ _), (by decide : 46 + 10 ≤ _)⟩)
                          dsimp only [Pt.U, Pt.locs, Pt.cells, Pt.slots] at X337 l337 y337 z337 st337 hQ337
                          subst l337 y337 z337
                          obtain ⟨r_337, kk_337, rfl, N337q, K337, f337_0, f337_1, f337_2, f337_3, f337_4, f337_5, r337_0⟩ := hQ337
                          have N337 := Fr.app N332 N337q
                          obtain ⟨lc337, X337, N337⟩ := own_pack X337 N337
                          refine Go.by' (fun t k => st337.trans k) ?_
                          have g_r_337 : n0 ≤ r_337 := Nat.le_trans (own_le O332) f337_1
                          have sz_r_337 : h0.size ≤ r_337 := Nat.le_trans KC332.1 f337_1
                          have O337 := O332.keep K337 (allS g_b327 all0)
                          have KC337 : Keep h0 T337.heap [] := KC332.trans K337 (allS (Or.inr sz_b327) all0)
                          show Go p.tables e below Pf (T337.setTop (mkF m 345 #[vi is, vi ia, vi ib, vi (1 : Int32), vi (2 : Int32), vi (0 : Int32), vi q6, vi q7, vi q8, vi q9, vi w154_0, vi w156_0, vi w158_0, vi w160_0, vi w162_0, vi w164_0, vi w166_0, vi w168_0, vr b312, vr b327, .unset, .unset] [(.int (1 : Int32))]))
                          refine Go.by' (fun t k => (XS.pop X337.here hx rfl (hb hby at_345) rfl rfl (XS.iload X337.here hx rfl (hb hby at_346) rfl (XS.iconst X337.here hx rfl (hb hby at_348) (XS.icmpNo X337.here hx rfl (hb hby at_349) rfl (flt (by decide)).1 (XS.aload X337.here hx rfl (hb hby at_352) rfl rfl k)))))) ?_
                          obtain ⟨T342, h342, X342, e342, E342, A342, D342, -, st342⟩ := newO X337 hx hZ hown hw41 hw42 hw28 rfl (g := (mkF m 354 #[vi is, vi ia, vi ib, vi (1 : Int32), vi (2 : Int32), vi (0 : Int32), vi q6, vi q7, vi q8, vi q9, vi w154_0, vi w156_0, vi w158_0, vi w160_0, vi w162_0, vi w164_0, vi w166_0, vi w168_0, vr b312, vr b327, .unset, .unset] [(.ref b327)])) rfl (hb hby at_354) (by decide) (by decide)
                          obtain ⟨b342, g342⟩ : ∃ z, z = T337.heap.size := ⟨_, rfl⟩
                          rw [← g342] at A342 D342 st342
                          refine Go.by' st342 ?_
                          have g_b342 : n0 ≤ b342 := Nat.le_trans (own_le O337) (Nat.le_of_eq g342.symm)
                          have sz_b342 : h0.size ≤ b342 := Nat.le_trans KC337.1 (Nat.le_of_eq g342.symm)
                          have O342 := O337.ext E342
                          have KC342 : Keep h0 h342 [] := KC337.ext E342
                          have Fn342_85 : Fld Z h342 b342 "com/example/slatewipe/slatewipe/vendors/mariadb/Columns$Column" "name" "Ljava/lang/String;" Value.null := D342 (Or.inr hw85) (ty := (.object "java/lang/String")) (by decide)
                          have Fn342_87 : Fld Z h342 b342 "com/example/slatewipe/slatewipe/vendors/mariadb/Columns$Column" "type" "Ljava/lang/String;" Value.null := D342 (Or.inr hw87) (ty := (.object "java/lang/String")) (by decide)
                          have Fn342_89 : Fld Z h342 b342 "com/example/slatewipe/slatewipe/vendors/mariadb/Columns$Column" "nullable" "Z" (Value.int (0 : Int32)) := D342 (Or.inr hw89) (ty := .boolean) (by decide)
                          show Go p.tables e below Pf (T342.setTop (mkF m 357 #[vi is, vi ia, vi ib, vi (1 : Int32), vi (2 : Int32), vi (0 : Int32), vi q6, vi q7, vi q8, vi q9, vi w154_0, vi w156_0, vi w158_0, vi w160_0, vi w162_0, vi w164_0, vi w166_0, vi w168_0, vr b312, vr b327, .unset, .unset] [(.ref b342), (.ref b327)]))
                          refine Go.by' (fun t k => (XS.dup X342.here hx rfl (hb hby at_357) rfl rfl (XS.iload X342.here hx rfl (hb hby at_358) rfl k))) ?_
                          obtain ⟨_, _, ⟨T343, L343, k343, n343⟩, -, X343, ⟨Lc343, hQ343, l343, y343, z343⟩, st343⟩ := Jvm.LawKit.callS X342 hx (y := (⟨"com/example/slatewipe/slatewipe/vendors/mariadb/ColumnSameTypesPinLaw", "str", "(I)Ljava/lang/String;"⟩ : MethodName)) hown (mvT hZ hw43) (mvT hZ hw44) (mvT hZ hw45) (mvT hZ hw46) (by decide) (backOf (W := 3) (rmStr l Z a0 hw [] wD kD vcs G w158_0 h342 n0 O342 bd12.1 bd12.2) hZ hw46 hw45 (by decide) (by decide)) (g := (mkF m 360 #[vi is, vi ia, vi ib, vi (1 : Int32), vi (2 : Int32), vi (0 : Int32), vi q6, vi q7, vi q8, vi q9, vi w154_0, vi w156_0, vi w158_0, vi w160_0, vi w162_0, vi w164_0, vi w166_0, vi w168_0, vr b312, vr b327, .unset, .unset] [(.int w158_0), (.ref b342), (.ref b342), (.ref b327)])) rfl (by rw [hml]; rfl) (argsL := [(.int w158_0)]) (rest := [(.ref b342), (.ref b342), (.ref b327)]) (lenOf pd_16 rfl) rfl (by show 2 * 0 + _ ≤ _; exact Nat.le_of_eq rfl) (hb hby at_360) (fun _ _ => ⟨rfl, e342, (by decide : 19 + 3 ≤ _), (by decide : 59 + 6 ≤ _)⟩)
                          dsimp only [Pt.U, Pt.locs, Pt.cells, Pt.slots] at X343 l343 y343 z343 st343 hQ343
                          subst l343 y343 z343
                          obtain ⟨r_343, rb_343, kb_343, rfl, N343q, K343, f343_0, f343_1, f343_2, f343_3, f343_4, f343_5⟩ := hQ343
                          have N343 := Fr.app N337 N343q
                          obtain ⟨lc343, X343, N343⟩ := own_pack X343 N343
                          refine Go.by' st343 ?_
                          have g_r_343 : n0 ≤ r_343 := Nat.le_trans (own_le O342) f343_1
                          have sz_r_343 : h0.size ≤ r_343 := Nat.le_trans KC342.1 f343_1
                          have g_rb_343 : n0 ≤ rb_343 := Nat.le_trans (own_le O342) f343_5
                          have sz_rb_343 : h0.size ≤ rb_343 := Nat.le_trans KC342.1 f343_5
                          have O343 := O342.keep K343 all0
                          have KC343 : Keep h0 T343.heap [] := KC342.trans K343 all0
                          show Go p.tables e below Pf (T343.setTop (mkF m 363 #[vi is, vi ia, vi ib, vi (1 : Int32), vi (2 : Int32), vi (0 : Int32), vi q6, vi q7, vi q8, vi q9, vi w154_0, vi w156_0, vi w158_0, vi w160_0, vi w162_0, vi w164_0, vi w166_0, vi w168_0, vr b312, vr b327, .unset, .unset] [(.ref r_343), (.ref b342), (.ref b342), (.ref b327)]))
                          refine Go.by' (fun t k => (XS.iload X343.here hx rfl (hb hby at_363) rfl k)) ?_
                          obtain ⟨_, _, ⟨T344, L344, k344, n344⟩, -, X344, ⟨Lc344, hQ344, l344, y344, z344⟩, st344⟩ := Jvm.LawKit.callS X343 hx (y := (⟨"com/example/slatewipe/slatewipe/vendors/mariadb/ColumnSameTypesPinLaw", "str", "(I)Ljava/lang/String;"⟩ : MethodName)) hown (mvT hZ hw43) (mvT hZ hw44) (mvT hZ hw45) (mvT hZ hw46) (by decide) (backOf (W := 4) (rmStr l Z a0 hw [] wD kD vcs G w160_0 T343.heap n0 O343 bd13.1 bd13.2) hZ hw46 hw45 (by decide) (by decide)) (g := (mkF m 365 #[vi is, vi ia, vi ib, vi (1 : Int32), vi (2 : Int32), vi (0 : Int32), vi q6, vi q7, vi q8, vi q9, vi w154_0, vi w156_0, vi w158_0, vi w160_0, vi w162_0, vi w164_0, vi w166_0, vi w168_0, vr b312, vr b327, .unset, .unset] [(.int w160_0), (.ref r_343), (.ref b342), (.ref b342), (.ref b327)])) rfl (by rw [hml]; rfl) (argsL := [(.int w160_0)]) (rest := [(.ref r_343), (.ref b342), (.ref b342), (.ref b327)]) (lenOf pd_16 rfl) rfl (by show 2 * 0 + _ ≤ _; exact Nat.le_of_eq rfl) (hb hby at_365) (fun _ _ => ⟨rfl, rfl, (by decide : 22 + 3 ≤ _), (by decide : 65 + 6 ≤ _)⟩)
                          dsimp only [Pt.U, Pt.locs, Pt.cells, Pt.slots] at X344 l344 y344 z344 st344 hQ344
                          subst l344 y344 z344
                          obtain ⟨r_344, rb_344, kb_344, rfl, N344q, K344, f344_0, f344_1, f344_2, f344_3, f344_4, f344_5⟩ := hQ344
                          have N344 := Fr.app N343 N344q
                          obtain ⟨lc344, X344, N344⟩ := own_pack X344 N344
                          refine Go.by' st344 ?_
                          have g_r_344 : n0 ≤ r_344 := Nat.le_trans (own_le O343) f344_1
                          have sz_r_344 : h0.size ≤ r_344 := Nat.le_trans KC343.1 f344_1
                          have g_rb_344 : n0 ≤ rb_344 := Nat.le_trans (own_le O343) f344_5
                          have sz_rb_344 : h0.size ≤ rb_344 := Nat.le_trans KC343.1 f344_5
                          have O344 := O343.keep K344 all0
                          have KC344 : Keep h0 T344.heap [] := KC343.trans K344 all0
                          show Go p.tables e below Pf (T344.setTop (mkF m 368 #[vi is, vi ia, vi ib, vi (1 : Int32), vi (2 : Int32), vi (0 : Int32), vi q6, vi q7, vi q8, vi q9, vi w154_0, vi w156_0, vi w158_0, vi w160_0, vi w162_0, vi w164_0, vi w166_0, vi w168_0, vr b312, vr b327, .unset, .unset] [(.ref r_344), (.ref r_343), (.ref b342), (.ref b342), (.ref b327)]))
                          refine Go.by' (fun t k => (XS.iload X344.here hx rfl (hb hby at_368) rfl k)) ?_
                          have c346 := ((A342.keep K343).keep K344)
                          have c347 := ((Fn342_85.keep K343 nin0).keep K344 nin0)
                          have c348 := ((Fn342_87.keep K343 nin0).keep K344 nin0)
                          have c349 := ((Fn342_89.keep K343 nin0).keep K344 nin0)
                          obtain ⟨_, _, ⟨T345, L345, k345, n345⟩, -, X345, ⟨Lc345, hQ345, l345, y345, z345⟩, st345⟩ := X344.specialBack hx (y := (⟨"com/example/slatewipe/slatewipe/vendors/mariadb/Columns$Column", "<init>", "(Ljava/lang/String;Ljava/lang/String;Z)V"⟩ : MethodName)) rfl hown (mvT hZ hw75) (mvT hZ hw76) (mvT hZ hw77) (by decide) (backOf (W := 2) (rmCol l Z a0 hw [] wD kD vcs G b342 r_343 r_344 w168_0 T344.heap n0 O344 c346 c347 c348 c349 g_b342 bw168_0) hZ hw77 hw28 (by decide) (by decide)) (g := (mkF m 370 #[vi is, vi ia, vi ib, vi (1 : Int32), vi (2 : Int32), vi (0 : Int32), vi q6, vi q7, vi q8, vi q9, vi w154_0, vi w156_0, vi w158_0, vi w160_0, vi w162_0, vi w164_0, vi w166_0, vi w168_0, vr b312, vr b327, .unset, .unset] [(.int w168_0), (.ref r_344), (.ref r_343), (.ref b342), (.ref b342), (.ref b327)])) rfl (by rw [hml]; rfl) (Steps.refl _) (a := b342) (argsL := [(.ref r_343), (.ref r_344), (.int w168_0)]) (rest := [(.ref b342), (.ref b327)]) (lenOf pd_17 rfl) rfl (by show 2 * 0 + _ ≤ _; exact Nat.le_of_eq rfl) (hb hby at_370) (fun _ _ => ⟨rfl, rfl, (by decide : 25 + 0 ≤ _), (by decide : 71 + 0 ≤ _)⟩)
                          dsimp only [Pt.U, Pt.locs, Pt.cells, Pt.slots] at X345 l345 y345 z345 st345 hQ345
                          subst l345 y345 z345
                          obtain ⟨rfl, N345q, K345, f345_0, f345_1, f345_2⟩ := hQ345
                          have N345 := Fr.app N344 N345q
                          obtain ⟨lc345, X345, N345⟩ := own_pack X345 N345
                          refine Go.by' (fun t k => st345.trans k) ?_
                          have O345 := O344.keep K345 (allS g_b342 all0)
                          have KC345 : Keep h0 T345.heap [] := KC344.trans K345 (allS (Or.inr sz_b342) all0)
                          have c351 := ((((f337_0.ext E342).keep K343 nin0).keep K344 nin0).keep K345 (ninS (Nat.ne_of_lt (Nat.lt_of_lt_of_le f337_0.lt (Nat.le_of_eq g342.symm))) nin0))
                          have c352 := ((((f337_2.ext E342).keep K343).keep K344).keep K345)
                          have c353 := ((((f337_4.ext E342).keep K343 nin0).keep K344 nin0).keep K345 (ninS (Nat.ne_of_lt (Nat.lt_of_lt_of_le (Nat.lt_of_lt_of_le A327.lt (Nat.le_trans K328.1 (Nat.le_trans E329.1 (Nat.le_trans K330.1 (Nat.le_trans K331.1 (Nat.le_trans K332.1 K337.1)))))) (Nat.le_of_eq g342.symm))) nin0))
                          have c354 := ((((f337_3.ext E342).keep K343 nin0).keep K344 nin0).keep K345 (ninS (Nat.ne_of_lt (Nat.lt_of_lt_of_le (Nat.lt_of_lt_of_le A327.lt (Nat.le_trans K328.1 (Nat.le_trans E329.1 (Nat.le_trans K330.1 (Nat.le_trans K331.1 (Nat.le_trans K332.1 K337.1)))))) (Nat.le_of_eq g342.symm))) nin0))
                          have c355 := ((((f337_5.ext E342).keep K343 nin0).keep K344 nin0).keep K345 (ninS (Nat.ne_of_lt (Nat.lt_of_lt_of_le (Nat.lt_of_lt_of_le A327.lt (Nat.le_trans K328.1 (Nat.le_trans E329.1 (Nat.le_trans K330.1 (Nat.le_trans K331.1 (Nat.le_trans K332.1 K337.1)))))) (Nat.le_of_eq g342.symm))) nin0))
                          obtain ⟨cq350, kq350, q350a, q350b, q350c⟩ := isOf hZ rfl c352
                          obtain ⟨_, _, ⟨T350, L350, k350, n350⟩, -, X350, ⟨Lc350, hQ350, l350, y350, z350⟩, st350⟩ := X345.interfaceBack hx (xi := (⟨"java/util/List", "add", "(Ljava/lang/Object;)Z"⟩ : MethodName)) (y := (⟨"java/util/ArrayList", "add", "(Ljava/lang/Object;)Z"⟩ : MethodName)) hown (mvT hZ hw90) (mvT hZ hw91) (mvT hZ hw92) (mvT hZ hw93) (mvT hZ hw94) (mvT hZ hw95) (mvT hZ hw96) (mvT hZ hw37) (by decide) (backOf (W := 0) (rmA1_1 l Z a0 hw [] wD kD vcs G b327 b342 (((0 : Int32) + (1 : Int32))) r_337 kk_337 b329 T345.heap n0 O345 c352 c353 c354 c355 g_b327 g_r_337 c351 f345_0 (Nat.ne_of_lt (Nat.lt_of_lt_of_le (Nat.lt_of_lt_of_le A327.lt (Nat.le_trans K328.1 (Nat.le_trans E329.1 (Nat.le_trans K330.1 (Nat.le_trans K331.1 K332.1))))) f337_1)) r337_0) hZ hw97 hw2 (by decide) (by decide)) q350a q350b q350c (g := (mkF m 373 #[vi is, vi ia, vi ib, vi (1 : Int32), vi (2 : Int32), vi (0 : Int32), vi q6, vi q7, vi q8, vi q9, vi w154_0, vi w156_0, vi w158_0, vi w160_0, vi w162_0, vi w164_0, vi w166_0, vi w168_0, vr b312, vr b327, .unset, .unset] [(.ref b342), (.ref b327)])) rfl (by rw [hml]; rfl) (Steps.refl _) (argsL := [(.ref b342)]) (rest := []) (lenOf pd_14 rfl) rfl (by show 2 * 0 + _ ≤ _; exact Nat.le_of_eq rfl) (hb hby at_373) (fun _ _ => ⟨rfl, rfl, (by decide : 25 + 0 ≤ _), (by decide : 71 + 0 ≤ _)⟩)
                          dsimp only [Pt.U, Pt.locs, Pt.cells, Pt.slots] at X350 l350 y350 z350 st350 hQ350
                          subst l350 y350 z350
                          obtain ⟨rfl, N350q, K350, f350_0, f350_1, f350_2, f350_3, f350_4⟩ := hQ350
                          have N350 := Fr.app N345 N350q
                          obtain ⟨lc350, X350, N350⟩ := own_pack X350 N350
                          refine Go.by' (fun t k => st350.trans k) ?_
                          have O350 := O345.keep K350 (allS g_b327 (allS g_r_337 all0))
                          have KC350 : Keep h0 T350.heap [] := KC345.trans K350 (allS (Or.inr sz_b327) (allS (Or.inr sz_r_337) all0))
                          show Go p.tables e below Pf (T350.setTop (mkF m 378 #[vi is, vi ia, vi ib, vi (1 : Int32), vi (2 : Int32), vi (0 : Int32), vi q6, vi q7, vi q8, vi q9, vi w154_0, vi w156_0, vi w158_0, vi w160_0, vi w162_0, vi w164_0, vi w166_0, vi w168_0, vr b312, vr b327, .unset, .unset] [(.int (1 : Int32))]))
                          refine Go.by' (fun t k => (XS.pop X350.here hx rfl (hb hby at_378) rfl rfl (XS.aload X350.here hx rfl (hb hby at_379) rfl rfl (XS.aload X350.here hx rfl (hb hby at_381) rfl rfl k)))) ?_
                          have c357 := ((((((((((((f322_2.ext E327).keep K328).ext E329).keep K330).keep K331).keep K332).keep K337).ext E342).keep K343).keep K344).keep K345).keep K350)
                          have c358 := ((((((((((((f322_4.ext E327).keep K328 (ninS (Nat.ne_of_lt (Nat.lt_of_lt_of_le (Nat.lt_of_lt_of_le A312.lt (Nat.le_trans K313.1 (Nat.le_trans E314.1 (Nat.le_trans K315.1 (Nat.le_trans K316.1 (Nat.le_trans K317.1 K322.1)))))) (Nat.le_of_eq g327.symm))) nin0)).ext E329).keep K330 nin0).keep K331 nin0).keep K332 (ninS (Nat.ne_of_lt (Nat.lt_of_lt_of_le (Nat.lt_of_lt_of_le A312.lt (Nat.le_trans K313.1 (Nat.le_trans E314.1 (Nat.le_trans K315.1 (Nat.le_trans K316.1 (Nat.le_trans K317.1 (Nat.le_trans K322.1 (Nat.le_trans E327.1 K328.1)))))))) (Nat.le_of_eq g329.symm))) nin0)).keep K337 (ninS (Nat.ne_of_lt (Nat.lt_of_lt_of_le (Nat.lt_of_lt_of_le A312.lt (Nat.le_trans K313.1 (Nat.le_trans E314.1 (Nat.le_trans K315.1 (Nat.le_trans K316.1 (Nat.le_trans K317.1 K322.1)))))) (Nat.le_of_eq g327.symm))) nin0)).ext E342).keep K343 nin0).keep K344 nin0).keep K345 (ninS (Nat.ne_of_lt (Nat.lt_of_lt_of_le (Nat.lt_of_lt_of_le A312.lt (Nat.le_trans K313.1 (Nat.le_trans E314.1 (Nat.le_trans K315.1 (Nat.le_trans K316.1 (Nat.le_trans K317.1 (Nat.le_trans K322.1 (Nat.le_trans E327.1 (Nat.le_trans K328.1 (Nat.le_trans E329.1 (Nat.le_trans K330.1 (Nat.le_trans K331.1 (Nat.le_trans K332.1 K337.1))))))))))))) (Nat.le_of_eq g342.symm))) nin0)).keep K350 (ninS (Nat.ne_of_lt (Nat.lt_of_lt_of_le (Nat.lt_of_lt_of_le A312.lt (Nat.le_trans K313.1 (Nat.le_trans E314.1 (Nat.le_trans K315.1 (Nat.le_trans K316.1 (Nat.le_trans K317.1 K322.1)))))) (Nat.le_of_eq g327.symm))) (ninS (Nat.ne_of_lt (Nat.lt_of_lt_of_le (Nat.lt_of_lt_of_le A312.lt (Nat.le_trans K313.1 (Nat.le_trans E314.1 (Nat.le_trans K315.1 (Nat.le_trans K316.1 (Nat.le_trans K317.1 (Nat.le_trans K322.1 (Nat.le_trans E327.1 (Nat.le_trans K328.1 (Nat.le_trans E329.1 (Nat.le_trans K330.1 (Nat.le_trans K331.1 K332.1)))))))))))) f337_1)) nin0)))
                          obtain ⟨_, _, ⟨T356, L356, k356, n356⟩, -, X356, ⟨Lc356, hQ356, l356, y356, z356⟩, st356⟩ := Jvm.LawKit.callS X350 hx (y := (⟨"com/example/slatewipe/slatewipe/vendors/mariadb/Columns$Column", "sameTypes", "(Ljava/util/List;Ljava/util/List;)Z"⟩ : MethodName)) hown (mvT hZ hw26) (mvT hZ hw27) (mvT hZ hw28) (mvT hZ hw29) (by decide) (backOf (W := 0) (rmTd l Z a0 hw [] wD kD vcs G b312 b327 ((1 : Int32)) ((2 : Int32)) T350.heap n0 O350 c357 f350_1 c358 f350_3 (by decide)) hZ hw29 hw28 (by decide) (by decide)) (g := (mkF m 383 #[vi is, vi ia, vi ib, vi (1 : Int32), vi (2 : Int32), vi (0 : Int32), vi q6, vi q7, vi q8, vi q9, vi w154_0, vi w156_0, vi w158_0, vi w160_0, vi w162_0, vi w164_0, vi w166_0, vi w168_0, vr b312, vr b327, .unset, .unset] [(.ref b327), (.ref b312)])) rfl (by rw [hml]; rfl) (argsL := [(.ref b312), (.ref b327)]) (rest := []) (lenOf pd_15 rfl) rfl (by show 2 * 0 + _ ≤ _; exact Nat.le_of_eq rfl) (hb hby at_383) (fun _ _ => ⟨rfl, rfl, (by decide : 25 + 0 ≤ _), (by decide : 71 + 0 ≤ _)⟩)
                          dsimp only [Pt.U, Pt.locs, Pt.cells, Pt.slots] at X356 l356 y356 z356 st356 hQ356
                          subst l356 y356 z356
                          obtain ⟨rfl, rfl, e356⟩ := hQ356
                          try replace X356 := own_nil X356
                          refine Go.by' st356 ?_
                          show Go p.tables e below Pf (T356.setTop (mkF m 386 #[vi is, vi ia, vi ib, vi (1 : Int32), vi (2 : Int32), vi (0 : Int32), vi q6, vi q7, vi q8, vi q9, vi w154_0, vi w156_0, vi w158_0, vi w160_0, vi w162_0, vi w164_0, vi w166_0, vi w168_0, vr b312, vr b327, .unset, .unset] [(.int (0 : Int32))]))
                          refine Go.by' (fun t k => (XS.istore X356.here hx rfl (hb hby at_386) rfl (l' := #[vi is, vi ia, vi ib, vi (1 : Int32), vi (2 : Int32), vi (0 : Int32), vi q6, vi q7, vi q8, vi q9, vi w154_0, vi w156_0, vi w158_0, vi w160_0, vi w162_0, vi w164_0, vi w166_0, vi w168_0, vr b312, vr b327, vi (0 : Int32), .unset]) rfl (XS.iload X356.here hx rfl (hb hby at_388) rfl (XS.ifYes X356.here hx rfl (pc0 := 390) (pc' := 399) rfl (hb hby at_390) rfl ((if0 _ _).trans (teq (by decide)).1) (by decide) (by decide) (XS.iloadN X356.here hx rfl (hb hby at_399) rfl (XS.iload X356.here hx rfl (hb hby at_400) rfl (XS.icmpNo X356.here hx rfl (hb hby at_402) rfl (feq (by decide)).1 (XS.iconst X356.here hx rfl (hb hby at_405) (XS.istore X356.here hx rfl (hb hby at_406) rfl (l' := #[vi is, vi ia, vi ib, vi (1 : Int32), vi (2 : Int32), vi (0 : Int32), vi q6, vi q7, vi q8, vi q9, vi w154_0, vi w156_0, vi w158_0, vi w160_0, vi w162_0, vi w164_0, vi w166_0, vi w168_0, vr b312, vr b327, vi (0 : Int32), vi (0 : Int32)]) rfl k))))))))) ?_
                          show Go p.tables e below Pf (T356.setTop (mkF m 408 #[vi is, vi ia, vi ib, vi (1 : Int32), vi (2 : Int32), vi (0 : Int32), vi q6, vi q7, vi q8, vi q9, vi w154_0, vi w156_0, vi w158_0, vi w160_0, vi w162_0, vi w164_0, vi w166_0, vi w168_0, vr b312, vr b327, vi (0 : Int32), vi (0 : Int32)] []))
                          refine Go.by' (fun t k => (XS.goto X356.here hx rfl (pc0 := 408) (pc' := 471) rfl (hb hby at_408) (by decide) (by decide) (XS.iload X356.here hx rfl (hb hby at_471) rfl (XS.iload X356.here hx rfl (hb hby at_473) rfl (XS.icmpNo X356.here hx rfl (hb hby at_475) rfl (teq (by decide)).2 (XS.iconst X356.here hx rfl (hb hby at_478) (XS.goto X356.here hx rfl (pc0 := 479) (pc' := 483) rfl (hb hby at_479) (by decide) (by decide) k))))))) ?_
                          show Go p.tables e below Pf (T356.setTop (mkF m 483 #[vi is, vi ia, vi ib, vi (1 : Int32), vi (2 : Int32), vi (0 : Int32), vi q6, vi q7, vi q8, vi q9, vi w154_0, vi w156_0, vi w158_0, vi w160_0, vi w162_0, vi w164_0, vi w166_0, vi w168_0, vr b312, vr b327, vi (0 : Int32), vi (0 : Int32)] [(.int (1 : Int32))]))
                          rw [hPf]
                          exact Go.retI' X356 hx hret hlk (by simp) rfl (hb hby at_483) (by decide) (by decide) ⟨rfl, N350, (by rw [e356]; exact KC350)⟩
                      · refine Go.castF (a := w152_0) (b := (1 : Int32)) (fun z' : Int32 => mkF m 223 #[vi is, vi ia, vi ib, vi (1 : Int32), vi ((((is.toUInt32 >>> ((2 : Int32) &&& 31).toUInt32).toInt32) &&& (3 : Int32)) % (3 : Int32)), vi z', vi q6, vi q7, vi q8, vi q9, vi w154_0, vi w156_0, vi w158_0, vi w160_0, vi w162_0, vi w164_0, vi w166_0, vi w168_0, .unset, .unset, .unset, .unset] []) (hz) ?_
                        obtain ⟨T359, h359, X359, e359, E359, A359, D359, -, st359⟩ := newO X168 hx hZ hown hw0 hw1 hw2 e168 (g := (mkF m 223 #[vi is, vi ia, vi ib, vi (1 : Int32), vi ((((is.toUInt32 >>> ((2 : Int32) &&& 31).toUInt32).toInt32) &&& (3 : Int32)) % (3 : Int32)), vi (1 : Int32), vi q6, vi q7, vi q8, vi q9, vi w154_0, vi w156_0, vi w158_0, vi w160_0, vi w162_0, vi w164_0, vi w166_0, vi w168_0, .unset, .unset, .unset, .unset] [])) rfl (hb hby at_223) (by decide) (by decide)
                        obtain ⟨b359, g359⟩ : ∃ z, z = h0.size := ⟨_, rfl⟩
                        rw [← g359] at A359 D359 st359
                        refine Go.by' st359 ?_
                        have g_b359 : n0 ≤ b359 := Nat.le_trans (own_le O0) (Nat.le_of_eq g359.symm)
                        have sz_b359 : h0.size ≤ b359 := Nat.le_trans KC0.1 (Nat.le_of_eq g359.symm)
                        have O359 := O0.ext E359
                        have KC359 : Keep h0 h359 [] := KC0.ext E359
                        have Fn359_22 : Fld Z h359 b359 "java/util/AbstractList" "modCount" "I" (Value.int (0 : Int32)) := D359 (Or.inl hw22) (ty := .int) (by decide)
                        have Fn359_25 : Fld Z h359 b359 "java/util/ArrayList" "elementData" "[Ljava/lang/Object;" Value.null := D359 (Or.inl hw25) (ty := (.array (.object "java/lang/Object"))) (by decide)
                        have Fn359_40 : Fld Z h359 b359 "java/util/ArrayList" "size" "I" (Value.int (0 : Int32)) := D359 (Or.inl hw40) (ty := .int) (by decide)
                        show Go p.tables e below Pf (T359.setTop (mkF m 226 #[vi is, vi ia, vi ib, vi (1 : Int32), vi ((((is.toUInt32 >>> ((2 : Int32) &&& 31).toUInt32).toInt32) &&& (3 : Int32)) % (3 : Int32)), vi (1 : Int32), vi q6, vi q7, vi q8, vi q9, vi w154_0, vi w156_0, vi w158_0, vi w160_0, vi w162_0, vi w164_0, vi w166_0, vi w168_0, .unset, .unset, .unset, .unset] [(.ref b359)]))
                        refine Go.by' (fun t k => (XS.dup X359.here hx rfl (hb hby at_226) rfl rfl k)) ?_
                        obtain ⟨_, _, ⟨T360, L360, k360, n360⟩, -, X360, ⟨Lc360, hQ360, l360, y360, z360⟩, st360⟩ := X359.specialBack hx (y := (⟨"java/util/ArrayList", "<init>", "()V"⟩ : MethodName)) rfl hown (mvT hZ hw3) (mvT hZ hw4) (mvT hZ hw5) (by decide) (backOf (W := 1) (rmAL l Z a0 hw [] wD kD vcs G b359 h359 n0 O359 A359 Fn359_22 Fn359_25 Fn359_40 g_b359) hZ hw5 hw2 (by decide) (by decide)) (g := (mkF m 227 #[vi is, vi ia, vi ib, vi (1 : Int32), vi ((((is.toUInt32 >>> ((2 : Int32) &&& 31).toUInt32).toInt32) &&& (3 : Int32)) % (3 : Int32)), vi (1 : Int32), vi q6, vi q7, vi q8, vi q9, vi w154_0, vi w156_0, vi w158_0, vi w160_0, vi w162_0, vi w164_0, vi w166_0, vi w168_0, .unset, .unset, .unset, .unset] [(.ref b359), (.ref b359)])) rfl (by rw [hml]; rfl) (Steps.refl _) (a := b359) (argsL := []) (rest := [(.ref b359)]) (lenOf pd_5 rfl) rfl (by show 2 * 0 + _ ≤ _; exact Nat.le_of_eq rfl) (hb hby at_227) (fun _ _ => ⟨rfl, e359, (by decide : 1 + 0 ≤ _), (by decide : 3 + 0 ≤ _)⟩)
                        dsimp only [Pt.U, Pt.locs, Pt.cells, Pt.slots] at X360 l360 y360 z360 st360 hQ360
                        subst l360 y360 z360
                        obtain ⟨rfl, N360q, K360, f360_0, f360_1, f360_2, f360_3⟩ := hQ360
                        have N360 := Fr.app N0 N360q
                        obtain ⟨lc360, X360, N360⟩ := own_pack X360 N360
                        refine Go.by' (fun t k => st360.trans k) ?_
                        have O360 := O359.keep K360 (allS g_b359 all0)
                        have KC360 : Keep h0 T360.heap [] := KC359.trans K360 (allS (Or.inr sz_b359) all0)
                        show Go p.tables e below Pf (T360.setTop (mkF m 230 #[vi is, vi ia, vi ib, vi (1 : Int32), vi ((((is.toUInt32 >>> ((2 : Int32) &&& 31).toUInt32).toInt32) &&& (3 : Int32)) % (3 : Int32)), vi (1 : Int32), vi q6, vi q7, vi q8, vi q9, vi w154_0, vi w156_0, vi w158_0, vi w160_0, vi w162_0, vi w164_0, vi w166_0, vi w168_0, .unset, .unset, .unset, .unset] [(.ref b359)]))
                        refine Go.by' (fun t k => (XS.astore X360.here hx rfl (hb hby at_230) rfl rfl (l' := #[vi is, vi ia, vi ib, vi (1 : Int32), vi ((((is.toUInt32 >>> ((2 : Int32) &&& 31).toUInt32).toInt32) &&& (3 : Int32)) % (3 : Int32)), vi (1 : Int32), vi q6, vi q7, vi q8, vi q9, vi w154_0, vi w156_0, vi w158_0, vi w160_0, vi w162_0, vi w164_0, vi w166_0, vi w168_0, vr b359, .unset, .unset, .unset]) rfl (XS.iloadN X360.here hx rfl (hb hby at_232) rfl (XS.iconst X360.here hx rfl (hb hby at_233) (XS.icmpNo X360.here hx rfl (hb hby at_234) rfl (flt (by decide)).1 (XS.aload X360.here hx rfl (hb hby at_237) rfl rfl k)))))) ?_
                        obtain ⟨T361, h361, X361, e361, E361, A361, D361, -, st361⟩ := newO X360 hx hZ hown hw41 hw42 hw28 rfl (g := (mkF m 239 #[vi is, vi ia, vi ib, vi (1 : Int32), vi ((((is.toUInt32 >>> ((2 : Int32) &&& 31).toUInt32).toInt32) &&& (3 : Int32)) % (3 : Int32)), vi (1 : Int32), vi q6, vi q7, vi q8, vi q9, vi w154_0, vi w156_0, vi w158_0, vi w160_0, vi w162_0, vi w164_0, vi w166_0, vi w168_0, vr b359, .unset, .unset, .unset] [(.ref b359)])) rfl (hb hby at_239) (by decide) (by decide)
                        obtain ⟨b361, g361⟩ : ∃ z, z = T360.heap.size := ⟨_, rfl⟩
                        rw [← g361] at A361 D361 st361
                        refine Go.by' st361 ?_
                        have g_b361 : n0 ≤ b361 := Nat.le_trans (own_le O360) (Nat.le_of_eq g361.symm)
                        have sz_b361 : h0.size ≤ b361 := Nat.le_trans KC360.1 (Nat.le_of_eq g361.symm)
                        have O361 := O360.ext E361
                        have KC361 : Keep h0 h361 [] := KC360.ext E361
                        have Fn361_85 : Fld Z h361 b361 "com/example/slatewipe/slatewipe/vendors/mariadb/Columns$Column" "name" "Ljava/lang/String;" Value.null := D361 (Or.inr hw85) (ty := (.object "java/lang/String")) (by decide)
                        have Fn361_87 : Fld Z h361 b361 "com/example/slatewipe/slatewipe/vendors/mariadb/Columns$Column" "type" "Ljava/lang/String;" Value.null := D361 (Or.inr hw87) (ty := (.object "java/lang/String")) (by decide)
                        have Fn361_89 : Fld Z h361 b361 "com/example/slatewipe/slatewipe/vendors/mariadb/Columns$Column" "nullable" "Z" (Value.int (0 : Int32)) := D361 (Or.inr hw89) (ty := .boolean) (by decide)
                        show Go p.tables e below Pf (T361.setTop (mkF m 242 #[vi is, vi ia, vi ib, vi (1 : Int32), vi ((((is.toUInt32 >>> ((2 : Int32) &&& 31).toUInt32).toInt32) &&& (3 : Int32)) % (3 : Int32)), vi (1 : Int32), vi q6, vi q7, vi q8, vi q9, vi w154_0, vi w156_0, vi w158_0, vi w160_0, vi w162_0, vi w164_0, vi w166_0, vi w168_0, vr b359, .unset, .unset, .unset] [(.ref b361), (.ref b359)]))
                        refine Go.by' (fun t k => (XS.dup X361.here hx rfl (hb hby at_242) rfl rfl (XS.iload X361.here hx rfl (hb hby at_243) rfl k))) ?_
                        obtain ⟨_, _, ⟨T362, L362, k362, n362⟩, -, X362, ⟨Lc362, hQ362, l362, y362, z362⟩, st362⟩ := Jvm.LawKit.callS X361 hx (y := (⟨"com/example/slatewipe/slatewipe/vendors/mariadb/ColumnSameTypesPinLaw", "str", "(I)Ljava/lang/String;"⟩ : MethodName)) hown (mvT hZ hw43) (mvT hZ hw44) (mvT hZ hw45) (mvT hZ hw46) (by decide) (backOf (W := 3) (rmStr l Z a0 hw [] wD kD vcs G q6 h361 n0 O361 bd6.1 bd6.2) hZ hw46 hw45 (by decide) (by decide)) (g := (mkF m 245 #[vi is, vi ia, vi ib, vi (1 : Int32), vi ((((is.toUInt32 >>> ((2 : Int32) &&& 31).toUInt32).toInt32) &&& (3 : Int32)) % (3 : Int32)), vi (1 : Int32), vi q6, vi q7, vi q8, vi q9, vi w154_0, vi w156_0, vi w158_0, vi w160_0, vi w162_0, vi w164_0, vi w166_0, vi w168_0, vr b359, .unset, .unset, .unset] [(.int q6), (.ref b361), (.ref b361), (.ref b359)])) rfl (by rw [hml]; rfl) (argsL := [(.int q6)]) (rest := [(.ref b361), (.ref b361), (.ref b359)]) (lenOf pd_16 rfl) rfl (by show 2 * 0 + _ ≤ _; exact Nat.le_of_eq rfl) (hb hby at_245) (fun _ _ => ⟨rfl, e361, (by decide : 2 + 3 ≤ _), (by decide : 6 + 6 ≤ _)⟩)
                        dsimp only [Pt.U, Pt.locs, Pt.cells, Pt.slots] at X362 l362 y362 z362 st362 hQ362
                        subst l362 y362 z362
                        obtain ⟨r_362, rb_362, kb_362, rfl, N362q, K362, f362_0, f362_1, f362_2, f362_3, f362_4, f362_5⟩ := hQ362
                        have N362 := Fr.app N360 N362q
                        obtain ⟨lc362, X362, N362⟩ := own_pack X362 N362
                        refine Go.by' st362 ?_
                        have g_r_362 : n0 ≤ r_362 := Nat.le_trans (own_le O361) f362_1
                        have sz_r_362 : h0.size ≤ r_362 := Nat.le_trans KC361.1 f362_1
                        have g_rb_362 : n0 ≤ rb_362 := Nat.le_trans (own_le O361) f362_5
                        have sz_rb_362 : h0.size ≤ rb_362 := Nat.le_trans KC361.1 f362_5
                        have O362 := O361.keep K362 all0
                        have KC362 : Keep h0 T362.heap [] := KC361.trans K362 all0
                        show Go p.tables e below Pf (T362.setTop (mkF m 248 #[vi is, vi ia, vi ib, vi (1 : Int32), vi ((((is.toUInt32 >>> ((2 : Int32) &&& 31).toUInt32).toInt32) &&& (3 : Int32)) % (3 : Int32)), vi (1 : Int32), vi q6, vi q7, vi q8, vi q9, vi w154_0, vi w156_0, vi w158_0, vi w160_0, vi w162_0, vi w164_0, vi w166_0, vi w168_0, vr b359, .unset, .unset, .unset] [(.ref r_362), (.ref b361), (.ref b361), (.ref b359)]))
                        refine Go.by' (fun t k => (XS.iload X362.here hx rfl (hb hby at_248) rfl k)) ?_
                        obtain ⟨_, _, ⟨T363, L363, k363, n363⟩, -, X363, ⟨Lc363, hQ363, l363, y363, z363⟩, st363⟩ := Jvm.LawKit.callS X362 hx (y := (⟨"com/example/slatewipe/slatewipe/vendors/mariadb/ColumnSameTypesPinLaw", "str", "(I)Ljava/lang/String;"⟩ : MethodName)) hown (mvT hZ hw43) (mvT hZ hw44) (mvT hZ hw45) (mvT hZ hw46) (by decide) (backOf (W := 4) (rmStr l Z a0 hw [] wD kD vcs G q7 T362.heap n0 O362 bd7.1 bd7.2) hZ hw46 hw45 (by decide) (by decide)) (g := (mkF m 250 #[vi is, vi ia, vi ib, vi (1 : Int32), vi ((((is.toUInt32 >>> ((2 : Int32) &&& 31).toUInt32).toInt32) &&& (3 : Int32)) % (3 : Int32)), vi (1 : Int32), vi q6, vi q7, vi q8, vi q9, vi w154_0, vi w156_0, vi w158_0, vi w160_0, vi w162_0, vi w164_0, vi w166_0, vi w168_0, vr b359, .unset, .unset, .unset] [(.int q7), (.ref r_362), (.ref b361), (.ref b361), (.ref b359)])) rfl (by rw [hml]; rfl) (argsL := [(.int q7)]) (rest := [(.ref r_362), (.ref b361), (.ref b361), (.ref b359)]) (lenOf pd_16 rfl) rfl (by show 2 * 0 + _ ≤ _; exact Nat.le_of_eq rfl) (hb hby at_250) (fun _ _ => ⟨rfl, rfl, (by decide : 5 + 3 ≤ _), (by decide : 12 + 6 ≤ _)⟩)
                        dsimp only [Pt.U, Pt.locs, Pt.cells, Pt.slots] at X363 l363 y363 z363 st363 hQ363
                        subst l363 y363 z363
                        obtain ⟨r_363, rb_363, kb_363, rfl, N363q, K363, f363_0, f363_1, f363_2, f363_3, f363_4, f363_5⟩ := hQ363
                        have N363 := Fr.app N362 N363q
                        obtain ⟨lc363, X363, N363⟩ := own_pack X363 N363
                        refine Go.by' st363 ?_
                        have g_r_363 : n0 ≤ r_363 := Nat.le_trans (own_le O362) f363_1
                        have sz_r_363 : h0.size ≤ r_363 := Nat.le_trans KC362.1 f363_1
                        have g_rb_363 : n0 ≤ rb_363 := Nat.le_trans (own_le O362) f363_5
                        have sz_rb_363 : h0.size ≤ rb_363 := Nat.le_trans KC362.1 f363_5
                        have O363 := O362.keep K363 all0
                        have KC363 : Keep h0 T363.heap [] := KC362.trans K363 all0
                        show Go p.tables e below Pf (T363.setTop (mkF m 253 #[vi is, vi ia, vi ib, vi (1 : Int32), vi ((((is.toUInt32 >>> ((2 : Int32) &&& 31).toUInt32).toInt32) &&& (3 : Int32)) % (3 : Int32)), vi (1 : Int32), vi q6, vi q7, vi q8, vi q9, vi w154_0, vi w156_0, vi w158_0, vi w160_0, vi w162_0, vi w164_0, vi w166_0, vi w168_0, vr b359, .unset, .unset, .unset] [(.ref r_363), (.ref r_362), (.ref b361), (.ref b361), (.ref b359)]))
                        refine Go.by' (fun t k => (XS.iload X363.here hx rfl (hb hby at_253) rfl k)) ?_
                        have c365 := ((A361.keep K362).keep K363)
                        have c366 := ((Fn361_85.keep K362 nin0).keep K363 nin0)
                        have c367 := ((Fn361_87.keep K362 nin0).keep K363 nin0)
                        have c368 := ((Fn361_89.keep K362 nin0).keep K363 nin0)
                        obtain ⟨_, _, ⟨T364, L364, k364, n364⟩, -, X364, ⟨Lc364, hQ364, l364, y364, z364⟩, st364⟩ := X363.specialBack hx (y := (⟨"com/example/slatewipe/slatewipe/vendors/mariadb/Columns$Column", "<init>", "(Ljava/lang/String;Ljava/lang/String;Z)V"⟩ : MethodName)) rfl hown (mvT hZ hw75) (mvT hZ hw76) (mvT hZ hw77) (by decide) (backOf (W := 2) (rmCol l Z a0 hw [] wD kD vcs G b361 r_362 r_363 w162_0 T363.heap n0 O363 c365 c366 c367 c368 g_b361 bw162_0) hZ hw77 hw28 (by decide) (by decide)) (g := (mkF m 255 #[vi is, vi ia, vi ib, vi (1 : Int32), vi ((((is.toUInt32 >>> ((2 : Int32) &&& 31).toUInt32).toInt32) &&& (3 : Int32)) % (3 : Int32)), vi (1 : Int32), vi q6, vi q7, vi q8, vi q9, vi w154_0, vi w156_0, vi w158_0, vi w160_0, vi w162_0, vi w164_0, vi w166_0, vi w168_0, vr b359, .unset, .unset, .unset] [(.int w162_0), (.ref r_363), (.ref r_362), (.ref b361), (.ref b361), (.ref b359)])) rfl (by rw [hml]; rfl) (Steps.refl _) (a := b361) (argsL := [(.ref r_362), (.ref r_363), (.int w162_0)]) (rest := [(.ref b361), (.ref b359)]) (lenOf pd_17 rfl) rfl (by show 2 * 0 + _ ≤ _; exact Nat.le_of_eq rfl) (hb hby at_255) (fun _ _ => ⟨rfl, rfl, (by decide : 8 + 0 ≤ _), (by decide : 18 + 0 ≤ _)⟩)
                        dsimp only [Pt.U, Pt.locs, Pt.cells, Pt.slots] at X364 l364 y364 z364 st364 hQ364
                        subst l364 y364 z364
                        obtain ⟨rfl, N364q, K364, f364_0, f364_1, f364_2⟩ := hQ364
                        have N364 := Fr.app N363 N364q
                        obtain ⟨lc364, X364, N364⟩ := own_pack X364 N364
                        refine Go.by' (fun t k => st364.trans k) ?_
                        have O364 := O363.keep K364 (allS g_b361 all0)
                        have KC364 : Keep h0 T364.heap [] := KC363.trans K364 (allS (Or.inr sz_b361) all0)
                        have c370 := ((((f360_0.ext E361).keep K362).keep K363).keep K364)
                        have c371 := ((((f360_3.ext E361).keep K362 nin0).keep K363 nin0).keep K364 (ninS (Nat.ne_of_lt (Nat.lt_of_lt_of_le (Nat.lt_of_lt_of_le A359.lt K360.1) (Nat.le_of_eq g361.symm))) nin0))
                        have c372 := ((((f360_2.ext E361).keep K362 nin0).keep K363 nin0).keep K364 (ninS (Nat.ne_of_lt (Nat.lt_of_lt_of_le (Nat.lt_of_lt_of_le A359.lt K360.1) (Nat.le_of_eq g361.symm))) nin0))
                        have c373 := ((((f360_1.ext E361).keep K362 nin0).keep K363 nin0).keep K364 (ninS (Nat.ne_of_lt (Nat.lt_of_lt_of_le (Nat.lt_of_lt_of_le A359.lt K360.1) (Nat.le_of_eq g361.symm))) nin0))
                        obtain ⟨cq369, kq369, q369a, q369b, q369c⟩ := isOf hZ rfl c370
                        obtain ⟨_, _, ⟨T369, L369, k369, n369⟩, -, X369, ⟨Lc369, hQ369, l369, y369, z369⟩, st369⟩ := X364.interfaceBack hx (xi := (⟨"java/util/List", "add", "(Ljava/lang/Object;)Z"⟩ : MethodName)) (y := (⟨"java/util/ArrayList", "add", "(Ljava/lang/Object;)Z"⟩ : MethodName)) hown (mvT hZ hw90) (mvT hZ hw91) (mvT hZ hw92) (mvT hZ hw93) (mvT hZ hw94) (mvT hZ hw95) (mvT hZ hw96) (mvT hZ hw37) (by decide) (backOf (W := 0) (rmA1_0 l Z a0 hw [] wD kD vcs G b359 b361 ((0 : Int32)) T364.heap n0 O364 c370 c371 c372 c373 g_b359 f364_0) hZ hw97 hw2 (by decide) (by decide)) q369a q369b q369c (g := (mkF m 258 #[vi is, vi ia, vi ib, vi (1 : Int32), vi ((((is.toUInt32 >>> ((2 : Int32) &&& 31).toUInt32).toInt32) &&& (3 : Int32)) % (3 : Int32)), vi (1 : Int32), vi q6, vi q7, vi q8, vi q9, vi w154_0, vi w156_0, vi w158_0, vi w160_0, vi w162_0, vi w164_0, vi w166_0, vi w168_0, vr b359, .unset, .unset, .unset] [(.ref b361), (.ref b359)])) rfl (by rw [hml]; rfl) (Steps.refl _) (argsL := [(.ref b361)]) (rest := []) (lenOf pd_14 rfl) rfl (by show 2 * 0 + _ ≤ _; exact Nat.le_of_eq rfl) (hb hby at_258) (fun _ _ => ⟨rfl, rfl, (by decide : 8 + 1 ≤ _), (by decide : 18 + 10 ≤ _)⟩)
                        dsimp only [Pt.U, Pt.locs, Pt.cells, Pt.slots] at X369 l369 y369 z369 st369 hQ369
                        subst l369 y369 z369
                        obtain ⟨r_369, kk_369, rfl, N369q, K369, f369_0, f369_1, f369_2, f369_3, f369_4, f369_5, r369_0⟩ := hQ369
                        have N369 := Fr.app N364 N369q
                        obtain ⟨lc369, X369, N369⟩ := own_pack X369 N369
                        refine Go.by' (fun t k => st369.trans k) ?_
                        have g_r_369 : n0 ≤ r_369 := Nat.le_trans (own_le O364) f369_1
                        have sz_r_369 : h0.size ≤ r_369 := Nat.le_trans KC364.1 f369_1
                        have O369 := O364.keep K369 (allS g_b359 all0)
                        have KC369 : Keep h0 T369.heap [] := KC364.trans K369 (allS (Or.inr sz_b359) all0)
                        show Go p.tables e below Pf (T369.setTop (mkF m 263 #[vi is, vi ia, vi ib, vi (1 : Int32), vi ((((is.toUInt32 >>> ((2 : Int32) &&& 31).toUInt32).toInt32) &&& (3 : Int32)) % (3 : Int32)), vi (1 : Int32), vi q6, vi q7, vi q8, vi q9, vi w154_0, vi w156_0, vi w158_0, vi w160_0, vi w162_0, vi w164_0, vi w166_0, vi w168_0, vr b359, .unset, .unset, .unset] [(.int (1 : Int32))]))
                        refine Go.by' (fun t k => (XS.pop X369.here hx rfl (hb hby at_263) rfl rfl (XS.iloadN X369.here hx rfl (hb hby at_264) rfl (XS.iconst X369.here hx rfl (hb hby at_265) (XS.icmpYes X369.here hx rfl (pc0 := 266) (pc' := 296) rfl (hb hby at_266) rfl (tlt (by decide)).1 (by decide) (by decide) (XS.aconstNull X369.here hx rfl (hb hby at_296) (XS.astore X369.here hx rfl (hb hby at_297) rfl rfl (l' := #[vi is, vi ia, vi ib, vi (1 : Int32), vi ((((is.toUInt32 >>> ((2 : Int32) &&& 31).toUInt32).toInt32) &&& (3 : Int32)) % (3 : Int32)), vi (1 : Int32), vi q6, vi q7, vi q8, vi q9, vi w154_0, vi w156_0, vi w158_0, vi w160_0, vi w162_0, vi w164_0, vi w166_0, vi w168_0, vr b359, .val .null, .unset, .unset]) rfl (XS.iload X369.here hx rfl (hb hby at_299) rfl (XS.ifYes X369.here hx rfl (pc0 := 301) (pc' := 379) rfl (hb hby at_301) rfl ((if0 _ _).trans (feq (by decide)).2) (by decide) (by decide) k))))))))) ?_
                        show Go p.tables e below Pf (T369.setTop (mkF m 379 #[vi is, vi ia, vi ib, vi (1 : Int32), vi ((((is.toUInt32 >>> ((2 : Int32) &&& 31).toUInt32).toInt32) &&& (3 : Int32)) % (3 : Int32)), vi (1 : Int32), vi q6, vi q7, vi q8, vi q9, vi w154_0, vi w156_0, vi w158_0, vi w160_0, vi w162_0, vi w164_0, vi w166_0, vi w168_0, vr b359, .val .null, .unset, .unset] []))
                        refine Go.by' (fun t k => (XS.aload X369.here hx rfl (hb hby at_379) rfl rfl (XS.aload X369.here hx rfl (hb hby at_381) rfl rfl k))) ?_
                        obtain ⟨_, _, ⟨T374, L374, k374, n374⟩, -, X374, ⟨Lc374, hQ374, l374, y374, z374⟩, st374⟩ := Jvm.LawKit.callS X369 hx (y := (⟨"com/example/slatewipe/slatewipe/vendors/mariadb/Columns$Column", "sameTypes", "(Ljava/util/List;Ljava/util/List;)Z"⟩ : MethodName)) hown (mvT hZ hw26) (mvT hZ hw27) (mvT hZ hw28) (mvT hZ hw29) (by decide) (backOf (W := 0) (rmTn l Z a0 hw [] wD kD vcs G b359 T369.heap n0 O369 ) hZ hw29 hw28 (by decide) (by decide)) (g := (mkF m 383 #[vi is, vi ia, vi ib, vi (1 : Int32), vi ((((is.toUInt32 >>> ((2 : Int32) &&& 31).toUInt32).toInt32) &&& (3 : Int32)) % (3 : Int32)), vi (1 : Int32), vi q6, vi q7, vi q8, vi q9, vi w154_0, vi w156_0, vi w158_0, vi w160_0, vi w162_0, vi w164_0, vi w166_0, vi w168_0, vr b359, .val .null, .unset, .unset] [.null, (.ref b359)])) rfl (by rw [hml]; rfl) (argsL := [(.ref b359), .null]) (rest := []) (lenOf pd_15 rfl) rfl (by show 2 * 0 + _ ≤ _; exact Nat.le_of_eq rfl) (hb hby at_383) (fun _ _ => ⟨rfl, rfl, (by decide : 9 + 0 ≤ _), (by decide : 28 + 0 ≤ _)⟩)
                        dsimp only [Pt.U, Pt.locs, Pt.cells, Pt.slots] at X374 l374 y374 z374 st374 hQ374
                        subst l374 y374 z374
                        obtain ⟨rfl, rfl, e374⟩ := hQ374
                        try replace X374 := own_nil X374
                        refine Go.by' st374 ?_
                        show Go p.tables e below Pf (T374.setTop (mkF m 386 #[vi is, vi ia, vi ib, vi (1 : Int32), vi ((((is.toUInt32 >>> ((2 : Int32) &&& 31).toUInt32).toInt32) &&& (3 : Int32)) % (3 : Int32)), vi (1 : Int32), vi q6, vi q7, vi q8, vi q9, vi w154_0, vi w156_0, vi w158_0, vi w160_0, vi w162_0, vi w164_0, vi w166_0, vi w168_0, vr b359, .val .null, .unset, .unset] [(.int (0 : Int32))]))
                        refine Go.by' (fun t k => (XS.istore X374.here hx rfl (hb hby at_386) rfl (l' := #[vi is, vi ia, vi ib, vi (1 : Int32), vi ((((is.toUInt32 >>> ((2 : Int32) &&& 31).toUInt32).toInt32) &&& (3 : Int32)) % (3 : Int32)), vi (1 : Int32), vi q6, vi q7, vi q8, vi q9, vi w154_0, vi w156_0, vi w158_0, vi w160_0, vi w162_0, vi w164_0, vi w166_0, vi w168_0, vr b359, .val .null, vi (0 : Int32), .unset]) rfl (XS.iload X374.here hx rfl (hb hby at_388) rfl (XS.ifNo X374.here hx rfl (hb hby at_390) rfl ((if0 _ _).trans (feq (by decide)).1) (XS.iconst X374.here hx rfl (hb hby at_393) (XS.istore X374.here hx rfl (hb hby at_394) rfl (l' := #[vi is, vi ia, vi ib, vi (1 : Int32), vi ((((is.toUInt32 >>> ((2 : Int32) &&& 31).toUInt32).toInt32) &&& (3 : Int32)) % (3 : Int32)), vi (1 : Int32), vi q6, vi q7, vi q8, vi q9, vi w154_0, vi w156_0, vi w158_0, vi w160_0, vi w162_0, vi w164_0, vi w166_0, vi w168_0, vr b359, .val .null, vi (0 : Int32), vi (0 : Int32)]) rfl (XS.goto X374.here hx rfl (pc0 := 396) (pc' := 471) rfl (hb hby at_396) (by decide) (by decide) (XS.iload X374.here hx rfl (hb hby at_471) rfl (XS.iload X374.here hx rfl (hb hby at_473) rfl k))))))))) ?_
                        show Go p.tables e below Pf (T374.setTop (mkF m 475 #[vi is, vi ia, vi ib, vi (1 : Int32), vi ((((is.toUInt32 >>> ((2 : Int32) &&& 31).toUInt32).toInt32) &&& (3 : Int32)) % (3 : Int32)), vi (1 : Int32), vi q6, vi q7, vi q8, vi q9, vi w154_0, vi w156_0, vi w158_0, vi w160_0, vi w162_0, vi w164_0, vi w166_0, vi w168_0, vr b359, .val .null, vi (0 : Int32), vi (0 : Int32)] [(.int (0 : Int32)), (.int (0 : Int32))]))
                        refine Go.by' (fun t k => (XS.icmpNo X374.here hx rfl (hb hby at_475) rfl (teq (by decide)).2 (XS.iconst X374.here hx rfl (hb hby at_478) (XS.goto X374.here hx rfl (pc0 := 479) (pc' := 483) rfl (hb hby at_479) (by decide) (by decide) k)))) ?_
                        show Go p.tables e below Pf (T374.setTop (mkF m 483 #[vi is, vi ia, vi ib, vi (1 : Int32), vi ((((is.toUInt32 >>> ((2 : Int32) &&& 31).toUInt32).toInt32) &&& (3 : Int32)) % (3 : Int32)), vi (1 : Int32), vi q6, vi q7, vi q8, vi q9, vi w154_0, vi w156_0, vi w158_0, vi w160_0, vi w162_0, vi w164_0, vi w166_0, vi w168_0, vr b359, .val .null, vi (0 : Int32), vi (0 : Int32)] [(.int (1 : Int32))]))
                        rw [hPf]
                        exact Go.retI' X374 hx hret hlk (by simp) rfl (hb hby at_483) (by decide) (by decide) ⟨rfl, N369, (by rw [e374]; exact KC369)⟩
                    · refine Go.castF (a := ((is &&& (3 : Int32)) % (3 : Int32))) (b := (2 : Int32)) (fun z' : Int32 => mkF m 223 #[vi is, vi ia, vi ib, vi z', vi ((((is.toUInt32 >>> ((2 : Int32) &&& 31).toUInt32).toInt32) &&& (3 : Int32)) % (3 : Int32)), vi w152_0, vi q6, vi q7, vi q8, vi q9, vi w154_0, vi w156_0, vi w158_0, vi w160_0, vi w162_0, vi w164_0, vi w166_0, vi w168_0, .unset, .unset, .unset, .unset] []) (hk) ?_
                      show Go p.tables e below Pf (T168.setTop (mkF m 223 #[vi is, vi ia, vi ib, vi (2 : Int32), vi ((((is.toUInt32 >>> ((2 : Int32) &&& 31).toUInt32).toInt32) &&& (3 : Int32)) % (3 : Int32)), vi w152_0, vi q6, vi q7, vi q8, vi q9, vi w154_0, vi w156_0, vi w158_0, vi w160_0, vi w162_0, vi w164_0, vi w166_0, vi w168_0, .unset, .unset, .unset, .unset] []))
                      rcases bw152_0 with hz | hz
                      · refine Go.castF (a := w152_0) (b := (0 : Int32)) (fun z' : Int32 => mkF m 223 #[vi is, vi ia, vi ib, vi (2 : Int32), vi ((((is.toUInt32 >>> ((2 : Int32) &&& 31).toUInt32).toInt32) &&& (3 : Int32)) % (3 : Int32)), vi z', vi q6, vi q7, vi q8, vi q9, vi w154_0, vi w156_0, vi w158_0, vi w160_0, vi w162_0, vi w164_0, vi w166_0, vi w168_0, .unset, .unset, .unset, .unset] []) (hz) ?_
                        show Go p.tables e below Pf (T168.setTop (mkF m 223 #[vi is, vi ia, vi ib, vi (2 : Int32), vi ((((is.toUInt32 >>> ((2 : Int32) &&& 31).toUInt32).toInt32) &&& (3 : Int32)) % (3 : Int32)), vi (0 : Int32), vi q6, vi q7, vi q8, vi q9, vi w154_0, vi w156_0, vi w158_0, vi w160_0, vi w162_0, vi w164_0, vi w166_0, vi w168_0, .unset, .unset, .unset, .unset] []))
                        rcases own_k _ with hm | hm | hm
                        · refine Go.castF (a := ((((is.toUInt32 >>> ((2 : Int32) &&& 31).toUInt32).toInt32) &&& (3 : Int32)) % (3 : Int32))) (b := (0 : Int32)) (fun z' : Int32 => mkF m 223 #[vi is, vi ia, vi ib, vi (2 : Int32), vi z', vi (0 : Int32), vi q6, vi q7, vi q8, vi q9, vi w154_0, vi w156_0, vi w158_0, vi w160_0, vi w162_0, vi w164_0, vi w166_0, vi w168_0, .unset, .unset, .unset, .unset] []) (hm) ?_
                          obtain ⟨T375, h375, X375, e375, E375, A375, D375, -, st375⟩ := newO X168 hx hZ hown hw0 hw1 hw2 e168 (g := (mkF m 223 #[vi is, vi ia, vi ib, vi (2 : Int32), vi (0 : Int32), vi (0 : Int32), vi q6, vi q7, vi q8, vi q9, vi w154_0, vi w156_0, vi w158_0, vi w160_0, vi w162_0, vi w164_0, vi w166_0, vi w168_0, .unset, .unset, .unset, .unset] [])) rfl (hb hby at_223) (by decide) (by decide)
                          obtain ⟨b375, g375⟩ : ∃ z, z = h0.size := ⟨_, rfl⟩
                          rw [← g375] at A375 D375 st375
                          refine Go.by' st375 ?_
                          have g_b375 : n0 ≤ b375 := Nat.le_trans (own_le O0) (Nat.le_of_eq g375.symm)
                          have sz_b375 : h0.size ≤ b375 := Nat.le_trans KC0.1 (Nat.le_of_eq g375.symm)
                          have O375 := O0.ext E375
                          have KC375 : Keep h0 h375 [] := KC0.ext E375
                          have Fn375_22 : Fld Z h375 b375 "java/util/AbstractList" "modCount" "I" (Value.int (0 : Int32)) := D375 (Or.inl hw22) (ty := .int) (by decide)
                          have Fn375_25 : Fld Z h375 b375 "java/util/ArrayList" "elementData" "[Ljava/lang/Object;" Value.null := D375 (Or.inl hw25) (ty := (.array (.object "java/lang/Object"))) (by decide)
                          have Fn375_40 : Fld Z h375 b375 "java/util/ArrayList" "size" "I" (Value.int (0 : Int32)) := D375 (Or.inl hw40) (ty := .int) (by decide)
                          show Go p.tables e below Pf (T375.setTop (mkF m 226 #[vi is, vi ia, vi ib, vi (2 : Int32), vi (0 : Int32), vi (0 : Int32), vi q6, vi q7, vi q8, vi q9, vi w154_0, vi w156_0, vi w158_0, vi w160_0, vi w162_0, vi w164_0, vi w166_0, vi w168_0, .unset, .unset, .unset, .unset] [(.ref b375)]))
                          refine Go.by' (fun t k => (XS.dup X375.here hx rfl (hb hby at_226) rfl rfl k)) ?_
                          obtain ⟨_, _, ⟨T376, L376, k376, n376⟩, -, X376, ⟨Lc376, hQ376, l376, y376, z376⟩, st376⟩ := X375.specialBack hx (y := (⟨"java/util/ArrayList", "<init>", "()V"⟩ : MethodName)) rfl hown (mvT hZ hw3) (mvT hZ hw4) (mvT hZ hw5) (by decide) (backOf (W := 1) (rmAL l Z a0 hw [] wD kD vcs G b375 h375 n0 O375 A375 Fn375_22 Fn375_25 Fn375_40 g_b375) hZ hw5 hw2 (by decide) (by decide)) (g := (mkF m 227 #[vi is, vi ia, vi ib, vi (2 : Int32), vi (0 : Int32), vi (0 : Int32), vi q6, vi q7, vi q8, vi q9, vi w154_0, vi w156_0, vi w158_0, vi w160_0, vi w162_0, vi w164_0, vi w166_0, vi w168_0, .unset, .unset, .unset, .unset] [(.ref b375), (.ref b375)])) rfl (by rw [hml]; rfl) (Steps.refl _) (a := b375) (argsL := []) (rest := [(.ref b375)]) (lenOf pd_5 rfl) rfl (by show 2 * 0 + _ ≤ _; exact Nat.le_of_eq rfl) (hb hby at_227) (fun _ _ => ⟨rfl, e375, (by decide : 1 + 0 ≤ _), (by decide : 3 + 0 ≤ _)⟩)
                          dsimp only [Pt.U, Pt.locs, Pt.cells, Pt.slots] at X376 l376 y376 z376 st376 hQ376
                          subst l376 y376 z376
                          obtain ⟨rfl, N376q, K376, f376_0, f376_1, f376_2, f376_3⟩ := hQ376
                          have N376 := Fr.app N0 N376q
                          obtain ⟨lc376, X376, N376⟩ := own_pack X376 N376
                          refine Go.by' (fun t k => st376.trans k) ?_
                          have O376 := O375.keep K376 (allS g_b375 all0)
                          have KC376 : Keep h0 T376.heap [] := KC375.trans K376 (allS (Or.inr sz_b375) all0)
                          show Go p.tables e below Pf (T376.setTop (mkF m 230 #[vi is, vi ia, vi ib, vi (2 : Int32), vi (0 : Int32), vi (0 : Int32), vi q6, vi q7, vi q8, vi q9, vi w154_0, vi w156_0, vi w158_0, vi w160_0, vi w162_0, vi w164_0, vi w166_0, vi w168_0, .unset, .unset, .unset, .unset] [(.ref b375)]))
                          refine Go.by' (fun t k => (XS.astore X376.here hx rfl (hb hby at_230) rfl rfl (l' := #[vi is, vi ia, vi ib, vi (2 : Int32), vi (0 : Int32), vi (0 : Int32), vi q6, vi q7, vi q8, vi q9, vi w154_0, vi w156_0, vi w158_0, vi w160_0, vi w162_0, vi w164_0, vi w166_0, vi w168_0, vr b375, .unset, .unset, .unset]) rfl (XS.iloadN X376.here hx rfl (hb hby at_232) rfl (XS.iconst X376.here hx rfl (hb hby at_233) (XS.icmpNo X376.here hx rfl (hb hby at_234) rfl (flt (by decide)).1 (XS.aload X376.here hx rfl (hb hby at_237) rfl rfl k)))))) ?_
                          obtain ⟨T377, h377, X377, e377, E377, A377, D377, -, st377⟩ := newO X376 hx hZ hown hw41 hw42 hw28 rfl (g := (mkF m 239 #[vi is, vi ia, vi ib, vi (2 : Int32), vi (0 : Int32), vi (0 : Int32), vi q6, vi q7, vi q8, vi q9, vi w154_0, vi w156_0, vi w158_0, vi w160_0, vi w162_0, vi w164_0, vi w166_0, vi w168_0, vr b375, .unset, .unset, .unset] [(.ref b375)])) rfl (hb hby at_239) (by decide) (by decide)
                          obtain ⟨b377, g377⟩ : ∃ z, z = T376.heap.size := ⟨_, rfl⟩
                          rw [← g377] at A377 D377 st377
                          refine Go.by' st377 ?_
                          have g_b377 : n0 ≤ b377 := Nat.le_trans (own_le O376) (Nat.le_of_eq g377.symm)
                          have sz_b377 : h0.size ≤ b377 := Nat.le_trans KC376.1 (Nat.le_of_eq g377.symm)
                          have O377 := O376.ext E377
                          have KC377 : Keep h0 h377 [] := KC376.ext E377
                          have Fn377_85 : Fld Z h377 b377 "com/example/slatewipe/slatewipe/vendors/mariadb/Columns$Column" "name" "Ljava/lang/String;" Value.null := D377 (Or.inr hw85) (ty := (.object "java/lang/String")) (by decide)
                          have Fn377_87 : Fld Z h377 b377 "com/example/slatewipe/slatewipe/vendors/mariadb/Columns$Column" "type" "Ljava/lang/String;" Value.null := D377 (Or.inr hw87) (ty := (.object "java/lang/String")) (by decide)
                          have Fn377_89 : Fld Z h377 b377 "com/example/slatewipe/slatewipe/vendors/mariadb/Columns$Column" "nullable" "Z" (Value.int (0 : Int32)) := D377 (Or.inr hw89) (ty := .boolean) (by decide)
                          show Go p.tables e below Pf (T377.setTop (mkF m 242 #[vi is, vi ia, vi ib, vi (2 : Int32), vi (0 : Int32), vi (0 : Int32), vi q6, vi q7, vi q8, vi q9, vi w154_0, vi w156_0, vi w158_0, vi w160_0, vi w162_0, vi w164_0, vi w166_0, vi w168_0, vr b375, .unset, .unset, .unset] [(.ref b377), (.ref b375)]))
                          refine Go.by' (fun t k => (XS.dup X377.here hx rfl (hb hby at_242) rfl rfl (XS.iload X377.here hx rfl (hb hby at_243) rfl k))) ?_
                          obtain ⟨_, _, ⟨T378, L378, k378, n378⟩, -, X378, ⟨Lc378, hQ378, l378, y378, z378⟩, st378⟩ := Jvm.LawKit.callS X377 hx (y := (⟨"com/example/slatewipe/slatewipe/vendors/mariadb/ColumnSameTypesPinLaw", "str", "(I)Ljava/lang/String;"⟩ : MethodName)) hown (mvT hZ hw43) (mvT hZ hw44) (mvT hZ hw45) (mvT hZ hw46) (by decide) (backOf (W := 3) (rmStr l Z a0 hw [] wD kD vcs G q6 h377 n0 O377 bd6.1 bd6.2) hZ hw46 hw45 (by decide) (by decide)) (g := (mkF m 245 #[vi is, vi ia, vi ib, vi (2 : Int32), vi (0 : Int32), vi (0 : Int32), vi q6, vi q7, vi q8, vi q9, vi w154_0, vi w156_0, vi w158_0, vi w160_0, vi w162_0, vi w164_0, vi w166_0, vi w168_0, vr b375, .unset, .unset, .unset] [(.int q6), (.ref b377), (.ref b377), (.ref b375)])) rfl (by rw [hml]; rfl) (argsL := [(.int q6)]) (rest := [(.ref b377), (.ref b377), (.ref b375)]) (lenOf pd_16 rfl) rfl (by show 2 * 0 + _ ≤ _; exact Nat.le_of_eq rfl) (hb hby at_245) (fun _ _ => ⟨rfl, e377, (by decide : 2 + 3 ≤ _), (by decide : 6 + 6 ≤ _)⟩)
                          dsimp only [Pt.U, Pt.locs, Pt.cells, Pt.slots] at X378 l378 y378 z378 st378 hQ378
                          subst l378 y378 z378
                          obtain ⟨r_378, rb_378, kb_378, rfl, N378q, K378, f378_0, f378_1, f378_2, f378_3, f378_4, f378_5⟩ := hQ378
                          have N378 := Fr.app N376 N378q
                          obtain ⟨lc378, X378, N378⟩ := own_pack X378 N378
                          refine Go.by' st378 ?_
                          have g_r_378 : n0 ≤ r_378 := Nat.le_trans (own_le O377) f378_1
                          have sz_r_378 : h0.size ≤ r_378 := Nat.le_trans KC377.1 f378_1
                          have g_rb_378 : n0 ≤ rb_378 := Nat.le_trans (own_le O377) f378_5
                          have sz_rb_378 : h0.size ≤ rb_378 := Nat.le_trans KC377.1 f378_5
                          have O378 := O377.keep K378 all0
                          have KC378 : Keep h0 T378.heap [] := KC377.trans K378 all0
                          show Go p.tables e below Pf (T378.setTop (mkF m 248 #[vi is, vi ia, vi ib, vi (2 : Int32), vi (0 : Int32), vi (0 : Int32), vi q6, vi q7, vi q8, vi q9, vi w154_0, vi w156_0, vi w158_0, vi w160_0, vi w162_0, vi w164_0, vi w166_0, vi w168_0, vr b375, .unset, .unset, .unset] [(.ref r_378), (.ref b377), (.ref b377), (.ref b375)]))
                          refine Go.by' (fun t k => (XS.iload X378.here hx rfl (hb hby at_248) rfl k)) ?_
                          obtain ⟨_, _, ⟨T379, L379, k379, n379⟩, -, X379, ⟨Lc379, hQ379, l379, y379, z379⟩, st379⟩ := Jvm.LawKit.callS X378 hx (y := (⟨"com/example/slatewipe/slatewipe/vendors/mariadb/ColumnSameTypesPinLaw", "str", "(I)Ljava/lang/String;"⟩ : MethodName)) hown (mvT hZ hw43) (mvT hZ hw44) (mvT hZ hw45) (mvT hZ hw46) (by decide) (backOf (W := 4) (rmStr l Z a0 hw [] wD kD vcs G q7 T378.heap n0 O378 bd7.1 bd7.2) hZ hw46 hw45 (by decide) (by decide)) (g := (mkF m 250 #[vi is, vi ia, vi ib, vi (2 : Int32), vi (0 : Int32), vi (0 : Int32), vi q6, vi q7, vi q8, vi q9, vi w154_0, vi w156_0, vi w158_0, vi w160_0, vi w162_0, vi w164_0, vi w166_0, vi w168_0, vr b375, .unset, .unset, .unset] [(.int q7), (.ref r_378), (.ref b377), (.ref b377), (.ref b375)])) rfl (by rw [hml]; rfl) (argsL := [(.int q7)]) (rest := [(.ref r_378), (.ref b377), (.ref b377), (.ref b375)]) (lenOf pd_16 rfl) rfl (by show 2 * 0 + _ ≤ _; exact Nat.le_of_eq rfl) (hb hby at_250) (fun _ _ => ⟨rfl, rfl, (by decide : 5 + 3 ≤ _), (by decide : 12 + 6 ≤ _)⟩)
                          dsimp only [Pt.U, Pt.locs, Pt.cells, Pt.slots] at X379 l379 y379 z379 st379 hQ379
                          subst l379 y379 z379
                          obtain ⟨r_379, rb_379, kb_379, rfl, N379q, K379, f379_0, f379_1, f379_2, f379_3, f379_4, f379_5⟩ := hQ379
                          have N379 := Fr.app N378 N379q
                          obtain ⟨lc379, X379, N379⟩ := own_pack X379 N379
                          refine Go.by' st379 ?_
                          have g_r_379 : n0 ≤ r_379 := Nat.le_trans (own_le O378) f379_1
                          have sz_r_379 : h0.size ≤ r_379 := Nat.le_trans KC378.1 f379_1
                          have g_rb_379 : n0 ≤ rb_379 := Nat.le_trans (own_le O378) f379_5
                          have sz_rb_379 : h0.size ≤ rb_379 := Nat.le_trans KC378.1 f379_5
                          have O379 := O378.keep K379 all0
                          have KC379 : Keep h0 T379.heap [] := KC378.trans K379 all0
                          show Go p.tables e below Pf (T379.setTop (mkF m 253 #[vi is, vi ia, vi ib, vi (2 : Int32), vi (0 : Int32), vi (0 : Int32), vi q6, vi q7, vi q8, vi q9, vi w154_0, vi w156_0, vi w158_0, vi w160_0, vi w162_0, vi w164_0, vi w166_0, vi w168_0, vr b375, .unset, .unset, .unset] [(.ref r_379), (.ref r_378), (.ref b377), (.ref b377), (.ref b375)]))
                          refine Go.by' (fun t k => (XS.iload X379.here hx rfl (hb hby at_253) rfl k)) ?_
                          have c381 := ((A377.keep K378).keep K379)
                          have c382 := ((Fn377_85.keep K378 nin0).keep K379 nin0)
                          have c383 := ((Fn377_87.keep K378 nin0).keep K379 nin0)
                          have c384 := ((Fn377_89.keep K378 nin0).keep K379 nin0)
                          obtain ⟨_, _, ⟨T380, L380, k380, n380⟩, -, X380, ⟨Lc380, hQ380, l380, y380, z380⟩, st380⟩ := X379.specialBack hx (y := (⟨"com/example/slatewipe/slatewipe/vendors/mariadb/Columns$Column", "<init>", "(Ljava/lang/String;Ljava/lang/String;Z)V"⟩ : MethodName)) rfl hown (mvT hZ hw75) (mvT hZ hw76) (mvT hZ hw77) (by decide) (backOf (W := 2) (rmCol l Z a0 hw [] wD kD vcs G b377 r_378 r_379 w162_0 T379.heap n0 O379 c381 c382 c383 c384 g_b377 bw162_0) hZ hw77 hw28 (by decide) (by decide)) (g := (mkF m 255 #[vi is, vi ia, vi ib, vi (2 : Int32), vi (0 : Int32), vi (0 : Int32), vi q6, vi q7, vi q8, vi q9, vi w154_0, vi w156_0, vi w158_0, vi w160_0, vi w162_0, vi w164_0, vi w166_0, vi w168_0, vr b375, .unset, .unset, .unset] [(.int w162_0), (.ref r_379), (.ref r_378), (.ref b377), (.ref b377), (.ref b375)])) rfl (by rw [hml]; rfl) (Steps.refl _) (a := b377) (argsL := [(.ref r_378), (.ref r_379), (.int w162_0)]) (rest := [(.ref b377), (.ref b375)]) (lenOf pd_17 rfl) rfl (by show 2 * 0 + _ ≤ _; exact Nat.le_of_eq rfl) (hb hby at_255) (fun _ _ => ⟨rfl, rfl, (by decide : 8 + 0 ≤ _), (by decide : 18 + 0 ≤ _)⟩)
                          dsimp only [Pt.U, Pt.locs, Pt.cells, Pt.slots] at X380 l380 y380 z380 st380 hQ380
                          subst l380 y380 z380
                          obtain ⟨rfl, N380q, K380, f380_0, f380_1, f380_2⟩ := hQ380
                          have N380 := Fr.app N379 N380q
                          obtain ⟨lc380, X380, N380⟩ := own_pack X380 N380
                          refine Go.by' (fun t k => st380.trans k) ?_
                          have O380 := O379.keep K380 (allS g_b377 all0)
                          have KC380 : Keep h0 T380.heap [] := KC379.trans K380 (allS (Or.inr sz_b377) all0)
                          have c386 := ((((f376_0.ext E377).keep K378).keep K379).keep K380)
                          have c387 := ((((f376_3.ext E377).keep K378 nin0).keep K379 nin0).keep K380 (ninS (Nat.ne_of_lt (Nat.lt_of_lt_of_le (Nat.lt_of_lt_of_le A375.lt K376.1) (Nat.le_of_eq g377.symm))) nin0))
                          have c388 := ((((f376_2.ext E377).keep K378 nin0).keep K379 nin0).keep K380 (ninS (Nat.ne_of_lt (Nat.lt_of_lt_of_le (Nat.lt_of_lt_of_le A375.lt K376.1) (Nat.le_of_eq g377.symm))) nin0))
                          have c389 := ((((f376_1.ext E377).keep K378 nin0).keep K379 nin0).keep K380 (ninS (Nat.ne_of_lt (Nat.lt_of_lt_of_le (Nat.lt_of_lt_of_le A375.lt K376.1) (Nat.le_of_eq g377.symm))) nin0))
                          obtain ⟨cq385, kq385, q385a, q385b, q385c⟩ := isOf hZ rfl c386
                          obtain ⟨_, _, ⟨T385, L385, k385, n385⟩, -, X385, ⟨Lc385, hQ385, l385, y385, z385⟩, st385⟩ := X380.interfaceBack hx (xi := (⟨"java/util/List", "add", "(Ljava/lang/Object;)Z"⟩ : MethodName)) (y := (⟨"java/util/ArrayList", "add", "(Ljava/lang/Object;)Z"⟩ : MethodName)) hown (mvT hZ hw90) (mvT hZ hw91) (mvT hZ hw92) (mvT hZ hw93) (mvT hZ hw94) (mvT hZ hw95) (mvT hZ hw96) (mvT hZ hw37) (by decide) (backOf (W := 0) (rmA1_0 l Z a0 hw [] wD kD vcs G b375 b377 ((0 : Int32)) T380.heap n0 O380 c386 c387 c388 c389 g_b375 f380_0) hZ hw97 hw2 (by decide) (by decide)) q385a q385b q385c (g := (mkF m 258 #[vi is, vi ia, vi ib, vi (2 : Int32), vi (0 : Int32), vi (0 : Int32), vi q6, vi q7, vi q8, vi q9, vi w154_0, vi w156_0, vi w158_0, vi w160_0, vi w162_0, vi w164_0, vi w166_0, vi w168_0, vr b375, .unset, .unset, .unset] [(.ref b377), (.ref b375)])) rfl (by rw [hml]; rfl) (Steps.refl _) (argsL := [(.ref b377)]) (rest := []) (lenOf pd_14 rfl) rfl (by show 2 * 0 + _ ≤ _; exact Nat.le_of_eq rfl) (hb hby at_258) (fun _ _ => ⟨rfl, rfl, (by decide : 8 + 1 ≤ _), (by decide : 18 + 10 ≤ _)⟩)
                          dsimp only [Pt.U, Pt.locs, Pt.cells, Pt.slots] at X385 l385 y385 z385 st385 hQ385
                          subst l385 y385 z385
                          obtain ⟨r_385, kk_385, rfl, N385q, K385, f385_0, f385_1, f385_2, f385_3, f385_4, f385_5, r385_0⟩ := hQ385
                          have N385 := Fr.app N380 N385q
                          obtain ⟨lc385, X385, N385⟩ := own_pack X385 N385
                          refine Go.by' (fun t k => st385.trans k) ?_
                          have g_r_385 : n0 ≤ r_385 := Nat.le_trans (own_le O380) f385_1
                          have sz_r_385 : h0.size ≤ r_385 := Nat.le_trans KC380.1 f385_1
                          have O385 := O380.keep K385 (allS g_b375 all0)
                          have KC385 : Keep h0 T385.heap [] := KC380.trans K385 (allS (Or.inr sz_b375) all0)
                          show Go p.tables e below Pf (T385.setTop (mkF m 263 #[vi is, vi ia, vi ib, vi (2 : Int32), vi (0 : Int32), vi (0 : Int32), vi q6, vi q7, vi q8, vi q9, vi w154_0, vi w156_0, vi w158_0, vi w160_0, vi w162_0, vi w164_0, vi w166_0, vi w168_0, vr b375, .unset, .unset, .unset] [(.int (1 : Int32))]))
                          refine Go.by' (fun t k => (XS.pop X385.here hx rfl (hb hby at_263) rfl rfl (XS.iloadN X385.here hx rfl (hb hby at_264) rfl (XS.iconst X385.here hx rfl (hb hby at_265) (XS.icmpNo X385.here hx rfl (hb hby at_266) rfl (flt (by decide)).1 (XS.aload X385.here hx rfl (hb hby at_269) rfl rfl k)))))) ?_
                          obtain ⟨T390, h390, X390, e390, E390, A390, D390, -, st390⟩ := newO X385 hx hZ hown hw41 hw42 hw28 rfl (g := (mkF m 271 #[vi is, vi ia, vi ib, vi (2 : Int32), vi (0 : Int32), vi (0 : Int32), vi q6, vi q7, vi q8, vi q9, vi w154_0, vi w156_0, vi w158_0, vi w160_0, vi w162_0, vi w164_0, vi w166_0, vi w168_0, vr b375, .unset, .unset, .unset] [(.ref b375)])) rfl (hb hby at_271) (by decide) (by decide)
                          obtain ⟨b390, g390⟩ : ∃ z, z = T385.heap.size := ⟨_, rfl⟩
                          rw [← g390] at A390 D390 st390
                          refine Go.by' st390 ?_
                          have g_b390 : n0 ≤ b390 := Nat.le_trans (own_le O385) (Nat.le_of_eq g390.symm)
                          have sz_b390 : h0.size ≤ b390 := Nat.le_trans KC385.1 (Nat.le_of_eq g390.symm)
                          have O390 := O385.ext E390
                          have KC390 : Keep h0 h390 [] := KC385.ext E390
                          have Fn390_85 : Fld Z h390 b390 "com/example/slatewipe/slatewipe/vendors/mariadb/Columns$Column" "name" "Ljava/lang/String;" Value.null := D390 (Or.inr hw85) (ty := (.object "java/lang/String")) (by decide)
                          have Fn390_87 : Fld Z h390 b390 "com/example/slatewipe/slatewipe/vendors/mariadb/Columns$Column" "type" "Ljava/lang/String;" Value.null := D390 (Or.inr hw87) (ty := (.object "java/lang/String")) (by decide)
                          have Fn390_89 : Fld Z h390 b390 "com/example/slatewipe/slatewipe/vendors/mariadb/Columns$Column" "nullable" "Z" (Value.int (0 : Int32)) := D390 (Or.inr hw89) (ty := .boolean) (by decide)
                          show Go p.tables e below Pf (T390.setTop (mkF m 274 #[vi is, vi ia, vi ib, vi (2 : Int32), vi (0 : Int32), vi (0 : Int32), vi q6, vi q7, vi q8, vi q9, vi w154_0, vi w156_0, vi w158_0, vi w160_0, vi w162_0, vi w164_0, vi w166_0, vi w168_0, vr b375, .unset, .unset, .unset] [(.ref b390), (.ref b375)]))
                          refine Go.by' (fun t k => (XS.dup X390.here hx rfl (hb hby at_274) rfl rfl (XS.iload X390.here hx rfl (hb hby at_275) rfl k))) ?_
                          obtain ⟨_, _, ⟨T391, L391, k391, n391⟩, -, X391, ⟨Lc391, hQ391, l391, y391, z391⟩, st391⟩ := Jvm.LawKit.callS X390 hx (y := (⟨"com/example/slatewipe/slatewipe/vendors/mariadb/ColumnSameTypesPinLaw", "str", "(I)Ljava/lang/String;"⟩ : MethodName)) hown (mvT hZ hw43) (mvT hZ hw44) (mvT hZ hw45) (mvT hZ hw46) (by decide) (backOf (W := 3) (rmStr l Z a0 hw [] wD kD vcs G q8 h390 n0 O390 bd8.1 bd8.2) hZ hw46 hw45 (by decide) (by decide)) (g := (mkF m 277 #[vi is, vi ia, vi ib, vi (2 : Int32), vi (0 : Int32), vi (0 : Int32), vi q6, vi q7, vi q8, vi q9, vi w154_0, vi w156_0, vi w158_0, vi w160_0, vi w162_0, vi w164_0, vi w166_0, vi w168_0, vr b375, .unset, .unset, .unset] [(.int q8), (.ref b390), (.ref b390), (.ref b375)])) rfl (by rw [hml]; rfl) (argsL := [(.int q8)]) (rest := [(.ref b390), (.ref b390), (.ref b375)]) (lenOf pd_16 rfl) rfl (by show 2 * 0 + _ ≤ _; exact Nat.le_of_eq rfl) (hb hby at_277) (fun _ _ => ⟨rfl, e390, (by decide : 10 + 3 ≤ _), (by decide : 31 + 6 ≤ _)⟩)
                          dsimp only [Pt.U, Pt.locs, Pt.cells, Pt.slots] at X391 l391 y391 z391 st391 hQ391
                          subst l391 y391 z391
                          obtain ⟨r_391, rb_391, kb_391, rfl, N391q, K391, f391_0, f391_1, f391_2, f391_3, f391_4, f391_5⟩ := hQ391
                          have N391 := Fr.app N385 N391q
                          obtain ⟨lc391, X391, N391⟩ := own_pack X391 N391
                          refine Go.by' st391 ?_
                          have g_r_391 : n0 ≤ r_391 := Nat.le_trans (own_le O390) f391_1
                          have sz_r_391 : h0.size ≤ r_391 := Nat.le_trans KC390.1 f391_1
                          have g_rb_391 : n0 ≤ rb_391 := Nat.le_trans (own_le O390) f391_5
                          have sz_rb_391 : h0.size ≤ rb_391 := Nat.le_trans KC390.1 f391_5
                          have O391 := O390.keep K391 all0
                          have KC391 : Keep h0 T391.heap [] := KC390.trans K391 all0
                          show Go p.tables e below Pf (T391.setTop (mkF m 280 #[vi is, vi ia, vi ib, vi (2 : Int32), vi (0 : Int32), vi (0 : Int32), vi q6, vi q7, vi q8, vi q9, vi w154_0, vi w156_0, vi w158_0, vi w160_0, vi w162_0, vi w164_0, vi w166_0, vi w168_0, vr b375, .unset, .unset, .unset] [(.ref r_391), (.ref b390), (.ref b390), (.ref b375)]))
                          refine Go.by' (fun t k => (XS.iload X391.here hx rfl (hb hby at_280) rfl k)) ?_
                          obtain ⟨_, _, ⟨T392, L392, k392, n392⟩, -, X392, ⟨Lc392, hQ392, l392, y392, z392⟩, st392⟩ := Jvm.LawKit.callS X391 hx (y := (⟨"com/example/slatewipe/slatewipe/vendors/mariadb/ColumnSameTypesPinLaw", "str", "(I)Ljava/lang/String;"⟩ : MethodName)) hown (mvT hZ hw43) (mvT hZ hw44) (mvT hZ hw45) (mvT hZ hw46) (by decide) (backOf (W := 4) (rmStr l Z a0 hw [] wD kD vcs G q9 T391.heap n0 O391 bd9.1 bd9.2) hZ hw46 hw45 (by decide) (by decide)) (g := (mkF m 282 #[vi is, vi ia, vi ib, vi (2 : Int32), vi (0 : Int32), vi (0 : Int32), vi q6, vi q7, vi q8, vi q9, vi w154_0, vi w156_0, vi w158_0, vi w160_0, vi w162_0, vi w164_0, vi w166_0, vi w168_0, vr b375, .unset, .unset, .unset] [(.int q9), (.ref r_391), (.ref b390), (.ref b390), (.ref b375)])) rfl (by rw [hml]; rfl) (argsL := [(.int q9)]) (rest := [(.ref r_391), (.ref b390), (.ref b390), (.ref b375)]) (lenOf pd_16 rfl) rfl (by show 2 * 0 + _ ≤ _; exact Nat.le_of_eq rfl) (hb hby at_282) (fun _ _ => ⟨rfl, rfl, (by decide : 13 + 3 ≤ _), (by decide : 37 + 6 ≤ _)⟩)
                          dsimp only [Pt.U, Pt.locs, Pt.cells, Pt.slots] at X392 l392 y392 z392 st392 hQ392
                          subst l392 y392 z392
                          obtain ⟨r_392, rb_392, kb_392, rfl, N392q, K392, f392_0, f392_1, f392_2, f392_3, f392_4, f392_5⟩ := hQ392
                          have N392 := Fr.app N391 N392q
                          obtain ⟨lc392, X392, N392⟩ := own_pack X392 N392
                          refine Go.by' st392 ?_
                          have g_r_392 : n0 ≤ r_392 := Nat.le_trans (own_le O391) f392_1
                          have sz_r_392 : h0.size ≤ r_392 := Nat.le_trans KC391.1 f392_1
                          have g_rb_392 : n0 ≤ rb_392 := Nat.le_trans (own_le O391) f392_5
                          have sz_rb_392 : h0.size ≤ rb_392 := Nat.le_trans KC391.1 f392_5
                          have O392 := O391.keep K392 all0
                          have KC392 : Keep h0 T392.heap [] := KC391.trans K392 all0
                          show Go p.tables e below Pf (T392.setTop (mkF m 285 #[vi is, vi ia, vi ib, vi (2 : Int32), vi (0 : Int32), vi (0 : Int32), vi q6, vi q7, vi q8, vi q9, vi w154_0, vi w156_0, vi w158_0, vi w160_0, vi w162_0, vi w164_0, vi w166_0, vi w168_0, vr b375, .unset, .unset, .unset] [(.ref r_392), (.ref r_391), (.ref b390), (.ref b390), (.ref b375)]))
                          refine Go.by' (fun t k => (XS.iload X392.here hx rfl (hb hby at_285) rfl k)) ?_
                          have c394 := ((A390.keep K391).keep K392)
                          have c395 := ((Fn390_85.keep K391 nin0).keep K392 nin0)
                          have c396 := ((Fn390_87.keep K391 nin0).keep K392 nin0)
                          have c397 := ((Fn390_89.keep K391 nin0).keep K392 nin0)
                          obtain ⟨_, _, ⟨T393, L393, k393, n393⟩, -, X393, ⟨Lc393, hQ393, l393, y393, z393⟩, st393⟩ := X392.specialBack hx (y := (⟨"com/example/slatewipe/slatewipe/vendors/mariadb/Columns$Column", "<init>", "(Ljava/lang/String;Ljava/lang/String;Z)V"⟩ : MethodName)) rfl hown (mvT hZ hw75) (mvT hZ hw76) (mvT hZ hw77) (by decide) (backOf (W := 2) (rmCol l Z a0 hw [] wD kD vcs G b390 r_391 r_392 w164_0 T392.heap n0 O392 c394 c395 c396 c397 g_b390 bw164_0) hZ hw77 hw28 (by decide) (by decide)) (g := (mkF m 287 #[vi is, vi ia, vi ib, vi (2 : Int32), vi (0 : Int32), vi (0 : Int32), vi q6, vi q7, vi q8, vi q9, vi w154_0, vi w156_0, vi w158_0, vi w160_0, vi w162_0, vi w164_0, vi w166_0, vi w168_0, vr b375, .unset, .unset, .unset] [(.int w164_0), (.ref r_392), (.ref r_391), (.ref b390), (.ref b390), (.ref b375)])) rfl (by rw [hml]; rfl) (Steps.refl _) (a := b390) (argsL := [(.ref r_391), (.ref r_392), (.int w164_0)]) (rest := [(.ref b390), (.ref b375)]) (lenOf pd_17 rfl) rfl (by show 2 * 0 + _ ≤ _; exact Nat.le_of_eq rfl) (hb hby at_287) (fun _ _ => ⟨rfl, rfl, (by decide : 16 + 0 ≤ _), (by decide : 43 + 0 ≤ _)⟩)
                          dsimp only [Pt.U, Pt.locs, Pt.cells, Pt.slots] at X393 l393 y393 z393 st393 hQ393
                          subst l393 y393 z393
                          obtain ⟨rfl, N393q, K393, f393_0, f393_1, f393_2⟩ := hQ393
                          have N393 := Fr.app N392 N393q
                          obtain ⟨lc393, X393, N393⟩ := own_pack X393 N393
                          refine Go.by' (fun t k => st393.trans k) ?_
                          have O393 := O392.keep K393 (allS g_b390 all0)
                          have KC393 : Keep h0 T393.heap [] := KC392.trans K393 (allS (Or.inr sz_b390) all0)
                          have c399 := ((((f385_0.ext E390).keep K391 nin0).keep K392 nin0).keep K393 (ninS (Nat.ne_of_lt (Nat.lt_of_lt_of_le f385_0.lt (Nat.le_of_eq g390.symm))) nin0))
                          have c400 := ((((f385_2.ext E390).keep K391).keep K392).keep K393)
                          have c401 := ((((f385_4.ext E390).keep K391 nin0).keep K392 nin0).keep K393 (ninS (Nat.ne_of_lt (Nat.lt_of_lt_of_le (Nat.lt_of_lt_of_le A375.lt (Nat.le_trans K376.1 (Nat.le_trans E377.1 (Nat.le_trans K378.1 (Nat.le_trans K379.1 (Nat.le_trans K380.1 K385.1)))))) (Nat.le_of_eq g390.symm))) nin0))
                          have c402 := ((((f385_3.ext E390).keep K391 nin0).keep K392 nin0).keep K393 (ninS (Nat.ne_of_lt (Nat.lt_of_lt_of_le (Nat.lt_of_lt_of_le A375.lt (Nat.le_trans K376.1 (Nat.le_trans E377.1 (Nat.le_trans K378.1 (Nat.le_trans K379.1 (Nat.le_trans K380.1 K385.1)))))) (Nat.le_of_eq g390.symm))) nin0))
                          have c403 := ((((f385_5.ext E390).keep K391 nin0).keep K392 nin0).keep K393 (ninS (Nat.ne_of_lt (Nat.lt_of_lt_of_le (Nat.lt_of_lt_of_le A375.lt (Nat.le_trans K376.1 (Nat.le_trans E377.1 (Nat.le_trans K378.1 (Nat.le_trans K379.1 (Nat.le_trans K380.1 K385.1)))))) (Nat.le_of_eq g390.symm))) nin0))
                          obtain ⟨cq398, kq398, q398a, q398b, q398c⟩ := isOf hZ rfl c400
                          obtain ⟨_, _, ⟨T398, L398, k398, n398⟩, -, X398, ⟨Lc398, hQ398, l398, y398, z398⟩, st398⟩ := X393.interfaceBack hx (xi := (⟨"java/util/List", "add", "(Ljava/lang/Object;)Z"⟩ : MethodName)) (y := (⟨"java/util/ArrayList", "add", "(Ljava/lang/Object;)Z"⟩ : MethodName)) hown (mvT hZ hw90) (mvT hZ hw91) (mvT hZ hw92) (mvT hZ hw93) (mvT hZ hw94) (mvT hZ hw95) (mvT hZ hw96) (mvT hZ hw37) (by decide) (backOf (W := 0) (rmA1_1 l Z a0 hw [] wD kD vcs G b375 b390 (((0 : Int32) + (1 : Int32))) r_385 kk_385 b377 T393.heap n0 O393 c400 c401 c402 c403 g_b375 g_r_385 c399 f393_0 (Nat.ne_of_lt (Nat.lt_of_lt_of_le (Nat.lt_of_lt_of_le A375.lt (Nat.le_trans K376.1 (Nat.le_trans E377.1 (Nat.le_trans K378.1 (Nat.le_trans K379.1 K380.1))))) f385_1)) r385_0) hZ hw97 hw2 (by decide) (by decide)) q398a q398b q398c (g := (mkF m 290 #[vi is, vi ia, vi ib, vi (2 : Int32), vi (0 : Int32), vi (0 : Int32), vi q6, vi q7, vi q8, vi q9, vi w154_0, vi w156_0, vi w158_0, vi w160_0, vi w162_0, vi w164_0, vi w166_0, vi w168_0, vr b375, .unset, .unset, .unset] [(.ref b390), (.ref b375)])) rfl (by rw [hml]; rfl) (Steps.refl _) (argsL := [(.ref b390)]) (rest := []) (lenOf pd_14 rfl) rfl (by show 2 * 0 + _ ≤ _; exact Nat.le_of_eq rfl) (hb hby at_290) (fun _ _ => ⟨rfl, rfl, (by decide : 16 + 0 ≤ _), (by decide : 43 + 0 ≤ _)⟩)
                          dsimp only [Pt.U, Pt.locs, Pt.cells, Pt.slots] at X398 l398 y398 z398 st398 hQ398
                          subst l398 y398 z398
                          obtain ⟨rfl, N398q, K398, f398_0, f398_1, f398_2, f398_3, f398_4⟩ := hQ398
                          have N398 := Fr.app N393 N398q
                          obtain ⟨lc398, X398, N398⟩ := own_pack X398 N398
                          refine Go.by' (fun t k => st398.trans k) ?_
                          have O398 := O393.keep K398 (allS g_b375 (allS g_r_385 all0))
                          have KC398 : Keep h0 T398.heap [] := KC393.trans K398 (allS (Or.inr sz_b375) (allS (Or.inr sz_r_385) all0))
                          show Go p.tables e below Pf (T398.setTop (mkF m 295 #[vi is, vi ia, vi ib, vi (2 : Int32), vi (0 : Int32), vi (0 : Int32), vi q6, vi q7, vi q8, vi q9, vi w154_0, vi w156_0, vi w158_0, vi w160_0, vi w162_0, vi w164_0, vi w166_0, vi w168_0, vr b375, .unset, .unset, .unset] [(.int (1 : Int32))]))
                          refine Go.by' (fun t k => (XS.pop X398.here hx rfl (hb hby at_295) rfl rfl (XS.aconstNull X398.here hx rfl (hb hby at_296) (XS.astore X398.here hx rfl (hb hby at_297) rfl rfl (l' := #[vi is, vi ia, vi ib, vi (2 : Int32), vi (0 : Int32), vi (0 : Int32), vi q6, vi q7, vi q8, vi q9, vi w154_0, vi w156_0, vi w158_0, vi w160_0, vi w162_0, vi w164_0, vi w166_0, vi w168_0, vr b375, .val .null, .unset, .unset]) rfl (XS.iload X398.here hx rfl (hb hby at_299) rfl (XS.ifNo X398.here hx rfl (hb hby at_301) rfl ((if0 _ _).trans (teq (by decide)).2) k)))))) ?_
                          obtain ⟨T404, h404, X404, e404, E404, A404, D404, -, st404⟩ := newO X398 hx hZ hown hw0 hw1 hw2 rfl (g := (mkF m 304 #[vi is, vi ia, vi ib, vi (2 : Int32), vi (0 : Int32), vi (0 : Int32), vi q6, vi q7, vi q8, vi q9, vi w154_0, vi w156_0, vi w158_0, vi w160_0, vi w162_0, vi w164_0, vi w166_0, vi w168_0, vr b375, .val .null, .unset, .unset] [])) rfl (hb hby at_304) (by decide) (by decide)
                          obtain ⟨b404, g404⟩ : ∃ z, z = T398.heap.size := ⟨_, rfl⟩
                          rw [← g404] at A404 D404 st404
                          refine Go.by' st404 ?_
                          have g_b404 : n0 ≤ b404 := Nat.le_trans (own_le O398) (Nat.le_of_eq g404.symm)
                          have sz_b404 : h0.size ≤ b404 := Nat.le_trans KC398.1 (Nat.le_of_eq g404.symm)
                          have O404 := O398.ext E404
                          have KC404 : Keep h0 h404 [] := KC398.ext E404
                          have Fn404_22 : Fld Z h404 b404 "java/util/AbstractList" "modCount" "I" (Value.int (0 : Int32)) := D404 (Or.inl hw22) (ty := .int) (by decide)
                          have Fn404_25 : Fld Z h404 b404 "java/util/ArrayList" "elementData" "[Ljava/lang/Object;" Value.null := D404 (Or.inl hw25) (ty := (.array (.object "java/lang/Object"))) (by decide)
                          have Fn404_40 : Fld Z h404 b404 "java/util/ArrayList" "size" "I" (Value.int (0 : Int32)) := D404 (Or.inl hw40) (ty := .int) (by decide)
                          show Go p.tables e below Pf (T404.setTop (mkF m 307 #[vi is, vi ia, vi ib, vi (2 : Int32), vi (0 : Int32), vi (0 : Int32), vi q6, vi q7, vi q8, vi q9, vi w154_0, vi w156_0, vi w158_0, vi w160_0, vi w162_0, vi w164_0, vi w166_0, vi w168_0, vr b375, .val .null, .unset, .unset] [(.ref b404)]))
                          refine Go.by' (fun t k => (XS.dup X404.here hx rfl (hb hby at_307) rfl rfl k)) ?_
                          obtain ⟨_, _, ⟨T405, L405, k405, n405⟩, -, X405, ⟨Lc405, hQ405, l405, y405, z405⟩, st405⟩ := X404.specialBack hx (y := (⟨"java/util/ArrayList", "<init>", "()V"⟩ : MethodName)) rfl hown (mvT hZ hw3) (mvT hZ hw4) (mvT hZ hw5) (by decide) (backOf (W := 1) (rmAL l Z a0 hw [] wD kD vcs G b404 h404 n0 O404 A404 Fn404_22 Fn404_25 Fn404_40 g_b404) hZ hw5 hw2 (by decide) (by decide)) (g := (mkF m 308 #[vi is, vi ia, vi ib, vi (2 : Int32), vi (0 : Int32), vi (0 : Int32), vi q6, vi q7, vi q8, vi q9, vi w154_0, vi w156_0, vi w158_0, vi w160_0, vi w162_0, vi w164_0, vi w166_0, vi w168_0, vr b375, .val .null, .unset, .unset] [(.ref b404), (.ref b404)])) rfl (by rw [hml]; rfl) (Steps.refl _) (a := b404) (argsL := []) (rest := [(.ref b404)]) (lenOf pd_5 rfl) rfl (by show 2 * 0 + _ ≤ _; exact Nat.le_of_eq rfl) (hb hby at_308) (fun _ _ => ⟨rfl, e404, (by decide : 17 + 0 ≤ _), (by decide : 46 + 0 ≤ _)⟩)
                          dsimp only [Pt.U, Pt.locs, Pt.cells, Pt.slots] at X405 l405 y405 z405 st405 hQ405
                          subst l405 y405 z405
                          obtain ⟨rfl, N405q, K405, f405_0, f405_1, f405_2, f405_3⟩ := hQ405
                          have N405 := Fr.app N398 N405q
                          obtain ⟨lc405, X405, N405⟩ := own_pack X405 N405
                          refine Go.by' (fun t k => st405.trans k) ?_
                          have O405 := O404.keep K405 (allS g_b404 all0)
                          have KC405 : Keep h0 T405.heap [] := KC404.trans K405 (allS (Or.inr sz_b404) all0)
                          show Go p.tables e below Pf (T405.setTop (mkF m 311 #[vi is, vi ia, vi ib, vi (2 : Int32), vi (0 : Int32), vi (0 : Int32), vi q6, vi q7, vi q8, vi q9, vi w154_0, vi w156_0, vi w158_0, vi w160_0, vi w162_0, vi w164_0, vi w166_0, vi w168_0, vr b375, .val .null, .unset, .unset] [(.ref b404)]))
                          refine Go.by' (fun t k => (XS.astore X405.here hx rfl (hb hby at_311) rfl rfl (l' := #[vi is, vi ia, vi ib, vi (2 : Int32), vi (0 : Int32), vi (0 : Int32), vi q6, vi q7, vi q8, vi q9, vi w154_0, vi w156_0, vi w158_0, vi w160_0, vi w162_0, vi w164_0, vi w166_0, vi w168_0, vr b375, vr b404, .unset, .unset]) rfl (XS.iload X405.here hx rfl (hb hby at_313) rfl (XS.iconst X405.here hx rfl (hb hby at_315) (XS.icmpYes X405.here hx rfl (pc0 := 316) (pc' := 346) rfl (hb hby at_316) rfl (tlt (by decide)).1 (by decide) (by decide) (XS.iload X405.here hx rfl (hb hby at_346) rfl (XS.iconst X405.here hx rfl (hb hby at_348) (XS.icmpYes X405.here hx rfl (pc0 := 349) (pc' := 379) rfl (hb hby at_349) rfl (tlt (by decide)).1 (by decide) (by decide) (XS.aload X405.here hx rfl (hb hby at_379) rfl rfl k))))))))) ?_
                          show Go p.tables e below Pf (T405.setTop (mkF m 381 #[vi is, vi ia, vi ib, vi (2 : Int32), vi (0 : Int32), vi (0 : Int32), vi q6, vi q7, vi q8, vi q9, vi w154_0, vi w156_0, vi w158_0, vi w160_0, vi w162_0, vi w164_0, vi w166_0, vi w168_0, vr b375, vr b404, .unset, .unset] [(.ref b375)]))
                          refine Go.by' (fun t k => (XS.aload X405.here hx rfl (hb hby at_381) rfl rfl k)) ?_
                          have c407 := ((f398_1.ext E404).keep K405)
                          have c408 := ((f398_3.ext E404).keep K405 (ninS (Nat.ne_of_lt (Nat.lt_of_lt_of_le (Nat.lt_of_lt_of_le A375.lt (Nat.le_trans K376.1 (Nat.le_trans E377.1 (Nat.le_trans K378.1 (Nat.le_trans K379.1 (Nat.le_trans K380.1 (Nat.le_trans K385.1 (Nat.le_trans E390.1 (Nat.le_trans K391.1 (Nat.le_trans K392.1 (Nat.le_trans K393.1 K398.1))))))))))) (Nat.le_of_eq g404.symm))) nin0))
                          obtain ⟨_, _, ⟨T406, L406, k406, n406⟩, -, X406, ⟨Lc406, hQ406, l406, y406, z406⟩, st406⟩ := Jvm.LawKit.callS X405 hx (y := (⟨"com/example/slatewipe/slatewipe/vendors/mariadb/Columns$Column", "sameTypes", "(Ljava/util/List;Ljava/util/List;)Z"⟩ : MethodName)) hown (mvT hZ hw26) (mvT hZ hw27) (mvT hZ hw28) (mvT hZ hw29) (by decide) (backOf (W := 0) (rmTd l Z a0 hw [] wD kD vcs G b375 b404 ((2 : Int32)) ((0 : Int32)) T405.heap n0 O405 c407 f405_0 c408 f405_3 (by decide)) hZ hw29 hw28 (by decide) (by decide)) (g := (mkF m 383 #[vi is, vi ia, vi ib, vi (2 : Int32), vi (0 : Int32), vi (0 : Int32), vi q6, vi q7, vi q8, vi q9, vi w154_0, vi w156_0, vi w158_0, vi w160_0, vi w162_0, vi w164_0, vi w166_0, vi w168_0, vr b375, vr b404, .unset, .unset] [(.ref b404), (.ref b375)])) rfl (by rw [hml]; rfl) (argsL := [(.ref b375), (.ref b404)]) (rest := []) (lenOf pd_15 rfl) rfl (by show 2 * 0 + _ ≤ _; exact Nat.le_of_eq rfl) (hb hby at_383) (fun _ _ => ⟨rfl, rfl, (by decide : 17 + 0 ≤ _), (by decide : 46 + 0 ≤ _)⟩)
                          dsimp only [Pt.U, Pt.locs, Pt.cells, Pt.slots] at X406 l406 y406 z406 st406 hQ406
                          subst l406 y406 z406
                          obtain ⟨rfl, rfl, e406⟩ := hQ406
                          try replace X406 := own_nil X406
                          refine Go.by' st406 ?_
                          show Go p.tables e below Pf (T406.setTop (mkF m 386 #[vi is, vi ia, vi ib, vi (2 : Int32), vi (0 : Int32), vi (0 : Int32), vi q6, vi q7, vi q8, vi q9, vi w154_0, vi w156_0, vi w158_0, vi w160_0, vi w162_0, vi w164_0, vi w166_0, vi w168_0, vr b375, vr b404, .unset, .unset] [(.int (0 : Int32))]))
                          refine Go.by' (fun t k => (XS.istore X406.here hx rfl (hb hby at_386) rfl (l' := #[vi is, vi ia, vi ib, vi (2 : Int32), vi (0 : Int32), vi (0 : Int32), vi q6, vi q7, vi q8, vi q9, vi w154_0, vi w156_0, vi w158_0, vi w160_0, vi w162_0, vi w164_0, vi w166_0, vi w168_0, vr b375, vr b404, vi (0 : Int32), .unset]) rfl (XS.iload X406.here hx rfl (hb hby at_388) rfl (XS.ifYes X406.here hx rfl (pc0 := 390) (pc' := 399) rfl (hb hby at_390) rfl ((if0 _ _).trans (teq (by decide)).1) (by decide) (by decide) (XS.iloadN X406.here hx rfl (hb hby at_399) rfl (XS.iload X406.here hx rfl (hb hby at_400) rfl (XS.icmpNo X406.here hx rfl (hb hby at_402) rfl (feq (by decide)).1 (XS.iconst X406.here hx rfl (hb hby at_405) (XS.istore X406.here hx rfl (hb hby at_406) rfl (l' := #[vi is, vi ia, vi ib, vi (2 : Int32), vi (0 : Int32), vi (0 : Int32), vi q6, vi q7, vi q8, vi q9, vi w154_0, vi w156_0, vi w158_0, vi w160_0, vi w162_0, vi w164_0, vi w166_0, vi w168_0, vr b375, vr b404, vi (0 : Int32), vi (0 : Int32)]) rfl k))))))))) ?_
                          show Go p.tables e below Pf (T406.setTop (mkF m 408 #[vi is, vi ia, vi ib, vi (2 : Int32), vi (0 : Int32), vi (0 : Int32), vi q6, vi q7, vi q8, vi q9, vi w154_0, vi w156_0, vi w158_0, vi w160_0, vi w162_0, vi w164_0, vi w166_0, vi w168_0, vr b375, vr b404, vi (0 : Int32), vi (0 : Int32)] []))
                          refine Go.by' (fun t k => (XS.goto X406.here hx rfl (pc0 := 408) (pc' := 471) rfl (hb hby at_408) (by decide) (by decide) (XS.iload X406.here hx rfl (hb hby at_471) rfl (XS.iload X406.here hx rfl (hb hby at_473) rfl (XS.icmpNo X406.here hx rfl (hb hby at_475) rfl (teq (by decide)).2 (XS.iconst X406.here hx rfl (hb hby at_478) (XS.goto X406.here hx rfl (pc0 := 479) (pc' := 483) rfl (hb hby at_479) (by decide) (by decide) k))))))) ?_
                          show Go p.tables e below Pf (T406.setTop (mkF m 483 #[vi is, vi ia, vi ib, vi (2 : Int32), vi (0 : Int32), vi (0 : Int32), vi q6, vi q7, vi q8, vi q9, vi w154_0, vi w156_0, vi w158_0, vi w160_0, vi w162_0, vi w164_0, vi w166_0, vi w168_0, vr b375, vr b404, vi (0 : Int32), vi (0 : Int32)] [(.int (1 : Int32))]))
                          rw [hPf]
                          exact Go.retI' X406 hx hret hlk (by simp) rfl (hb hby at_483) (by decide) (by decide) ⟨rfl, N405, (by rw [e406]; exact KC405)⟩
                        · refine Go.castF (a := ((((is.toUInt32 >>> ((2 : Int32) &&& 31).toUInt32).toInt32) &&& (3 : Int32)) % (3 : Int32))) (b := (1 : Int32)) (fun z' : Int32 => mkF m 223 #[vi is, vi ia, vi ib, vi (2 : Int32), vi z', vi (0 : Int32), vi q6, vi q7, vi q8, vi q9, vi w154_0, vi w156_0, vi w158_0, vi w160_0, vi w162_0, vi w164_0, vi w166_0, vi w168_0, .unset, .unset, .unset, .unset] []) (hm) ?_
                          obtain ⟨T409, h409, X409, e409, E409, A409, D409, -, st409⟩ := newO X168 hx hZ hown hw0 hw1 hw2 e168 (g := (mkF m 223 #[vi is, vi ia, vi ib, vi (2 : Int32), vi (1 : Int32), vi (0 : Int32), vi q6, vi q7, vi q8, vi q9, vi w154_0, vi w156_0, vi w158_0, vi w160_0, vi w162_0, vi w164_0, vi w166_0, vi w168_0, .unset, .unset, .unset, .unset] [])) rfl (hb hby at_223) (by decide) (by decide)
                          obtain ⟨b409, g409⟩ : ∃ z, z = h0.size := ⟨_, rfl⟩
                          rw [← g409] at A409 D409 st409
                          refine Go.by' st409 ?_
                          have g_b409 : n0 ≤ b409 := Nat.le_trans (own_le O0) (Nat.le_of_eq g409.symm)
                          have sz_b409 : h0.size ≤ b409 := Nat.le_trans KC0.1 (Nat.le_of_eq g409.symm)
                          have O409 := O0.ext E409
                          have KC409 : Keep h0 h409 [] := KC0.ext E409
                          have Fn409_22 : Fld Z h409 b409 "java/util/AbstractList" "modCount" "I" (Value.int (0 : Int32)) := D409 (Or.inl hw22) (ty := .int) (by decide)
                          have Fn409_25 : Fld Z h409 b409 "java/util/ArrayList" "elementData" "[Ljava/lang/Object;" Value.null := D409 (Or.inl hw25) (ty := (.array (.object "java/lang/Object"))) (by decide)
                          have Fn409_40 : Fld Z h409 b409 "java/util/ArrayList" "size" "I" (Value.int (0 : Int32)) := D409 (Or.inl hw40) (ty := .int) (by decide)
                          show Go p.tables e below Pf (T409.setTop (mkF m 226 #[vi is, vi ia, vi ib, vi (2 : Int32), vi (1 : Int32), vi (0 : Int32), vi q6, vi q7, vi q8, vi q9, vi w154_0, vi w156_0, vi w158_0, vi w160_0, vi w162_0, vi w164_0, vi w166_0, vi w168_0, .unset, .unset, .unset, .unset] [(.ref b409)]))
                          refine Go.by' (fun t k => (XS.dup X409.here hx rfl (hb hby at_226) rfl rfl k)) ?_
                          obtain ⟨_, _, ⟨T410, L410, k410, n410⟩, -, X410, ⟨Lc410, hQ410, l410, y410, z410⟩, st410⟩ := X409.specialBack hx (y := (⟨"java/util/ArrayList", "<init>", "()V"⟩ : MethodName)) rfl hown (mvT hZ hw3) (mvT hZ hw4) (mvT hZ hw5) (by decide) (backOf (W := 1) (rmAL l Z a0 hw [] wD kD vcs G b409 h409 n0 O409 A409 Fn409_22 Fn409_25 Fn409_40 g_b409) hZ hw5 hw2 (by decide) (by decide)) (g := (mkF m 227 #[vi is, vi ia, vi ib, vi (2 : Int32), vi (1 : Int32), vi (0 : Int32), vi q6, vi q7, vi q8, vi q9, vi w154_0, vi w156_0, vi w158_0, vi w160_0, vi w162_0, vi w164_0, vi w166_0, vi w168_0, .unset, .unset, .unset, .unset] [(.ref b409), (.ref b409)])) rfl (by rw [hml]; rfl) (Steps.refl _) (a := b409) (argsL := []) (rest := [(.ref b409)]) (lenOf pd_5 rfl) rfl (by show 2 * 0 + _ ≤ _; exact Nat.le_of_eq rfl) (hb hby at_227) (fun _ _ => ⟨rfl, e409, (by decide : 1 + 0 ≤ _), (by decide : 3 + 0 ≤ _)⟩)
                          dsimp only [Pt.U, Pt.locs, Pt.cells, Pt.slots] at X410 l410 y410 z410 st410 hQ410
                          subst l410 y410 z410
                          obtain ⟨rfl, N410q, K410, f410_0, f410_1, f410_2, f410_3⟩ := hQ410
                          have N410 := Fr.app N0 N410q
                          obtain ⟨lc410, X410, N410⟩ := own_pack X410 N410
                          refine Go.by' (fun t k => st410.trans k) ?_
                          have O410 := O409.keep K410 (allS g_b409 all0)
                          have KC410 : Keep h0 T410.heap [] := KC409.trans K410 (allS (Or.inr sz_b409) all0)
                          show Go p.tables e below Pf (T410.setTop (mkF m 230 #[vi is, vi ia, vi ib, vi (2 : Int32), vi (1 : Int32), vi (0 : Int32), vi q6, vi q7, vi q8, vi q9, vi w154_0, vi w156_0, vi w158_0, vi w160_0, vi w162_0, vi w164_0, vi w166_0, vi w168_0, .unset, .unset, .unset, .unset] [(.ref b409)]))
                          refine Go.by' (fun t k => (XS.astore X410.here hx rfl (hb hby at_230) rfl rfl (l' := #[vi is, vi ia, vi ib, vi (2 : Int32), vi (1 : Int32), vi (0 : Int32), vi q6, vi q7, vi q8, vi q9, vi w154_0, vi w156_0, vi w158_0, vi w160_0, vi w162_0, vi w164_0, vi w166_0, vi w168_0, vr b409, .unset, .unset, .unset]) rfl (XS.iloadN X410.here hx rfl (hb hby at_232) rfl (XS.iconst X410.here hx rfl (hb hby at_233) (XS.icmpNo X410.here hx rfl (hb hby at_234) rfl (flt (by decide)).1 (XS.aload X410.here hx rfl (hb hby at_237) rfl rfl k)))))) ?_
                          obtain ⟨T411, h411, X411, e411, E411, A411, D411, -, st411⟩ := newO X410 hx hZ hown hw41 hw42 hw28 rfl (g := (mkF m 239 #[vi is, vi ia, vi ib, vi (2 : Int32), vi (1 : Int32), vi (0 : Int32), vi q6, vi q7, vi q8, vi q9, vi w154_0, vi w156_0, vi w158_0, vi w160_0, vi w162_0, vi w164_0, vi w166_0, vi w168_0, vr b409, .unset, .unset, .unset] [(.ref b409)])) rfl (hb hby at_239) (by decide) (by decide)
                          obtain ⟨b411, g411⟩ : ∃ z, z = T410.heap.size := ⟨_, rfl⟩
                          rw [← g411] at A411 D411 st411
                          refine Go.by' st411 ?_
                          have g_b411 : n0 ≤ b411 := Nat.le_trans (own_le O410) (Nat.le_of_eq g411.symm)
                          have sz_b411 : h0.size ≤ b411 := Nat.le_trans KC410.1 (Nat.le_of_eq g411.symm)
                          have O411 := O410.ext E411
                          have KC411 : Keep h0 h411 [] := KC410.ext E411
                          have Fn411_85 : Fld Z h411 b411 "com/example/slatewipe/slatewipe/vendors/mariadb/Columns$Column" "name" "Ljava/lang/String;" Value.null := D411 (Or.inr hw85) (ty := (.object "java/lang/String")) (by decide)
                          have Fn411_87 : Fld Z h411 b411 "com/example/slatewipe/slatewipe/vendors/mariadb/Columns$Column" "type" "Ljava/lang/String;" Value.null := D411 (Or.inr hw87) (ty := (.object "java/lang/String")) (by decide)
                          have Fn411_89 : Fld Z h411 b411 "com/example/slatewipe/slatewipe/vendors/mariadb/Columns$Column" "nullable" "Z" (Value.int (0 : Int32)) := D411 (Or.inr hw89) (ty := .boolean) (by decide)
                          show Go p.tables e below Pf (T411.setTop (mkF m 242 #[vi is, vi ia, vi ib, vi (2 : Int32), vi (1 : Int32), vi (0 : Int32), vi q6, vi q7, vi q8, vi q9, vi w154_0, vi w156_0, vi w158_0, vi w160_0, vi w162_0, vi w164_0, vi w166_0, vi w168_0, vr b409, .unset, .unset, .unset] [(.ref b411), (.ref b409)]))
                          refine Go.by' (fun t k => (XS.dup X411.here hx rfl (hb hby at_242) rfl rfl (XS.iload X411.here hx rfl (hb hby at_243) rfl k))) ?_
                          obtain ⟨_, _, ⟨T412, L412, k412, n412⟩, -, X412, ⟨Lc412, hQ412, l412, y412, z412⟩, st412⟩ := Jvm.LawKit.callS X411 hx (y := (⟨"com/example/slatewipe/slatewipe/vendors/mariadb/ColumnSameTypesPinLaw", "str", "(I)Ljava/lang/String;"⟩ : MethodName)) hown (mvT hZ hw43) (mvT hZ hw44) (mvT hZ hw45) (mvT hZ hw46) (by decide) (backOf (W := 3) (rmStr l Z a0 hw [] wD kD vcs G q6 h411 n0 O411 bd6.1 bd6.2) hZ hw46 hw45 (by decide) (by decide)) (g := (mkF m 245 #[vi is, vi ia, vi ib, vi (2 : Int32), vi (1 : Int32), vi (0 : Int32), vi q6, vi q7, vi q8, vi q9, vi w154_0, vi w156_0, vi w158_0, vi w160_0, vi w162_0, vi w164_0, vi w166_0, vi w168_0, vr b409, .unset, .unset, .unset] [(.int q6), (.ref b411), (.ref b411), (.ref b409)])) rfl (by rw [hml]; rfl) (argsL := [(.int q6)]) (rest := [(.ref b411), (.ref b411), (.ref b409)]) (lenOf pd_16 rfl) rfl (by show 2 * 0 + _ ≤ _; exact Nat.le_of_eq rfl) (hb hby at_245) (fun _ _ => ⟨rfl, e411, (by decide : 2 + 3 ≤ _), (by decide : 6 + 6 ≤ _)⟩)
                          dsimp only [Pt.U, Pt.locs, Pt.cells, Pt.slots] at X412 l412 y412 z412 st412 hQ412
                          subst l412 y412 z412
                          obtain ⟨r_412, rb_412, kb_412, rfl, N412q, K412, f412_0, f412_1, f412_2, f412_3, f412_4, f412_5⟩ := hQ412
                          have N412 := Fr.app N410 N412q
                          obtain ⟨lc412, X412, N412⟩ := own_pack X412 N412
                          refine Go.by' st412 ?_
                          have g_r_412 : n0 ≤ r_412 := Nat.le_trans (own_le O411) f412_1
                          have sz_r_412 : h0.size ≤ r_412 := Nat.le_trans KC411.1 f412_1
                          have g_rb_412 : n0 ≤ rb_412 := Nat.le_trans (own_le O411) f412_5
                          have sz_rb_412 : h0.size ≤ rb_412 := Nat.le_trans KC411.1 f412_5
                          have O412 := O411.keep K412 all0
                          have KC412 : Keep h0 T412.heap [] := KC411.trans K412 all0
                          show Go p.tables e below Pf (T412.setTop (mkF m 248 #[vi is, vi ia, vi ib, vi (2 : Int32), vi (1 : Int32), vi (0 : Int32), vi q6, vi q7, vi q8, vi q9, vi w154_0, vi w156_0, vi w158_0, vi w160_0, vi w162_0, vi w164_0, vi w166_0, vi w168_0, vr b409, .unset, .unset, .unset] [(.ref r_412), (.ref b411), (.ref b411), (.ref b409)]))
                          refine Go.by' (fun t k => (XS.iload X412.here hx rfl (hb hby at_248) rfl k)) ?_
                          obtain ⟨_, _, ⟨T413, L413, k413, n413⟩, -, X413, ⟨Lc413, hQ413, l413, y413, z413⟩, st413⟩ := Jvm.LawKit.callS X412 hx (y := (⟨"com/example/slatewipe/slatewipe/vendors/mariadb/ColumnSameTypesPinLaw", "str", "(I)Ljava/lang/String;"⟩ : MethodName)) hown (mvT hZ hw43) (mvT hZ hw44) (mvT hZ hw45) (mvT hZ hw46) (by decide) (backOf (W := 4) (rmStr l Z a0 hw [] wD kD vcs G q7 T412.heap n0 O412 bd7.1 bd7.2) hZ hw46 hw45 (by decide) (by decide)) (g := (mkF m 250 #[vi is, vi ia, vi ib, vi (2 : Int32), vi (1 : Int32), vi (0 : Int32), vi q6, vi q7, vi q8, vi q9, vi w154_0, vi w156_0, vi w158_0, vi w160_0, vi w162_0, vi w164_0, vi w166_0, vi w168_0, vr b409, .unset, .unset, .unset] [(.int q7), (.ref r_412), (.ref b411), (.ref b411), (.ref b409)])) rfl (by rw [hml]; rfl) (argsL := [(.int q7)]) (rest := [(.ref r_412), (.ref b411), (.ref b411), (.ref b409)]) (lenOf pd_16 rfl) rfl (by show 2 * 0 + _ ≤ _; exact Nat.le_of_eq rfl) (hb hby at_250) (fun _ _ => ⟨rfl, rfl, (by decide : 5 + 3 ≤ _), (by decide : 12 + 6 ≤ _)⟩)
                          dsimp only [Pt.U, Pt.locs, Pt.cells, Pt.slots] at X413 l413 y413 z413 st413 hQ413
                          subst l413 y413 z413
                          obtain ⟨r_413, rb_413, kb_413, rfl, N413q, K413, f413_0, f413_1, f413_2, f413_3, f413_4, f413_5⟩ := hQ413
                          have N413 := Fr.app N412 N413q
                          obtain ⟨lc413, X413, N413⟩ := own_pack X413 N413
                          refine Go.by' st413 ?_
                          have g_r_413 : n0 ≤ r_413 := Nat.le_trans (own_le O412) f413_1
                          have sz_r_413 : h0.size ≤ r_413 := Nat.le_trans KC412.1 f413_1
                          have g_rb_413 : n0 ≤ rb_413 := Nat.le_trans (own_le O412) f413_5
                          have sz_rb_413 : h0.size ≤ rb_413 := Nat.le_trans KC412.1 f413_5
                          have O413 := O412.keep K413 all0
                          have KC413 : Keep h0 T413.heap [] := KC412.trans K413 all0
                          show Go p.tables e below Pf (T413.setTop (mkF m 253 #[vi is, vi ia, vi ib, vi (2 : Int32), vi (1 : Int32), vi (0 : Int32), vi q6, vi q7, vi q8, vi q9, vi w154_0, vi w156_0, vi w158_0, vi w160_0, vi w162_0, vi w164_0, vi w166_0, vi w168_0, vr b409, .unset, .unset, .unset] [(.ref r_413), (.ref r_412), (.ref b411), (.ref b411), (.ref b409)]))
                          refine Go.by' (fun t k => (XS.iload X413.here hx rfl (hb hby at_253) rfl k)) ?_
                          have c415 := ((A411.keep K412).keep K413)
                          have c416 := ((Fn411_85.keep K412 nin0).keep K413 nin0)
                          have c417 := ((Fn411_87.keep K412 nin0).keep K413 nin0)
                          have c418 := ((Fn411_89.keep K412 nin0).keep K413 nin0)
                          obtain ⟨_, _, ⟨T414, L414, k414, n414⟩, -, X414, ⟨Lc414, hQ414, l414, y414, z414⟩, st414⟩ := X413.specialBack hx (y := (⟨"com/example/slatewipe/slatewipe/vendors/mariadb/Columns$Column", "<init>", "(Ljava/lang/String;Ljava/lang/String;Z)V"⟩ : MethodName)) rfl hown (mvT hZ hw75) (mvT hZ hw76) (mvT hZ hw77) (by decide) (backOf (W := 2) (rmCol l Z a0 hw [] wD kD vcs G b411 r_412 r_413 w162_0 T413.heap n0 O413 c415 c416 c417 c418 g_b411 bw162_0) hZ hw77 hw28 (by decide) (by decide)) (g := (mkF m 255 #[vi is, vi ia, vi ib, vi (2 : Int32), vi (1 : Int32), vi (0 : Int32), vi q6, vi q7, vi q8, vi q9, vi w154_0, vi w156_0, vi w158_0, vi w160_0, vi w162_0, vi w164_0, vi w166_0, vi w168_0, vr b409, .unset, .unset, .unset] [(.int w162_0), (.ref r_413), (.ref r_412), (.ref b411), (.ref b411), (.ref b409)])) rfl (by rw [hml]; rfl) (Steps.refl _) (a := b411) (argsL := [(.ref r_412), (.ref r_413), (.int w162_0)]) (rest := [(.ref b411), (.ref b409)]) (lenOf pd_17 rfl) rfl (by show 2 * 0 + _ ≤ _; exact Nat.le_of_eq rfl) (hb hby at_255) (fun _ _ => ⟨rfl, rfl, (by decide : 8 + 0 ≤ _), (by decide : 18 + 0 ≤ _)⟩)
                          dsimp only [Pt.U, Pt.locs, Pt.cells, Pt.slots] at X414 l414 y414 z414 st414 hQ414
                          subst l414 y414 z414
                          obtain ⟨rfl, N414q, K414, f414_0, f414_1, f414_2⟩ := hQ414
                          have N414 := Fr.app N413 N414q
                          obtain ⟨lc414, X414, N414⟩ := own_pack X414 N414
                          refine Go.by' (fun t k => st414.trans k) ?_
                          have O414 := O413.keep K414 (allS g_b411 all0)
                          have KC414 : Keep h0 T414.heap [] := KC413.trans K414 (allS (Or.inr sz_b411) all0)
                          have c420 := ((((f410_0.ext E411).keep K412).keep K413).keep K414)
                          have c421 := ((((f410_3.ext E411).keep K412 nin0).keep K413 nin0).keep K414 (ninS (Nat.ne_of_lt (Nat.lt_of_lt_of_le (Nat.lt_of_lt_of_le A409.lt K410.1) (Nat.le_of_eq g411.symm))) nin0))
                          have c422 := ((((f410_2.ext E411).keep K412 nin0).keep K413 nin0).keep K414 (ninS (Nat.ne_of_lt (Nat.lt_of_lt_of_le (Nat.lt_of_lt_of_le A409.lt K410.1) (Nat.le_of_eq g411.symm))) nin0))
                          have c423 := ((((f410_1.ext E411).keep K412 nin0).keep K413 nin0).keep K414 (ninS (Nat.ne_of_lt (Nat.lt_of_lt_of_le (Nat.lt_of_lt_of_le A409.lt K410.1) (Nat.le_of_eq g411.symm))) nin0))
                          obtain ⟨cq419, kq419, q419a, q419b, q419c⟩ := isOf hZ rfl c420
                          obtain ⟨_, _, ⟨T419, L419, k419, n419⟩, -, X419, ⟨Lc419, hQ419, l419, y419, z419⟩, st419⟩ := X414.interfaceBack hx (xi := (⟨"java/util/List", "add", "(Ljava/lang/Object;)Z"⟩ : MethodName)) (y := (⟨"java/util/ArrayList", "add", "(Ljava/lang/Object;)Z"⟩ : MethodName)) hown (mvT hZ hw90) (mvT hZ hw91) (mvT hZ hw92) (mvT hZ hw93) (mvT hZ hw94) (mvT hZ hw95) (mvT hZ hw96) (mvT hZ hw37) (by decide) (backOf (W := 0) (rmA1_0 l Z a0 hw [] wD kD vcs G b409 b411 ((0 : Int32)) T414.heap n0 O414 c420 c421 c422 c423 g_b409 f414_0) hZ hw97 hw2 (by decide) (by decide)) q419a q419b q419c (g := (mkF m 258 #[vi is, vi ia, vi ib, vi (2 : Int32), vi (1 : Int32), vi (0 : Int32), vi q6, vi q7, vi q8, vi q9, vi w154_0, vi w156_0, vi w158_0, vi w160_0, vi w162_0, vi w164_0, vi w166_0, vi w168_0, vr b409, .unset, .unset, .unset] [(.ref b411), (.ref b409)])) rfl (by rw [hml]; rfl) (Steps.refl _) (argsL := [(.ref b411)]) (rest := []) (lenOf pd_14 rfl) rfl (by show 2 * 0 + _ ≤ _; exact Nat.le_of_eq rfl) (hb hby at_258) (fun _ _ => ⟨rfl, rfl, (by decide : 8 + 1 ≤ _), (by decide : 18 + 10 ≤ _)⟩)
                          dsimp only [Pt.U, Pt.locs, Pt.cells, Pt.slots] at X419 l419 y419 z419 st419 hQ419
                          subst l419 y419 z419
                          obtain ⟨r_419, kk_419, rfl, N419q, K419, f419_0, f419_1, f419_2, f419_3, f419_4, f419_5, r419_0⟩ := hQ419
                          have N419 := Fr.app N414 N419q
                          obtain ⟨lc419, X419, N419⟩ := own_pack X419 N419
                          refine Go.by' (fun t k => st419.trans k) ?_
                          have g_r_419 : n0 ≤ r_419 := Nat.le_trans (own_le O414) f419_1
                          have sz_r_419 : h0.size ≤ r_419 := Nat.le_trans KC414.1 f419_1
                          have O419 := O414.keep K419 (allS g_b409 all0)
                          have KC419 : Keep h0 T419.heap [] := KC414.trans K419 (allS (Or.inr sz_b409) all0)
                          show Go p.tables e below Pf (T419.setTop (mkF m 263 #[vi is, vi ia, vi ib, vi (2 : Int32), vi (1 : Int32), vi (0 : Int32), vi q6, vi q7, vi q8, vi q9, vi w154_0, vi w156_0, vi w158_0, vi w160_0, vi w162_0, vi w164_0, vi w166_0, vi w168_0, vr b409, .unset, .unset, .unset] [(.int (1 : Int32))]))
                          refine Go.by' (fun t k => (XS.pop X419.here hx rfl (hb hby at_263) rfl rfl (XS.iloadN X419.here hx rfl (hb hby at_264) rfl (XS.iconst X419.here hx rfl (hb hby at_265) (XS.icmpNo X419.here hx rfl (hb hby at_266) rfl (flt (by decide)).1 (XS.aload X419.here hx rfl (hb hby at_269) rfl rfl k)))))) ?_
                          obtain ⟨T424, h424, X424, e424, E424, A424, D424, -, st424⟩ := newO X419 hx hZ hown hw41 hw42 hw28 rfl (g := (mkF m 271 #[vi is, vi ia, vi ib, vi (2 : Int32), vi (1 : Int32), vi (0 : Int32), vi q6, vi q7, vi q8, vi q9, vi w154_0, vi w156_0, vi w158_0, vi w160_0, vi w162_0, vi w164_0, vi w166_0, vi w168_0, vr b409, .unset, .unset, .unset] [(.ref b409)])) rfl (hb hby at_271) (by decide) (by decide)
                          obtain ⟨b424, g424⟩ : ∃ z, z = T419.heap.size := ⟨_, rfl⟩
                          rw [← g424] at A424 D424 st424
                          refine Go.by' st424 ?_
                          have g_b424 : n0 ≤ b424 := Nat.le_trans (own_le O419) (Nat.le_of_eq g424.symm)
                          have sz_b424 : h0.size ≤ b424 := Nat.le_trans KC419.1 (Nat.le_of_eq g424.symm)
                          have O424 := O419.ext E424
                          have KC424 : Keep h0 h424 [] := KC419.ext E424
                          have Fn424_85 : Fld Z h424 b424 "com/example/slatewipe/slatewipe/vendors/mariadb/Columns$Column" "name" "Ljava/lang/String;" Value.null := D424 (Or.inr hw85) (ty := (.object "java/lang/String")) (by decide)
                          have Fn424_87 : Fld Z h424 b424 "com/example/slatewipe/slatewipe/vendors/mariadb/Columns$Column" "type" "Ljava/lang/String;" Value.null := D424 (Or.inr hw87) (ty := (.object "java/lang/String")) (by decide)
                          have Fn424_89 : Fld Z h424 b424 "com/example/slatewipe/slatewipe/vendors/mariadb/Columns$Column" "nullable" "Z" (Value.int (0 : Int32)) := D424 (Or.inr hw89) (ty := .boolean) (by decide)
                          show Go p.tables e below Pf (T424.setTop (mkF m 274 #[vi is, vi ia, vi ib, vi (2 : Int32), vi (1 : Int32), vi (0 : Int32), vi q6, vi q7, vi q8, vi q9, vi w154_0, vi w156_0, vi w158_0, vi w160_0, vi w162_0, vi w164_0, vi w166_0, vi w168_0, vr b409, .unset, .unset, .unset] [(.ref b424), (.ref b409)]))
                          refine Go.by' (fun t k => (XS.dup X424.here hx rfl (hb hby at_274) rfl rfl (XS.iload X424.here hx rfl (hb hby at_275) rfl k))) ?_
                          obtain ⟨_, _, ⟨T425, L425, k425, n425⟩, -, X425, ⟨Lc425, hQ425, l425, y425, z425⟩, st425⟩ := Jvm.LawKit.callS X424 hx (y := (⟨"com/example/slatewipe/slatewipe/vendors/mariadb/ColumnSameTypesPinLaw", "str", "(I)Ljava/lang/String;"⟩ : MethodName)) hown (mvT hZ hw43) (mvT hZ hw44) (mvT hZ hw45) (mvT hZ hw46) (by decide) (backOf (W := 3) (rmStr l Z a0 hw [] wD kD vcs G q8 h424 n0 O424 bd8.1 bd8.2) hZ hw46 hw45 (by decide) (by decide)) (g := (mkF m 277 #[vi is, vi ia, vi ib, vi (2 : Int32), vi (1 : Int32), vi (0 : Int32), vi q6, vi q7, vi q8, vi q9, vi w154_0, vi w156_0, vi w158_0, vi w160_0, vi w162_0, vi w164_0, vi w166_0, vi w168_0, vr b409, .unset, .unset, .unset] [(.int q8), (.ref b424), (.ref b424), (.ref b409)])) rfl (by rw [hml]; rfl) (argsL := [(.int q8)]) (rest := [(.ref b424), (.ref b424), (.ref b409)]) (lenOf pd_16 rfl) rfl (by show 2 * 0 + _ ≤ _; exact Nat.le_of_eq rfl) (hb hby at_277) (fun _ _ => ⟨rfl, e424, (by decide : 10 + 3 ≤ _), (by decide : 31 + 6 ≤ _)⟩)
                          dsimp only [Pt.U, Pt.locs, Pt.cells, Pt.slots] at X425 l425 y425 z425 st425 hQ425
                          subst l425 y425 z425
                          obtain ⟨r_425, rb_425, kb_425, rfl, N425q, K425, f425_0, f425_1, f425_2, f425_3, f425_4, f425_5⟩ := hQ425
                          have N425 := Fr.app N419 N425q
                          obtain ⟨lc425, X425, N425⟩ := own_pack X425 N425
                          refine Go.by' st425 ?_
                          have g_r_425 : n0 ≤ r_425 := Nat.le_trans (own_le O424) f425_1
                          have sz_r_425 : h0.size ≤ r_425 := Nat.le_trans KC424.1 f425_1
                          have g_rb_425 : n0 ≤ rb_425 := Nat.le_trans (own_le O424) f425_5
                          have sz_rb_425 : h0.size ≤ rb_425 := Nat.le_trans KC424.1 f425_5
                          have O425 := O424.keep K425 all0
                          have KC425 : Keep h0 T425.heap [] := KC424.trans K425 all0
                          show Go p.tables e below Pf (T425.setTop (mkF m 280 #[vi is, vi ia, vi ib, vi (2 : Int32), vi (1 : Int32), vi (0 : Int32), vi q6, vi q7, vi q8, vi q9, vi w154_0, vi w156_0, vi w158_0, vi w160_0, vi w162_0, vi w164_0, vi w166_0, vi w168_0, vr b409, .unset, .unset, .unset] [(.ref r_425), (.ref b424), (.ref b424), (.ref b409)]))
                          refine Go.by' (fun t k => (XS.iload X425.here hx rfl (hb hby at_280) rfl k)) ?_
                          obtain ⟨_, _, ⟨T426, L426, k426, n426⟩, -, X426, ⟨Lc426, hQ426, l426, y426, z426⟩, st426⟩ := Jvm.LawKit.callS X425 hx (y := (⟨"com/example/slatewipe/slatewipe/vendors/mariadb/ColumnSameTypesPinLaw", "str", "(I)Ljava/lang/String;"⟩ : MethodName)) hown (mvT hZ hw43) (mvT hZ hw44) (mvT hZ hw45) (mvT hZ hw46) (by decide) (backOf (W := 4) (rmStr l Z a0 hw [] wD kD vcs G q9 T425.heap n0 O425 bd9.1 bd9.2) hZ hw46 hw45 (by decide) (by decide)) (g := (mkF m 282 #[vi is, vi ia, vi ib, vi (2 : Int32), vi (1 : Int32), vi (0 : Int32), vi q6, vi q7, vi q8, vi q9, vi w154_0, vi w156_0, vi w158_0, vi w160_0, vi w162_0, vi w164_0, vi w166_0, vi w168_0, vr b409, .unset, .unset, .unset] [(.int q9), (.ref r_425), (.ref b424), (.ref b424), (.ref b409)])) rfl (by rw [hml]; rfl) (argsL := [(.int q9)]) (rest := [(.ref r_425), (.ref b424), (.ref b424), (.ref b409)]) (lenOf pd_16 rfl) rfl (by show 2 * 0 + _ ≤ _; exact Nat.le_of_eq rfl) (hb hby at_282) (fun _ _ => ⟨rfl, rfl, (by decide : 13 + 3 ≤ _), (by decide : 37 + 6 ≤ _)⟩)
                          dsimp only [Pt.U, Pt.locs, Pt.cells, Pt.slots] at X426 l426 y426 z426 st426 hQ426
                          subst l426 y426 z426
                          obtain ⟨r_426, rb_426, kb_426, rfl, N426q, K426, f426_0, f426_1, f426_2, f426_3, f426_4, f426_5⟩ := hQ426
                          have N426 := Fr.app N425 N426q
                          obtain ⟨lc426, X426, N426⟩ := own_pack X426 N426
                          refine Go.by' st426 ?_
                          have g_r_426 : n0 ≤ r_426 := Nat.le_trans (own_le O425) f426_1
                          have sz_r_426 : h0.size ≤ r_426 := Nat.le_trans KC425.1 f426_1
                          have g_rb_426 : n0 ≤ rb_426 := Nat.le_trans (own_le O425) f426_5
                          have sz_rb_426 : h0.size ≤ rb_426 := Nat.le_trans KC425.1 f426_5
                          have O426 := O425.keep K426 all0
                          have KC426 : Keep h0 T426.heap [] := KC425.trans K426 all0
                          show Go p.tables e below Pf (T426.setTop (mkF m 285 #[vi is, vi ia, vi ib, vi (2 : Int32), vi (1 : Int32), vi (0 : Int32), vi q6, vi q7, vi q8, vi q9, vi w154_0, vi w156_0, vi w158_0, vi w160_0, vi w162_0, vi w164_0, vi w166_0, vi w168_0, vr b409, .unset, .unset, .unset] [(.ref r_426), (.ref r_425), (.ref b424), (.ref b424), (.ref b409)]))
                          refine Go.by' (fun t k => (XS.iload X426.here hx rfl (hb hby at_285) rfl k)) ?_
                          have c428 := ((A424.keep K425).keep K426)
                          have c429 := ((Fn424_85.keep K425 nin0).keep K426 nin0)
                          have c430 := ((Fn424_87.keep K425 nin0).keep K426 nin0)
                          have c431 := ((Fn424_89.keep K425 nin0).keep K426 nin0)
                          obtain ⟨_, _, ⟨T427, L427, k427, n427⟩, -, X427, ⟨Lc427, hQ427, l427, y427, z427⟩, st427⟩ := X426.specialBack hx (y := (⟨"com/example/slatewipe/slatewipe/vendors/mariadb/Columns$Column", "<init>", "(Ljava/lang/String;Ljava/lang/String;Z)V"⟩ : MethodName)) rfl hown (mvT hZ hw75) (mvT hZ hw76) (mvT hZ hw77) (by decide) (backOf (W := 2) (rmCol l Z a0 hw [] wD kD vcs G b424 r_425 r_426 w164_0 T426.heap n0 O426 c428 c429 c430 c431 g_b424 bw164_0) hZ hw77 hw28 (by decide) (by decide)) (g := (mkF m 287 #[vi is, vi ia, vi ib, vi (2 : Int32), vi (1 : Int32), vi (0 : Int32), vi q6, vi q7, vi q8, vi q9, vi w154_0, vi w156_0, vi w158_0, vi w160_0, vi w162_0, vi w164_0, vi w166_0, vi w168_0, vr b409, .unset, .unset, .unset] [(.int w164_0), (.ref r_426), (.ref r_425), (.ref b424), (.ref b424), (.ref b409)])) rfl (by rw [hml]; rfl) (Steps.refl _) (a := b424) (argsL := [(.ref r_425), (.ref r_426), (.int w164_0)]) (rest := [(.ref b424), (.ref b409)]) (lenOf pd_17 rfl) rfl (by show 2 * 0 + _ ≤ _; exact Nat.le_of_eq rfl) (hb hby at_287) (fun _ _ => ⟨rfl, rfl, (by decide : 16 + 0 ≤ _), (by decide : 43 + 0 ≤ _)⟩)
                          dsimp only [Pt.U, Pt.locs, Pt.cells, Pt.slots] at X427 l427 y427 z427 st427 hQ427
                          subst l427 y427 z427
                          obtain ⟨rfl, N427q, K427, f427_0, f427_1, f427_2⟩ := hQ427
                          have N427 := Fr.app N426 N427q
                          obtain ⟨lc427, X427, N427⟩ := own_pack X427 N427
                          refine Go.by' (fun t k => st427.trans k) ?_
                          have O427 := O426.keep K427 (allS g_b424 all0)
                          have KC427 : Keep h0 T427.heap [] := KC426.trans K427 (allS (Or.inr sz_b424) all0)
                          have c433 := ((((f419_0.ext E424).keep K425 nin0).keep K426 nin0).keep K427 (ninS (Nat.ne_of_lt (Nat.lt_of_lt_of_le f419_0.lt (Nat.le_of_eq g424.symm))) nin0))
                          have c434 := ((((f419_2.ext E424).keep K425).keep K426).keep K427)
                          have c435 := ((((f419_4.ext E424).keep K425 nin0).keep K426 nin0).keep K427 (ninS (Nat.ne_of_lt (Nat.lt_of_lt_of_le (Nat.lt_of_lt_of_le A409.lt (Nat.le_trans K410.1 (Nat.le_trans E411.1 (Nat.le_trans K412.1 (Nat.le_trans K413.1 (Nat.le_trans K414.1 K419.1)))))) (Nat.le_of_eq g424.symm))) nin0))
                          have c436 := ((((f419_3.ext E424).keep K425 nin0).keep K426 nin0).keep K427 (ninS (Nat.ne_of_lt (Nat.lt_of_lt_of_le (Nat.lt_of_lt_of_le A409.lt (Nat.le_trans K410.1 (Nat.le_trans E411.1 (Nat.le_trans K412.1 (Nat.le_trans K413.1 (Nat.le_trans K414.1 K419.1)))))) (Nat.le_of_eq g424.symm))) nin0))
                          have c437 := ((((f419_5.ext E424).keep K425 nin0).keep K426 nin0).keep K427 (ninS (Nat.ne_of_lt (Nat.lt_of_lt_of_le (Nat.lt_of_lt_of_le A409.lt (Nat.le_trans K410.1 (Nat.le_trans E411.1 (Nat.le_trans K412.1 (Nat.le_trans K413.1 (Nat.le_trans K414.1 K419.1)))))) (Nat.le_of_eq g424.symm))) nin0))
                          obtain ⟨cq432, kq432, q432a, q432b, q432c⟩ := isOf hZ rfl c434
                          obtain ⟨_, _, ⟨T432, L432, k432, n432⟩, -, X432, ⟨Lc432, hQ432, l432, y432, z432⟩, st432⟩ := X427.interfaceBack hx (xi := (⟨"java/util/List", "add", "(Ljava/lang/Object;)Z"⟩ : MethodName)) (y := (⟨"java/util/ArrayList", "add", "(Ljava/lang/Object;)Z"⟩ : MethodName)) hown (mvT hZ hw90) (mvT hZ hw91) (mvT hZ hw92) (mvT hZ hw93) (mvT hZ hw94) (mvT hZ hw95) (mvT hZ hw96) (mvT hZ hw37) (by decide) (backOf (W := 0) (rmA1_1 l Z a0 hw [] wD kD vcs G b409 b424 (((0 : Int32) + (1 : Int32))) r_419 kk_419 b411 T427.heap n0 O427 c434 c435 c436 c437 g_b409 g_r_419 c433 f427_0 (Nat.ne_of_lt (Nat.lt_of_lt_of_le (Nat.lt_of_lt_of_le A409.lt (Nat.le_trans K410.1 (Nat.le_trans E411.1 (Nat.le_trans K412.1 (Nat.le_trans K413.1 K414.1))))) f419_1)) r419_0) hZ hw97 hw2 (by decide) (by decide)) q432a q432b q432c (g := (mkF m 290 #[vi is, vi ia, vi ib, vi (2 : Int32), vi (1 : Int32), vi (0 : Int32), vi q6, vi q7, vi q8, vi q9, vi w154_0, vi w156_0, vi w158_0, vi w160_0, vi w162_0, vi w164_0, vi w166_0, vi w168_0, vr b409, .unset, .unset, .unset] [(.ref b424), (.ref b409)])) rfl (by rw [hml]; rfl) (Steps.refl _) (argsL := [(.ref b424)]) (rest := []) (lenOf pd_14 rfl) rfl (by show 2 * 0 + _ ≤ _; exact Nat.le_of_eq rfl) (hb hby at_290) (fun _ _ => ⟨rfl, rfl, (by decide : 16 + 0 ≤ _), (by decide : 43 + 0 ≤ _)⟩)
                          dsimp only [Pt.U, Pt.locs, Pt.cells, Pt.slots] at X432 l432 y432 z432 st432 hQ432
                          subst l432 y432 z432
                          obtain ⟨rfl, N432q, K432, f432_0, f432_1, f432_2, f432_3, f432_4⟩ := hQ432
                          have N432 := Fr.app N427 N432q
                          obtain ⟨lc432, X432, N432⟩ := own_pack X432 N432
                          refine Go.by' (fun t k => st432.trans k) ?_
                          have O432 := O427.keep K432 (allS g_b409 (allS g_r_419 all0))
                          have KC432 : Keep h0 T432.heap [] := KC427.trans K432 (allS (Or.inr sz_b409) (allS (Or.inr sz_r_419) all0))
                          show Go p.tables e below Pf (T432.setTop (mkF m 295 #[vi is, vi ia, vi ib, vi (2 : Int32), vi (1 : Int32), vi (0 : Int32), vi q6, vi q7, vi q8, vi q9, vi w154_0, vi w156_0, vi w158_0, vi w160_0, vi w162_0, vi w164_0, vi w166_0, vi w168_0, vr b409, .unset, .unset, .unset] [(.int (1 : Int32))]))
                          refine Go.by' (fun t k => (XS.pop X432.here hx rfl (hb hby at_295) rfl rfl (XS.aconstNull X432.here hx rfl (hb hby at_296) (XS.astore X432.here hx rfl (hb hby at_297) rfl rfl (l' := #[vi is, vi ia, vi ib, vi (2 : Int32), vi (1 : Int32), vi (0 : Int32), vi q6, vi q7, vi q8, vi q9, vi w154_0, vi w156_0, vi w158_0, vi w160_0, vi w162_0, vi w164_0, vi w166_0, vi w168_0, vr b409, .val .null, .unset, .unset]) rfl (XS.iload X432.here hx rfl (hb hby at_299) rfl (XS.ifNo X432.here hx rfl (hb hby at_301) rfl ((if0 _ _).trans (teq (by decide)).2) k)))))) ?_
                          obtain ⟨T438, h438, X438, e438, E438, A438, D438, -, st438⟩ := newO X432 hx hZ hown hw0 hw1 hw2 rfl (g := (mkF m 304 #[vi is, vi ia, vi ib, vi (2 : Int32), vi (1 : Int32), vi (0 : Int32), vi q6, vi q7, vi q8, vi q9, vi w154_0, vi w156_0, vi w158_0, vi w160_0, vi w162_0, vi w164_0, vi w166_0, vi w168_0, vr b409, .val .null, .unset, .unset] [])) rfl (hb hby at_304) (by decide) (by decide)
                          obtain ⟨b438, g438⟩ : ∃ z, z = T432.heap.size := ⟨_, rfl⟩
                          rw [← g438] at A438 D438 st438
                          refine Go.by' st438 ?_
                          have g_b438 : n0 ≤ b438 := Nat.le_trans (own_le O432) (Nat.le_of_eq g438.symm)
                          have sz_b438 : h0.size ≤ b438 := Nat.le_trans KC432.1 (Nat.le_of_eq g438.symm)
                          have O438 := O432.ext E438
                          have KC438 : Keep h0 h438 [] := KC432.ext E438
                          have Fn438_22 : Fld Z h438 b438 "java/util/AbstractList" "modCount" "I" (Value.int (0 : Int32)) := D438 (Or.inl hw22) (ty := .int) (by decide)
                          have Fn438_25 : Fld Z h438 b438 "java/util/ArrayList" "elementData" "[Ljava/lang/Object;" Value.null := D438 (Or.inl hw25) (ty := (.array (.object "java/lang/Object"))) (by decide)
                          have Fn438_40 : Fld Z h438 b438 "java/util/ArrayList" "size" "I" (Value.int (0 : Int32)) := D438 (Or.inl hw40) (ty := .int) (by decide)
                          show Go p.tables e below Pf (T438.setTop (mkF m 307 #[vi is, vi ia, vi ib, vi (2 : Int32), vi (1 : Int32), vi (0 : Int32), vi q6, vi q7, vi q8, vi q9, vi w154_0, vi w156_0, vi w158_0, vi w160_0, vi w162_0, vi w164_0, vi w166_0, vi w168_0, vr b409, .val .null, .unset, .unset] [(.ref b438)]))
                          refine Go.by' (fun t k => (XS.dup X438.here hx rfl (hb hby at_307) rfl rfl k)) ?_
                          obtain ⟨_, _, ⟨T439, L439, k439, n439⟩, -, X439, ⟨Lc439, hQ439, l439, y439, z439⟩, st439⟩ := X438.specialBack hx (y := (⟨"java/util/ArrayList", "<init>", "()V"⟩ : MethodName)) rfl hown (mvT hZ hw3) (mvT hZ hw4) (mvT hZ hw5) (by decide) (backOf (W := 1) (rmAL l Z a0 hw [] wD kD vcs G b438 h438 n0 O438 A438 Fn438_22 Fn438_25 Fn438_40 g_b438) hZ hw5 hw2 (by decide) (by decide)) (g := (mkF m 308 #[vi is, vi ia, vi ib, vi (2 : Int32), vi (1 : Int32), vi (0 : Int32), vi q6, vi q7, vi q8, vi q9, vi w154_0, vi w156_0, vi w158_0, vi w160_0, vi w162_0, vi w164_0, vi w166_0, vi w168_0, vr b409, .val .null, .unset, .unset] [(.ref b438), (.ref b438)])) rfl (by rw [hml]; rfl) (Steps.refl _) (a := b438) (argsL := []) (rest := [(.ref b438)]) (lenOf pd_5 rfl) rfl (by show 2 * 0 + _ ≤ _; exact Nat.le_of_eq rfl) (hb hby at_308) (fun _ _ => ⟨rfl, e438, (by decide : 17 + 0 ≤ _), (by decide : 46 + 0 ≤ _)⟩)
                          dsimp only [Pt.U, Pt.locs, Pt.cells, Pt.slots] at X439 l439 y439 z439 st439 hQ439
                          subst l439 y439 z439
                          obtain ⟨rfl, N439q, K439, f439_0, f439_1, f439_2, f439_3⟩ := hQ439
                          have N439 := Fr.app N432 N439q
                          obtain ⟨lc439, X439, N439⟩ := own_pack X439 N439
                          refine Go.by' (fun t k => st439.trans k) ?_
                          have O439 := O438.keep K439 (allS g_b438 all0)
                          have KC439 : Keep h0 T439.heap [] := KC438.trans K439 (allS (Or.inr sz_b438) all0)
                          show Go p.tables e below Pf (T439.setTop (mkF m 311 #[vi is, vi ia, vi ib, vi (2 : Int32), vi (1 : Int32), vi (0 : Int32), vi q6, vi q7, vi q8, vi q9, vi w154_0, vi w156_0, vi w158_0, vi w160_0, vi w162_0, vi w164_0, vi w166_0, vi w168_0, vr b409, .val .null, .unset, .unset] [(.ref b438)]))
                          refine Go.by' (fun t k => (XS.astore X439.here hx rfl (hb hby at_311) rfl rfl (l' := #[vi is, vi ia, vi ib, vi (2 : Int32), vi (1 : Int32), vi (0 : Int32), vi q6, vi q7, vi q8, vi q9, vi w154_0, vi w156_0, vi w158_0, vi w160_0, vi w162_0, vi w164_0, vi w166_0, vi w168_0, vr b409, vr b438, .unset, .unset]) rfl (XS.iload X439.here hx rfl (hb hby at_313) rfl (XS.iconst X439.here hx rfl (hb hby at_315) (XS.icmpNo X439.here hx rfl (hb hby at_316) rfl (flt (by decide)).1 (XS.aload X439.here hx rfl (hb hby at_319) rfl rfl k)))))) ?_
                          obtain ⟨T440, h440, X440, e440, E440, A440, D440, -, st440⟩ := newO X439 hx hZ hown hw41 hw42 hw28 rfl (g := (mkF m 321 #[vi is, vi ia, vi ib, vi (2 : Int32), vi (1 : Int32), vi (0 : Int32), vi q6, vi q7, vi q8, vi q9, vi w154_0, vi w156_0, vi w158_0, vi w160_0, vi w162_0, vi w164_0, vi w166_0, vi w168_0, vr b409, vr b438, .unset, .unset] [(.ref b438)])) rfl (hb hby at_321) (by decide) (by decide)
                          obtain ⟨b440, g440⟩ : ∃ z, z = T439.heap.size := ⟨_, rfl⟩
                          rw [← g440] at A440 D440 st440
                          refine Go.by' st440 ?_
                          have g_b440 : n0 ≤ b440 := Nat.le_trans (own_le O439) (Nat.le_of_eq g440.symm)
                          have sz_b440 : h0.size ≤ b440 := Nat.le_trans KC439.1 (Nat.le_of_eq g440.symm)
                          have O440 := O439.ext E440
                          have KC440 : Keep h0 h440 [] := KC439.ext E440
                          have Fn440_85 : Fld Z h440 b440 "com/example/slatewipe/slatewipe/vendors/mariadb/Columns$Column" "name" "Ljava/lang/String;" Value.null := D440 (Or.inr hw85) (ty := (.object "java/lang/String")) (by decide)
                          have Fn440_87 : Fld Z h440 b440 "com/example/slatewipe/slatewipe/vendors/mariadb/Columns$Column" "type" "Ljava/lang/String;" Value.null := D440 (Or.inr hw87) (ty := (.object "java/lang/String")) (by decide)
                          have Fn440_89 : Fld Z h440 b440 "com/example/slatewipe/slatewipe/vendors/mariadb/Columns$Column" "nullable" "Z" (Value.int (0 : Int32)) := D440 (Or.inr hw89) (ty := .boolean) (by decide)
                          show Go p.tables e below Pf (T440.setTop (mkF m 324 #[vi is, vi ia, vi ib, vi (2 : Int32), vi (1 : Int32), vi (0 : Int32), vi q6, vi q7, vi q8, vi q9, vi w154_0, vi w156_0, vi w158_0, vi w160_0, vi w162_0, vi w164_0, vi w166_0, vi w168_0, vr b409, vr b438, .unset, .unset] [(.ref b440), (.ref b438)]))
                          refine Go.by' (fun t k => (XS.dup X440.here hx rfl (hb hby at_324) rfl rfl (XS.iload X440.here hx rfl (hb hby at_325) rfl k))) ?_
                          obtain ⟨_, _, ⟨T441, L441, k441, n441⟩, -, X441, ⟨Lc441, hQ441, l441, y441, z441⟩, st441⟩ := Jvm.LawKit.callS X440 hx (y := (⟨"com/example/slatewipe/slatewipe/vendors/mariadb/ColumnSameTypesPinLaw", "str", "(I)Ljava/lang/String;"⟩ : MethodName)) hown (mvT hZ hw43) (mvT hZ hw44) (mvT hZ hw45) (mvT hZ hw46) (by decide) (backOf (W := 3) (rmStr l Z a0 hw [] wD kD vcs G w154_0 h440 n0 O440 bd10.1 bd10.2) hZ hw46 hw45 (by decide) (by decide)) (g := (mkF m 327 #[vi is, vi ia, vi ib, vi (2 : Int32), vi (1 : Int32), vi (0 : Int32), vi q6, vi q7, vi q8, vi q9, vi w154_0, vi w156_0, vi w158_0, vi w160_0, vi w162_0, vi w164_0, vi w166_0, vi w168_0, vr b409, vr b438, .unset, .unset] [(.int w154_0), (.ref b440), (.ref b440), (.ref b438)])) rfl (by rw [hml]; rfl) (argsL := [(.int w154_0)]) (rest := [(.ref b440), (.ref b440), (.ref b438)]) (lenOf pd_16 rfl) rfl (by show 2 * 0 + _ ≤ _; exact Nat.le_of_eq rfl) (hb hby at_327) (fun _ _ => ⟨rfl, e440, (by decide : 18 + 3 ≤ _), (by decide : 49 + 6 ≤ _)⟩)
                          dsimp only [Pt.U, Pt.locs, Pt.cells, Pt.slots] at X441 l441 y441 z441 st441 hQ441
                          subst l441 y441 z441
                          obtain ⟨r_441, rb_441, kb_441, rfl, N441q, K441, f441_0, f441_1, f441_2, f441_3, f441_4, f441_5⟩ := hQ441
                          have N441 := Fr.app N439 N441q
                          obtain ⟨lc441, X441, N441⟩ := own_pack X441 N441
                          refine Go.by' st441 ?_
                          have g_r_441 : n0 ≤ r_441 := Nat.le_trans (own_le O440) f441_1
                          have sz_r_441 : h0.size ≤ r_441 := Nat.le_trans KC440.1 f441_1
                          have g_rb_441 : n0 ≤ rb_441 := Nat.le_trans (own_le O440) f441_5
                          have sz_rb_441 : h0.size ≤ rb_441 := Nat.le_trans KC440.1 f441_5
                          have O441 := O440.keep K441 all0
                          have KC441 : Keep h0 T441.heap [] := KC440.trans K441 all0
                          show Go p.tables e below Pf (T441.setTop (mkF m 330 #[vi is, vi ia, vi ib, vi (2 : Int32), vi (1 : Int32), vi (0 : Int32), vi q6, vi q7, vi q8, vi q9, vi w154_0, vi w156_0, vi w158_0, vi w160_0, vi w162_0, vi w164_0, vi w166_0, vi w168_0, vr b409, vr b438, .unset, .unset] [(.ref r_441), (.ref b440), (.ref b440), (.ref b438)]))
                          refine Go.by' (fun t k => (XS.iload X441.here hx rfl (hb hby at_330) rfl k)) ?_
                          obtain ⟨_, _, ⟨T442, L442, k442, n442⟩, -, X442, ⟨Lc442, hQ442, l442, y442, z442⟩, st442⟩ := Jvm.LawKit.callS X441 hx (y := (⟨"com/example/slatewipe/slatewipe/vendors/mariadb/ColumnSameTypesPinLaw", "str", "(I)Ljava/lang/String;"⟩ : MethodName)) hown (mvT hZ hw43) (mvT hZ hw44) (mvT hZ hw45) (mvT hZ hw46) (by decide) (backOf (W := 4) (rmStr l Z a0 hw [] wD kD vcs G w156_0 T441.heap n0 O441 bd11.1 bd11.2) hZ hw46 hw45 (by decide) (by decide)) (g := (mkF m 332 #[vi is, vi ia, vi ib, vi (2 : Int32), vi (1 : Int32), vi (0 : Int32), vi q6, vi q7, vi q8, vi q9, vi w154_0, vi w156_0, vi w158_0, vi w160_0, vi w162_0, vi w164_0, vi w166_0, vi w168_0, vr b409, vr b438, .unset, .unset] [(.int w156_0), (.ref r_441), (.ref b440), (.ref b440), (.ref b438)])) rfl (by rw [hml]; rfl) (argsL := [(.int w156_0)]) (rest := [(.ref r_441), (.ref b440), (.ref b440), (.ref b438)]) (lenOf pd_16 rfl) rfl (by show 2 * 0 + _ ≤ _; exact Nat.le_of_eq rfl) (hb hby at_332) (fun _ _ => ⟨rfl, rfl, (by decide : 21 + 3 ≤ _), (by decide : 55 + 6 ≤ _)⟩)
                          dsimp only [Pt.U, Pt.locs, Pt.cells, Pt.slots] at X442 l442 y442 z442 st442 hQ442
                          subst l442 y442 z442
                          obtain ⟨r_442, rb_442, kb_442, rfl, N442q, K442, f442_0, f442_1, f442_2, f442_3, f442_4, f442_5⟩ := hQ442
                          have N442 := Fr.app N441 N442q
                          obtain ⟨lc442, X442, N442⟩ := own_pack X442 N442
                          refine Go.by' st442 ?_
                          have g_r_442 : n0 ≤ r_442 := Nat.le_trans (own_le O441) f442_1
                          have sz_r_442 : h0.size ≤ r_442 := Nat.le_trans KC441.1 f442_1
                          have g_rb_442 : n0 ≤ rb_442 := Nat.le_trans (own_le O441) f442_5
                          have sz_rb_442 : h0.size ≤ rb_442 := Nat.le_trans KC441.1 f442_5
                          have O442 := O441.keep K442 all0
                          have KC442 : Keep h0 T442.heap [] := KC441.trans K442 all0
                          show Go p.tables e below Pf (T442.setTop (mkF m 335 #[vi is, vi ia, vi ib, vi (2 : Int32), vi (1 : Int32), vi (0 : Int32), vi q6, vi q7, vi q8, vi q9, vi w154_0, vi w156_0, vi w158_0, vi w160_0, vi w162_0, vi w164_0, vi w166_0, vi w168_0, vr b409, vr b438, .unset, .unset] [(.ref r_442), (.ref r_441), (.ref b440), (.ref b440), (.ref b438)]))
                          refine Go.by' (fun t k => (XS.iload X442.here hx rfl (hb hby at_335) rfl k)) ?_
                          have c444 := ((A440.keep K441).keep K442)
                          have c445 := ((Fn440_85.keep K441 nin0).keep K442 nin0)
                          have c446 := ((Fn440_87.keep K441 nin0).keep K442 nin0)
                          have c447 := ((Fn440_89.keep K441 nin0).keep K442 nin0)
                          obtain ⟨_, _, ⟨T443, L443, k443, n443⟩, -, X443, ⟨Lc443, hQ443, l443, y443, z443⟩, st443⟩ := X442.specialBack hx (y := (⟨"com/example/slatewipe/slatewipe/vendors/mariadb/Columns$Column", "<init>", "(Ljava/lang/String;Ljava/lang/String;Z)V"⟩ : MethodName)) rfl hown (mvT hZ hw75) (mvT hZ hw76) (mvT hZ hw77) (by decide) (backOf (W := 2) (rmCol l Z a0 hw [] wD kD vcs G b440 r_441 r_442 w166_0 T442.heap n0 O442 c444 c445 c446 c447 g_b440 bw166_0) hZ hw77 hw28 (by decide) (by decide)) (g := (mkF m 337 #[vi is, vi ia, vi ib, vi (2 : Int32), vi (1 : Int32), vi (0 : Int32), vi q6, vi q7, vi q8, vi q9, vi w154_0, vi w156_0, vi w158_0, vi w160_0, vi w162_0, vi w164_0, vi w166_0, vi w168_0, vr b409, vr b438, .unset, .unset] [(.int w166_0), (.ref r_442), (.ref r_441), (.ref b440), (.ref b440), (.ref b438)])) rfl (by rw [hml]; rfl) (Steps.refl _) (a := b440) (argsL := [(.ref r_441), (.ref r_442), (.int w166_0)]) (rest := [(.ref b440), (.ref b438)]) (lenOf pd_17 rfl) rfl (by show 2 * 0 + _ ≤ _; exact Nat.le_of_eq rfl) (hb hby at_337) (fun _ _ => ⟨rfl, rfl, (by decide : 24 + 0 ≤ _), (by decide : 61 + 0 ≤ _)⟩)
                          dsimp only [Pt.U, Pt.locs, Pt.cells, Pt.slots] at X443 l443 y443 z443 st443 hQ443
                          subst l443 y443 z443
                          obtain ⟨rfl, N443q, K443, f443_0, f443_1, f443_2⟩ := hQ443
                          have N443 := Fr.app N442 N443q
                          obtain ⟨lc443, X443, N443⟩ := own_pack X443 N443
                          refine Go.by' (fun t k => st443.trans k) ?_
                          have O443 := O442.keep K443 (allS g_b440 all0)
                          have KC443 : Keep h0 T443.heap [] := KC442.trans K443 (allS (Or.inr sz_b440) all0)
                          have c449 := ((((f439_0.ext E440).keep K441).keep K442).keep K443)
                          have c450 := ((((f439_3.ext E440).keep K441 nin0).keep K442 nin0).keep K443 (ninS (Nat.ne_of_lt (Nat.lt_of_lt_of_le (Nat.lt_of_lt_of_le A438.lt K439.1) (Nat.le_of_eq g440.symm))) nin0))
                          have c451 := ((((f439_2.ext E440).keep K441 nin0).keep K442 nin0).keep K443 (ninS (Nat.ne_of_lt (Nat.lt_of_lt_of_le (Nat.lt_of_lt_of_le A438.lt K439.1) (Nat.le_of_eq g440.symm))) nin0))
                          have c452 := ((((f439_1.ext E440).keep K441 nin0).keep K442 nin0).keep K443 (ninS (Nat.ne_of_lt (Nat.lt_of_lt_of_le (Nat.lt_of_lt_of_le A438.lt K439.1) (Nat.le_of_eq g440.symm))) nin0))
                          obtain ⟨cq448, kq448, q448a, q448b, q448c⟩ := isOf hZ rfl c449
                          obtain ⟨_, _, ⟨T448, L448, k448, n448⟩, -, X448, ⟨Lc448, hQ448, l448, y448, z448⟩, st448⟩ := X443.interfaceBack hx (xi := (⟨"java/util/List", "add", "(Ljava/lang/Object;)Z"⟩ : MethodName)) (y := (⟨"java/util/ArrayList", "add", "(Ljava/lang/Object;)Z"⟩ : MethodName)) hown (mvT hZ hw90) (mvT hZ hw91) (mvT hZ hw92) (mvT hZ hw93) (mvT hZ hw94) (mvT hZ hw95) (mvT hZ hw96) (mvT hZ hw37) (by decide) (backOf (W := 0) (rmA1_0 l Z a0 hw [] wD kD vcs G b438 b440 ((0 : Int32)) T443.heap n0 O443 c449 c450 c451 c452 g_b438 f443_0) hZ hw97 hw2 (by decide) (by decide)) q448a q448b q448c (g := (mkF m 340 #[vi is, vi ia, vi ib, vi (2 : Int32), vi (1 : Int32), vi (0 : Int32), vi q6, vi q7, vi q8, vi q9, vi w154_0, vi w156_0, vi w158_0, vi w160_0, vi w162_0, vi w164_0, vi w166_0, vi w168_0, vr b409, vr b438, .unset, .unset] [(.ref b440), (.ref b438)])) rfl (by rw [hml]; rfl) (Steps.refl _) (argsL := [(.ref b440)]) (rest := []) (lenOf pd_14 rfl) rfl (by show 2 * 0 + _ ≤ _; exact Nat.le_of_eq rfl) (hb hby at_340) (fun _ _ => ⟨rfl, rfl, (by decide : 24 + 1 ≤ _), (by decide : 61 + 10 ≤ _)⟩)
                          dsimp only [Pt.U, Pt.locs, Pt.cells, Pt.slots] at X448 l448 y448 z448 st448 hQ448
                          subst l448 y448 z448
                          obtain ⟨r_448, kk_448, rfl, N448q, K448, f448_0, f448_1, f448_2, f448_3, f448_4, f448_5, r448_0⟩ := hQ448
                          have N448 := Fr.app N443 N448q
                          obtain ⟨lc448, X448, N448⟩ := own_pack X448 N448
                          refine Go.by' (fun t k => st448.trans k) ?_
                          have g_r_448 : n0 ≤ r_448 := Nat.le_trans (own_le O443) f448_1
                          have sz_r_448 : h0.size ≤ r_448 := Nat.le_trans KC443.1 f448_1
                          have O448 := O443.keep K448 (allS g_b438 all0)
                          have KC448 : Keep h0 T448.heap [] := KC443.trans K448 (allS (Or.inr sz_b438) all0)
                          show Go p.tables e below Pf (T448.setTop (mkF m 345 #[vi is, vi ia, vi ib, vi (2 : Int32), vi (1 : Int32), vi (0 : Int32), vi q6, vi q7, vi q8, vi q9, vi w154_0, vi w156_0, vi w158_0, vi w160_0, vi w162_0, vi w164_0, vi w166_0, vi w168_0, vr b409, vr b438, .unset, .unset] [(.int (1 : Int32))]))
                          refine Go.by' (fun t k => (XS.pop X448.here hx rfl (hb hby at_345) rfl rfl (XS.iload X448.here hx rfl (hb hby at_346) rfl (XS.iconst X448.here hx rfl (hb hby at_348) (XS.icmpYes X448.here hx rfl (pc0 := 349) (pc' := 379) rfl (hb hby at_349) rfl (tlt (by decide)).1 (by decide) (by decide) (XS.aload X448.here hx rfl (hb hby at_379) rfl rfl (XS.aload X448.here hx rfl (hb hby at_381) rfl rfl k))))))) ?_
                          have c454 := (((((((f432_1.ext E438).keep K439).ext E440).keep K441).keep K442).keep K443).keep K448)
                          have c455 := (((((((f432_3.ext E438).keep K439 (ninS (Nat.ne_of_lt (Nat.lt_of_lt_of_le (Nat.lt_of_lt_of_le A409.lt (Nat.le_trans K410.1 (Nat.le_trans E411.1 (Nat.le_trans K412.1 (Nat.le_trans K413.1 (Nat.le_trans K414.1 (Nat.le_trans K419.1 (Nat.le_trans E424.1 (Nat.le_trans K425.1 (Nat.le_trans K426.1 (Nat.le_trans K427.1 K432.1))))))))))) (Nat.le_of_eq g438.symm))) nin0)).ext E440).keep K441 nin0).keep K442 nin0).keep K443 (ninS (Nat.ne_of_lt (Nat.lt_of_lt_of_le (Nat.lt_of_lt_of_le A409.lt (Nat.le_trans K410.1 (Nat.le_trans E411.1 (Nat.le_trans K412.1 (Nat.le_trans K413.1 (Nat.le_trans K414.1 (Nat.le_trans K419.1 (Nat.le_trans E424.1 (Nat.le_trans K425.1 (Nat.le_trans K426.1 (Nat.le_trans K427.1 (Nat.le_trans K432.1 (Nat.le_trans E438.1 K439.1))))))))))))) (Nat.le_of_eq g440.symm))) nin0)).keep K448 (ninS (Nat.ne_of_lt (Nat.lt_of_lt_of_le (Nat.lt_of_lt_of_le A409.lt (Nat.le_trans K410.1 (Nat.le_trans E411.1 (Nat.le_trans K412.1 (Nat.le_trans K413.1 (Nat.le_trans K414.1 (Nat.le_trans K419.1 (Nat.le_trans E424.1 (Nat.le_trans K425.1 (Nat.le_trans K426.1 (Nat.le_trans K427.1 K432.1))))))))))) (Nat.le_of_eq g438.symm))) nin0))
                          obtain ⟨_, _, ⟨T453, L453, k453, n453⟩, -, X453, ⟨Lc453, hQ453, l453, y453, z453⟩, st453⟩ := Jvm.LawKit.callS X448 hx (y := (⟨"com/example/slatewipe/slatewipe/vendors/mariadb/Columns$Column", "sameTypes", "(Ljava/util/List;Ljava/util/List;)Z"⟩ : MethodName)) hown (mvT hZ hw26) (mvT hZ hw27) (mvT hZ hw28) (mvT hZ hw29) (by decide) (backOf (W := 0) (rmTd l Z a0 hw [] wD kD vcs G b409 b438 ((2 : Int32)) ((1 : Int32)) T448.heap n0 O448 c454 f448_2 c455 f448_4 (by decide)) hZ hw29 hw28 (by decide) (by decide)) (g := (mkF m 383 #[vi is, vi ia, vi ib, vi (2 : Int32), vi (1 : Int32), vi (0 : Int32), vi q6, vi q7, vi q8, vi q9, vi w154_0, vi w156_0, vi w158_0, vi w160_0, vi w162_0, vi w164_0, vi w166_0, vi w168_0, vr b409, vr b438, .unset, .unset] [(.ref b438), (.ref b409)])) rfl (by rw [hml]; rfl) (argsL := [(.ref b409), (.ref b438)]) (rest := []) (lenOf pd_15 rfl) rfl (by show 2 * 0 + _ ≤ _; exact Nat.le_of_eq rfl) (hb hby at_383) (fun _ _ => ⟨rfl, rfl, (by decide : 25 + 0 ≤ _), (by decide : 71 + 0 ≤ _)⟩)
                          dsimp only [Pt.U, Pt.locs, Pt.cells, Pt.slots] at X453 l453 y453 z453 st453 hQ453
                          subst l453 y453 z453
                          obtain ⟨rfl, rfl, e453⟩ := hQ453
                          try replace X453 := own_nil X453
                          refine Go.by' st453 ?_
                          show Go p.tables e below Pf (T453.setTop (mkF m 386 #[vi is, vi ia, vi ib, vi (2 : Int32), vi (1 : Int32), vi (0 : Int32), vi q6, vi q7, vi q8, vi q9, vi w154_0, vi w156_0, vi w158_0, vi w160_0, vi w162_0, vi w164_0, vi w166_0, vi w168_0, vr b409, vr b438, .unset, .unset] [(.int (0 : Int32))]))
                          refine Go.by' (fun t k => (XS.istore X453.here hx rfl (hb hby at_386) rfl (l' := #[vi is, vi ia, vi ib, vi (2 : Int32), vi (1 : Int32), vi (0 : Int32), vi q6, vi q7, vi q8, vi q9, vi w154_0, vi w156_0, vi w158_0, vi w160_0, vi w162_0, vi w164_0, vi w166_0, vi w168_0, vr b409, vr b438, vi (0 : Int32), .unset]) rfl (XS.iload X453.here hx rfl (hb hby at_388) rfl (XS.ifYes X453.here hx rfl (pc0 := 390) (pc' := 399) rfl (hb hby at_390) rfl ((if0 _ _).trans (teq (by decide)).1) (by decide) (by decide) (XS.iloadN X453.here hx rfl (hb hby at_399) rfl (XS.iload X453.here hx rfl (hb hby at_400) rfl (XS.icmpNo X453.here hx rfl (hb hby at_402) rfl (feq (by decide)).1 (XS.iconst X453.here hx rfl (hb hby at_405) (XS.istore X453.here hx rfl (hb hby at_406) rfl (l' := #[vi is, vi ia, vi ib, vi (2 : Int32), vi (1 : Int32), vi (0 : Int32), vi q6, vi q7, vi q8, vi q9, vi w154_0, vi w156_0, vi w158_0, vi w160_0, vi w162_0, vi w164_0, vi w166_0, vi w168_0, vr b409, vr b438, vi (0 : Int32), vi (0 : Int32)]) rfl k))))))))) ?_
                          show Go p.tables e below Pf (T453.setTop (mkF m 408 #[vi is, vi ia, vi ib, vi (2 : Int32), vi (1 : Int32), vi (0 : Int32), vi q6, vi q7, vi q8, vi q9, vi w154_0, vi w156_0, vi w158_0, vi w160_0, vi w162_0, vi w164_0, vi w166_0, vi w168_0, vr b409, vr b438, vi (0 : Int32), vi (0 : Int32)] []))
                          refine Go.by' (fun t k => (XS.goto X453.here hx rfl (pc0 := 408) (pc' := 471) rfl (hb hby at_408) (by decide) (by decide) (XS.iload X453.here hx rfl (hb hby at_471) rfl (XS.iload X453.here hx rfl (hb hby at_473) rfl (XS.icmpNo X453.here hx rfl (hb hby at_475) rfl (teq (by decide)).2 (XS.iconst X453.here hx rfl (hb hby at_478) (XS.goto X453.here hx rfl (pc0 := 479) (pc' := 483) rfl (hb hby at_479) (by decide) (by decide) k))))))) ?_
                          show Go p.tables e below Pf (T453.setTop (mkF m 483 #[vi is, vi ia, vi ib, vi (2 : Int32), vi (1 : Int32), vi (0 : Int32), vi q6, vi q7, vi q8, vi q9, vi w154_0, vi w156_0, vi w158_0, vi w160_0, vi w162_0, vi w164_0, vi w166_0, vi w168_0, vr b409, vr b438, vi (0 : Int32), vi (0 : Int32)] [(.int (1 : Int32))]))
                          rw [hPf]
                          exact Go.retI' X453 hx hret hlk (by simp) rfl (hb hby at_483) (by decide) (by decide) ⟨rfl, N448, (by rw [e453]; exact KC448)⟩
                        · refine Go.castF (a := ((((is.toUInt32 >>> ((2 : Int32) &&& 31).toUInt32).toInt32) &&& (3 : Int32)) % (3 : Int32))) (b := (2 : Int32)) (fun z' : Int32 => mkF m 223 #[vi is, vi ia, vi ib, vi (2 : Int32), vi z', vi (0 : Int32), vi q6, vi q7, vi q8, vi q9, vi w154_0, vi w156_0, vi w158_0, vi w160_0, vi w162_0, vi w164_0, vi w166_0, vi w168_0, .unset, .unset, .unset, .unset] []) (hm) ?_
                          obtain ⟨T456, h456, X456, e456, E456, A456, D456, -, st456⟩ := newO X168 hx hZ hown hw0 hw1 hw2 e168 (g := (mkF m 223 #[vi is, vi ia, vi ib, vi (2 : Int32), vi (2 : Int32), vi (0 : Int32), vi q6, vi q7, vi q8, vi q9, vi w154_0, vi w156_0, vi w158_0, vi w160_0, vi w162_0, vi w164_0, vi w166_0, vi w168_0, .unset, .unset, .unset, .unset] [])) rfl (hb hby at_223) (by decide) (by decide)
                          obtain ⟨b456, g456⟩ : ∃ z, z = h0.size := ⟨_, rfl⟩
                          rw [← g456] at A456 D456 st456
                          refine Go.by' st456 ?_
                          have g_b456 : n0 ≤ b456 := Nat.le_trans (own_le O0) (Nat.le_of_eq g456.symm)
                          have sz_b456 : h0.size ≤ b456 := Nat.le_trans KC0.1 (Nat.le_of_eq g456.symm)
                          have O456 := O0.ext E456
                          have KC456 : Keep h0 h456 [] := KC0.ext E456
                          have Fn456_22 : Fld Z h456 b456 "java/util/AbstractList" "modCount" "I" (Value.int (0 : Int32)) := D456 (Or.inl hw22) (ty := .int) (by decide)
                          have Fn456_25 : Fld Z h456 b456 "java/util/ArrayList" "elementData" "[Ljava/lang/Object;" Value.null := D456 (Or.inl hw25) (ty := (.array (.object "java/lang/Object"))) (by decide)
                          have Fn456_40 : Fld Z h456 b456 "java/util/ArrayList" "size" "I" (Value.int (0 : Int32)) := D456 (Or.inl hw40) (ty := .int) (by decide)
                          show Go p.tables e below Pf (T456.setTop (mkF m 226 #[vi is, vi ia, vi ib, vi (2 : Int32), vi (2 : Int32), vi (0 : Int32), vi q6, vi q7, vi q8, vi q9, vi w154_0, vi w156_0, vi w158_0, vi w160_0, vi w162_0, vi w164_0, vi w166_0, vi w168_0, .unset, .unset, .unset, .unset] [(.ref b456)]))
                          refine Go.by' (fun t k => (XS.dup X456.here hx rfl (hb hby at_226) rfl rfl k)) ?_
                          obtain ⟨_, _, ⟨T457, L457, k457, n457⟩, -, X457, ⟨Lc457, hQ457, l457, y457, z457⟩, st457⟩ := X456.specialBack hx (y := (⟨"java/util/ArrayList", "<init>", "()V"⟩ : MethodName)) rfl hown (mvT hZ hw3) (mvT hZ hw4) (mvT hZ hw5) (by decide) (backOf (W := 1) (rmAL l Z a0 hw [] wD kD vcs G b456 h456 n0 O456 A456 Fn456_22 Fn456_25 Fn456_40 g_b456) hZ hw5 hw2 (by decide) (by decide)) (g := (mkF m 227 #[vi is, vi ia, vi ib, vi (2 : Int32), vi (2 : Int32), vi (0 : Int32), vi q6, vi q7, vi q8, vi q9, vi w154_0, vi w156_0, vi w158_0, vi w160_0, vi w162_0, vi w164_0, vi w166_0, vi w168_0, .unset, .unset, .unset, .unset] [(.ref b456), (.ref b456)])) rfl (by rw [hml]; rfl) (Steps.refl _) (a := b456) (argsL := []) (rest := [(.ref b456)]) (lenOf pd_5 rfl) rfl (by show 2 * 0 + _ ≤ _; exact Nat.le_of_eq rfl) (hb hby at_227) (fun _ _ => ⟨rfl, e456, (by decide : 1 + 0 ≤ _), (by decide : 3 + 0 ≤ _)⟩)
                          dsimp only [Pt.U, Pt.locs, Pt.cells, Pt.slots] at X457 l457 y457 z457 st457 hQ457
                          subst l457 y457 z457
                          obtain ⟨rfl, N457q, K457, f457_0, f457_1, f457_2, f457_3⟩ := hQ457
                          have N457 := Fr.app N0 N457q
                          obtain ⟨lc457, X457, N457⟩ := own_pack X457 N457
                          refine Go.by' (fun t k => st457.trans k) ?_
                          have O457 := O456.keep K457 (allS g_b456 all0)
                          have KC457 : Keep h0 T457.heap [] := KC456.trans K457 (allS (Or.inr sz_b456) all0)
                          show Go p.tables e below Pf (T457.setTop (mkF m 230 #[vi is, vi ia, vi ib, vi (2 : Int32), vi (2 : Int32), vi (0 : Int32), vi q6, vi q7, vi q8, vi q9, vi w154_0, vi w156_0, vi w158_0, vi w160_0, vi w162_0, vi w164_0, vi w166_0, vi w168_0, .unset, .unset, .unset, .unset] [(.ref b456)]))
                          refine Go.by' (fun t k => (XS.astore X457.here hx rfl (hb hby at_230) rfl rfl (l' := #[vi is, vi ia, vi ib, vi (2 : Int32), vi (2 : Int32), vi (0 : Int32), vi q6, vi q7, vi q8, vi q9, vi w154_0, vi w156_0, vi w158_0, vi w160_0, vi w162_0, vi w164_0, vi w166_0, vi w168_0, vr b456, .unset, .unset, .unset]) rfl (XS.iloadN X457.here hx rfl (hb hby at_232) rfl (XS.iconst X457.here hx rfl (hb hby at_233) (XS.icmpNo X457.here hx rfl (hb hby at_234) rfl (flt (by decide)).1 (XS.aload X457.here hx rfl (hb hby at_237) rfl rfl k)))))) ?_
                          obtain ⟨T458, h458, X458, e458, E458, A458, D458, -, st458⟩ := newO X457 hx hZ hown hw41 hw42 hw28 rfl (g := (mkF m 239 #[vi is, vi ia, vi ib, vi (2 : Int32), vi (2 : Int32), vi (0 : Int32), vi q6, vi q7, vi q8, vi q9, vi w154_0, vi w156_0, vi w158_0, vi w160_0, vi w162_0, vi w164_0, vi w166_0, vi w168_0, vr b456, .unset, .unset, .unset] [(.ref b456)])) rfl (hb hby at_239) (by decide) (by decide)
                          obtain ⟨b458, g458⟩ : ∃ z, z = T457.heap.size := ⟨_, rfl⟩
                          rw [← g458] at A458 D458 st458
                          refine Go.by' st458 ?_
                          have g_b458 : n0 ≤ b458 := Nat.le_trans (own_le O457) (Nat.le_of_eq g458.symm)
                          have sz_b458 : h0.size ≤ b458 := Nat.le_trans KC457.1 (Nat.le_of_eq g458.symm)
                          have O458 := O457.ext E458
                          have KC458 : Keep h0 h458 [] := KC457.ext E458
                          have Fn458_85 : Fld Z h458 b458 "com/example/slatewipe/slatewipe/vendors/mariadb/Columns$Column" "name" "Ljava/lang/String;" Value.null := D458 (Or.inr hw85) (ty := (.object "java/lang/String")) (by decide)
                          have Fn458_87 : Fld Z h458 b458 "com/example/slatewipe/slatewipe/vendors/mariadb/Columns$Column" "type" "Ljava/lang/String;" Value.null := D458 (Or.inr hw87) (ty := (.object "java/lang/String")) (by decide)
                          have Fn458_89 : Fld Z h458 b458 "com/example/slatewipe/slatewipe/vendors/mariadb/Columns$Column" "nullable" "Z" (Value.int (0 : Int32)) := D458 (Or.inr hw89) (ty := .boolean) (by decide)
                          show Go p.tables e below Pf (T458.setTop (mkF m 242 #[vi is, vi ia, vi ib, vi (2 : Int32), vi (2 : Int32), vi (0 : Int32), vi q6, vi q7, vi q8, vi q9, vi w154_0, vi w156_0, vi w158_0, vi w160_0, vi w162_0, vi w164_0, vi w166_0, vi w168_0, vr b456, .unset, .unset, .unset] [(.ref b458), (.ref b456)]))
                          refine Go.by' (fun t k => (XS.dup X458.here hx rfl (hb hby at_242) rfl rfl (XS.iload X458.here hx rfl (hb hby at_243) rfl k))) ?_
                          obtain ⟨_, _, ⟨T459, L459, k459, n459⟩, -, X459, ⟨Lc459, hQ459, l459, y459, z459⟩, st459⟩ := Jvm.LawKit.callS X458 hx (y := (⟨"com/example/slatewipe/slatewipe/vendors/mariadb/ColumnSameTypesPinLaw", "str", "(I)Ljava/lang/String;"⟩ : MethodName)) hown (mvT hZ hw43) (mvT hZ hw44) (mvT hZ hw45) (mvT hZ hw46) (by decide) (backOf (W := 3) (rmStr l Z a0 hw [] wD kD vcs G q6 h458 n0 O458 bd6.1 bd6.2) hZ hw46 hw45 (by decide) (by decide)) (g := (mkF m 245 #[vi is, vi ia, vi ib, vi (2 : Int32), vi (2 : Int32), vi (0 : Int32), vi q6, vi q7, vi q8, vi q9, vi w154_0, vi w156_0, vi w158_0, vi w160_0, vi w162_0, vi w164_0, vi w166_0, vi w168_0, vr b456, .unset, .unset, .unset] [(.int q6), (.ref b458), (.ref b458), (.ref b456)])) rfl (by rw [hml]; rfl) (argsL := [(.int q6)]) (rest := [(.ref b458), (.ref b458), (.ref b456)]) (lenOf pd_16 rfl) rfl (by show 2 * 0 + _ ≤ _; exact Nat.le_of_eq rfl) (hb hby at_245) (fun _ _ => ⟨rfl, e458, (by decide : 2 + 3 ≤ _), (by decide : 6 + 6 ≤ _)⟩)
                          dsimp only [Pt.U, Pt.locs, Pt.cells, Pt.slots] at X459 l459 y459 z459 st459 hQ459
                          subst l459 y459 z459
                          obtain ⟨r_459, rb_459, kb_459, rfl, N459q, K459, f459_0, f459_1, f459_2, f459_3, f459_4, f459_5⟩ := hQ459
                          have N459 := Fr.app N457 N459q
                          obtain ⟨lc459, X459, N459⟩ := own_pack X459 N459
                          refine Go.by' st459 ?_
                          have g_r_459 : n0 ≤ r_459 := Nat.le_trans (own_le O458) f459_1
                          have sz_r_459 : h0.size ≤ r_459 := Nat.le_trans KC458.1 f459_1
                          have g_rb_459 : n0 ≤ rb_459 := Nat.le_trans (own_le O458) f459_5
                          have sz_rb_459 : h0.size ≤ rb_459 := Nat.le_trans KC458.1 f459_5
                          have O459 := O458.keep K459 all0
                          have KC459 : Keep h0 T459.heap [] := KC458.trans K459 all0
                          show Go p.tables e below Pf (T459.setTop (mkF m 248 #[vi is, vi ia, vi ib, vi (2 : Int32), vi (2 : Int32), vi (0 : Int32), vi q6, vi q7, vi q8, vi q9, vi w154_0, vi w156_0, vi w158_0, vi w160_0, vi w162_0, vi w164_0, vi w166_0, vi w168_0, vr b456, .unset, .unset, .unset] [(.ref r_459), (.ref b458), (.ref b458), (.ref b456)]))
                          refine Go.by' (fun t k => (XS.iload X459.here hx rfl (hb hby at_248) rfl k)) ?_
                          obtain ⟨_, _, ⟨T460, L460, k460, n460⟩, -, X460, ⟨Lc460, hQ460, l460, y460, z460⟩, st460⟩ := Jvm.LawKit.callS X459 hx (y := (⟨"com/example/slatewipe/slatewipe/vendors/mariadb/ColumnSameTypesPinLaw", "str", "(I)Ljava/lang/String;"⟩ : MethodName)) hown (mvT hZ hw43) (mvT hZ hw44) (mvT hZ hw45) (mvT hZ hw46) (by decide) (backOf (W := 4) (rmStr l Z a0 hw [] wD kD vcs G q7 T459.heap n0 O459 bd7.1 bd7.2) hZ hw46 hw45 (by decide) (by decide)) (g := (mkF m 250 #[vi is, vi ia, vi ib, vi (2 : Int32), vi (2 : Int32), vi (0 : Int32), vi q6, vi q7, vi q8, vi q9, vi w154_0, vi w156_0, vi w158_0, vi w160_0, vi w162_0, vi w164_0, vi w166_0, vi w168_0, vr b456, .unset, .unset, .unset] [(.int q7), (.ref r_459), (.ref b458), (.ref b458), (.ref b456)])) rfl (by rw [hml]; rfl) (argsL := [(.int q7)]) (rest := [(.ref r_459), (.ref b458), (.ref b458), (.ref b456)]) (lenOf pd_16 rfl) rfl (by show 2 * 0 + _ ≤ _; exact Nat.le_of_eq rfl) (hb hby at_250) (fun _ _ => ⟨rfl, rfl, (by decide : 5 + 3 ≤ _), (by decide : 12 + 6 ≤ _)⟩)
                          dsimp only [Pt.U, Pt.locs, Pt.cells, Pt.slots] at X460 l460 y460 z460 st460 hQ460
                          subst l460 y460 z460
                          obtain ⟨r_460, rb_460, kb_460, rfl, N460q, K460, f460_0, f460_1, f460_2, f460_3, f460_4, f460_5⟩ := hQ460
                          have N460 := Fr.app N459 N460q
                          obtain ⟨lc460, X460, N460⟩ := own_pack X460 N460
                          refine Go.by' st460 ?_
                          have g_r_460 : n0 ≤ r_460 := Nat.le_trans (own_le O459) f460_1
                          have sz_r_460 : h0.size ≤ r_460 := Nat.le_trans KC459.1 f460_1
                          have g_rb_460 : n0 ≤ rb_460 := Nat.le_trans (own_le O459) f460_5
                          have sz_rb_460 : h0.size ≤ rb_460 := Nat.le_trans KC459.1 f460_5
                          have O460 := O459.keep K460 all0
                          have KC460 : Keep h0 T460.heap [] := KC459.trans K460 all0
                          show Go p.tables e below Pf (T460.setTop (mkF m 253 #[vi is, vi ia, vi ib, vi (2 : Int32), vi (2 : Int32), vi (0 : Int32), vi q6, vi q7, vi q8, vi q9, vi w154_0, vi w156_0, vi w158_0, vi w160_0, vi w162_0, vi w164_0, vi w166_0, vi w168_0, vr b456, .unset, .unset, .unset] [(.ref r_460), (.ref r_459), (.ref b458), (.ref b458), (.ref b456)]))
                          refine Go.by' (fun t k => (XS.iload X460.here hx rfl (hb hby at_253) rfl k)) ?_
                          have c462 := ((A458.keep K459).keep K460)
                          have c463 := ((Fn458_85.keep K459 nin0).keep K460 nin0)
                          have c464 := ((Fn458_87.keep K459 nin0).keep K460 nin0)
                          have c465 := ((Fn458_89.keep K459 nin0).keep K460 nin0)
                          obtain ⟨_, _, ⟨T461, L461, k461, n461⟩, -, X461, ⟨Lc461, hQ461, l461, y461, z461⟩, st461⟩ := X460.specialBack hx (y := (⟨"com/example/slatewipe/slatewipe/vendors/mariadb/Columns$Column", "<init>", "(Ljava/lang/String;Ljava/lang/String;Z)V"⟩ : MethodName)) rfl hown (mvT hZ hw75) (mvT hZ hw76) (mvT hZ hw77) (by decide) (backOf (W := 2) (rmCol l Z a0 hw [] wD kD vcs G b458 r_459 r_460 w162_0 T460.heap n0 O460 c462 c463 c464 c465 g_b458 bw162_0) hZ hw77 hw28 (by decide) (by decide)) (g := (mkF m 255 #[vi is, vi ia, vi ib, vi (2 : Int32), vi (2 : Int32), vi (0 : Int32), vi q6, vi q7, vi q8, vi q9, vi w154_0, vi w156_0, vi w158_0, vi w160_0, vi w162_0, vi w164_0, vi w166_0, vi w168_0, vr b456, .unset, .unset, .unset] [(.int w162_0), (.ref r_460), (.ref r_459), (.ref b458), (.ref b458), (.ref b456)])) rfl (by rw [hml]; rfl) (Steps.refl _) (a := b458) (argsL := [(.ref r_459), (.ref r_460), (.int w162_0)]) (rest := [(.ref b458), (.ref b456)]) (lenOf pd_17 rfl) rfl (by show 2 * 0 + _ ≤ _; exact Nat.le_of_eq rfl) (hb hby at_255) (fun _ _ => ⟨rfl, rfl, (by decide : 8 + 0 ≤ _), (by decide : 18 + 0 ≤ _)⟩)
                          dsimp only [Pt.U, Pt.locs, Pt.cells, Pt.slots] at X461 l461 y461 z461 st461 hQ461
                          subst l461 y461 z461
                          obtain ⟨rfl, N461q, K461, f461_0, f461_1, f461_2⟩ := hQ461
                          have N461 := Fr.app N460 N461q
                          obtain ⟨lc461, X461, N461⟩ := own_pack X461 N461
                          refine Go.by' (fun t k => st461.trans k) ?_
                          have O461 := O460.keep K461 (allS g_b458 all0)
                          have KC461 : Keep h0 T461.heap [] := KC460.trans K461 (allS (Or.inr sz_b458) all0)
                          have c467 := ((((f457_0.ext E458).keep K459).keep K460).keep K461)
                          have c468 := ((((f457_3.ext E458).keep K459 nin0).keep K460 nin0).keep K461 (ninS (Nat.ne_of_lt (Nat.lt_of_lt_of_le (Nat.lt_of_lt_of_le A456.lt K457.1) (Nat.le_of_eq g458.symm))) nin0))
                          have c469 := ((((f457_2.ext E458).keep K459 nin0).keep K460 nin0).keep K461 (ninS (Nat.ne_of_lt (Nat.lt_of_lt_of_le (Nat.lt_of_lt_of_le A456.lt K457.1) (Nat.le_of_eq g458.symm))) nin0))
                          have c470 := ((((f457_1.ext E458).keep K459 nin0).keep K460 nin0).keep K461 (ninS (Nat.ne_of_lt (Nat.lt_of_lt_of_le (Nat.lt_of_lt_of_le A456.lt K457.1) (Nat.le_of_eq g458.symm))) nin0))
                          obtain ⟨cq466, kq466, q466a, q466b, q466c⟩ := isOf hZ rfl c467
                          obtain ⟨_, _, ⟨T466, L466, k466, n466⟩, -, X466, ⟨Lc466, hQ466, l466, y466, z466⟩, st466⟩ := X461.interfaceBack hx (xi := (⟨"java/util/List", "add", "(Ljava/lang/Object;)Z"⟩ : MethodName)) (y := (⟨"java/util/ArrayList", "add", "(Ljava/lang/Object;)Z"⟩ : MethodName)) hown (mvT hZ hw90) (mvT hZ hw91) (mvT hZ hw92) (mvT hZ hw93) (mvT hZ hw94) (mvT hZ hw95) (mvT hZ hw96) (mvT hZ hw37) (by decide) (backOf (W := 0) (rmA1_0 l Z a0 hw [] wD kD vcs G b456 b458 ((0 : Int32)) T461.heap n0 O461 c467 c468 c469 c470 g_b456 f461_0) hZ hw97 hw2 (by decide) (by decide)) q466a q466b q466c (g := (mkF m 258 #[vi is, vi ia, vi ib, vi (2 : Int32), vi (2 : Int32), vi (0 : Int32), vi q6, vi q7, vi q8, vi q9, vi w154_0, vi w156_0, vi w158_0, vi w160_0, vi w162_0, vi w164_0, vi w166_0, vi w168_0, vr b456, .unset, .unset, .unset] [(.ref b458), (.ref b456)])) rfl (by rw [hml]; rfl) (Steps.refl _) (argsL := [(.ref b458)]) (rest := []) (lenOf pd_14 rfl) rfl (by show 2 * 0 + _ ≤ _; exact Nat.le_of_eq rfl) (hb hby at_258) (fun _ _ => ⟨rfl, rfl, (by decide : 8 + 1 ≤ _), (by decide : 18 + 10 ≤ _)⟩)
                          dsimp only [Pt.U, Pt.locs, Pt.cells, Pt.slots] at X466 l466 y466 z466 st466 hQ466
                          subst l466 y466 z466
                          obtain ⟨r_466, kk_466, rfl, N466q, K466, f466_0, f466_1, f466_2, f466_3, f466_4, f466_5, r466_0⟩ := hQ466
                          have N466 := Fr.app N461 N466q
                          obtain ⟨lc466, X466, N466⟩ := own_pack X466 N466
                          refine Go.by' (fun t k => st466.trans k) ?_
                          have g_r_466 : n0 ≤ r_466 := Nat.le_trans (own_le O461) f466_1
                          have sz_r_466 : h0.size ≤ r_466 := Nat.le_trans KC461.1 f466_1
                          have O466 := O461.keep K466 (allS g_b456 all0)
                          have KC466 : Keep h0 T466.heap [] := KC461.trans K466 (allS (Or.inr sz_b456) all0)
                          show Go p.tables e below Pf (T466.setTop (mkF m 263 #[vi is, vi ia, vi ib, vi (2 : Int32), vi (2 : Int32), vi (0 : Int32), vi q6, vi q7, vi q8, vi q9, vi w154_0, vi w156_0, vi w158_0, vi w160_0, vi w162_0, vi w164_0, vi w166_0, vi w168_0, vr b456, .unset, .unset, .unset] [(.int (1 : Int32))]))
                          refine Go.by' (fun t k => (XS.pop X466.here hx rfl (hb hby at_263) rfl rfl (XS.iloadN X466.here hx rfl (hb hby at_264) rfl (XS.iconst X466.here hx rfl (hb hby at_265) (XS.icmpNo X466.here hx rfl (hb hby at_266) rfl (flt (by decide)).1 (XS.aload X466.here hx rfl (hb hby at_269) rfl rfl k)))))) ?_
                          obtain ⟨T471, h471, X471, e471, E471, A471, D471, -, st471⟩ := newO X466 hx hZ hown hw41 hw42 hw28 rfl (g := (mkF m 271 #[vi is, vi ia, vi ib, vi (2 : Int32), vi (2 : Int32), vi (0 : Int32), vi q6, vi q7, vi q8, vi q9, vi w154_0, vi w156_0, vi w158_0, vi w160_0, vi w162_0, vi w164_0, vi w166_0, vi w168_0, vr b456, .unset, .unset, .unset] [(.ref b456)])) rfl (hb hby at_271) (by decide) (by decide)
                          obtain ⟨b471, g471⟩ : ∃ z, z = T466.heap.size := ⟨_, rfl⟩
                          rw [← g471] at A471 D471 st471
                          refine Go.by' st471 ?_
                          have g_b471 : n0 ≤ b471 := Nat.le_trans (own_le O466) (Nat.le_of_eq g471.symm)
                          have sz_b471 : h0.size ≤ b471 := Nat.le_trans KC466.1 (Nat.le_of_eq g471.symm)
                          have O471 := O466.ext E471
                          have KC471 : Keep h0 h471 [] := KC466.ext E471
                          have Fn471_85 : Fld Z h471 b471 "com/example/slatewipe/slatewipe/vendors/mariadb/Columns$Column" "name" "Ljava/lang/String;" Value.null := D471 (Or.inr hw85) (ty := (.object "java/lang/String")) (by decide)
                          have Fn471_87 : Fld Z h471 b471 "com/example/slatewipe/slatewipe/vendors/mariadb/Columns$Column" "type" "Ljava/lang/String;" Value.null := D471 (Or.inr hw87) (ty := (.object "java/lang/String")) (by decide)
                          have Fn471_89 : Fld Z h471 b471 "com/example/slatewipe/slatewipe/vendors/mariadb/Columns$Column" "nullable" "Z" (Value.int (0 : Int32)) := D471 (Or.inr hw89) (ty := .boolean) (by decide)
                          show Go p.tables e below Pf (T471.setTop (mkF m 274 #[vi is, vi ia, vi ib, vi (2 : Int32), vi (2 : Int32), vi (0 : Int32), vi q6, vi q7, vi q8, vi q9, vi w154_0, vi w156_0, vi w158_0, vi w160_0, vi w162_0, vi w164_0, vi w166_0, vi w168_0, vr b456, .unset, .unset, .unset] [(.ref b471), (.ref b456)]))
                          refine Go.by' (fun t k => (XS.dup X471.here hx rfl (hb hby at_274) rfl rfl (XS.iload X471.here hx rfl (hb hby at_275) rfl k))) ?_
                          obtain ⟨_, _, ⟨T472, L472, k472, n472⟩, -, X472, ⟨Lc472, hQ472, l472, y472, z472⟩, st472⟩ := Jvm.LawKit.callS X471 hx (y := (⟨"com/example/slatewipe/slatewipe/vendors/mariadb/ColumnSameTypesPinLaw", "str", "(I)Ljava/lang/String;"⟩ : MethodName)) hown (mvT hZ hw43) (mvT hZ hw44) (mvT hZ hw45) (mvT hZ hw46) (by decide) (backOf (W := 3) (rmStr l Z a0 hw [] wD kD vcs G q8 h471 n0 O471 bd8.1 bd8.2) hZ hw46 hw45 (by decide) (by decide)) (g := (mkF m 277 #[vi is, vi ia, vi ib, vi (2 : Int32), vi (2 : Int32), vi (0 : Int32), vi q6, vi q7, vi q8, vi q9, vi w154_0, vi w156_0, vi w158_0, vi w160_0, vi w162_0, vi w164_0, vi w166_0, vi w168_0, vr b456, .unset, .unset, .unset] [(.int q8), (.ref b471), (.ref b471), (.ref b456)])) rfl (by rw [hml]; rfl) (argsL := [(.int q8)]) (rest := [(.ref b471), (.ref b471), (.ref b456)]) (lenOf pd_16 rfl) rfl (by show 2 * 0 + _ ≤ _; exact Nat.le_of_eq rfl) (hb hby at_277) (fun _ _ => ⟨rfl, e471, (by decide : 10 + 3 ≤ _), (by decide : 31 + 6 ≤ _)⟩)
                          dsimp only [Pt.U, Pt.locs, Pt.cells, Pt.slots] at X472 l472 y472 z472 st472 hQ472
                          subst l472 y472 z472
                          obtain ⟨r_472, rb_472, kb_472, rfl, N472q, K472, f472_0, f472_1, f472_2, f472_3, f472_4, f472_5⟩ := hQ472
                          have N472 := Fr.app N466 N472q
                          obtain ⟨lc472, X472, N472⟩ := own_pack X472 N472
                          refine Go.by' st472 ?_
                          have g_r_472 : n0 ≤ r_472 := Nat.le_trans (own_le O471) f472_1
                          have sz_r_472 : h0.size ≤ r_472 := Nat.le_trans KC471.1 f472_1
                          have g_rb_472 : n0 ≤ rb_472 := Nat.le_trans (own_le O471) f472_5
                          have sz_rb_472 : h0.size ≤ rb_472 := Nat.le_trans KC471.1 f472_5
                          have O472 := O471.keep K472 all0
                          have KC472 : Keep h0 T472.heap [] := KC471.trans K472 all0
                          show Go p.tables e below Pf (T472.setTop (mkF m 280 #[vi is, vi ia, vi ib, vi (2 : Int32), vi (2 : Int32), vi (0 : Int32), vi q6, vi q7, vi q8, vi q9, vi w154_0, vi w156_0, vi w158_0, vi w160_0, vi w162_0, vi w164_0, vi w166_0, vi w168_0, vr b456, .unset, .unset, .unset] [(.ref r_472), (.ref b471), (.ref b471), (.ref b456)]))
                          refine Go.by' (fun t k => (XS.iload X472.here hx rfl (hb hby at_280) rfl k)) ?_
                          obtain ⟨_, _, ⟨T473, L473, k473, n473⟩, -, X473, ⟨Lc473, hQ473, l473, y473, z473⟩, st473⟩ := Jvm.LawKit.callS X472 hx (y := (⟨"com/example/slatewipe/slatewipe/vendors/mariadb/ColumnSameTypesPinLaw", "str", "(I)Ljava/lang/String;"⟩ : MethodName)) hown (mvT hZ hw43) (mvT hZ hw44) (mvT hZ hw45) (mvT hZ hw46) (by decide) (backOf (W := 4) (rmStr l Z a0 hw [] wD kD vcs G q9 T472.heap n0 O472 bd9.1 bd9.2) hZ hw46 hw45 (by decide) (by decide)) (g := (mkF m 282 #[vi is, vi ia, vi ib, vi (2 : Int32), vi (2 : Int32), vi (0 : Int32), vi q6, vi q7, vi q8, vi q9, vi w154_0, vi w156_0, vi w158_0, vi w160_0, vi w162_0, vi w164_0, vi w166_0, vi w168_0, vr b456, .unset, .unset, .unset] [(.int q9), (.ref r_472), (.ref b471), (.ref b471), (.ref b456)])) rfl (by rw [hml]; rfl) (argsL := [(.int q9)]) (rest := [(.ref r_472), (.ref b471), (.ref b471), (.ref b456)]) (lenOf pd_16 rfl) rfl (by show 2 * 0 + _ ≤ _; exact Nat.le_of_eq rfl) (hb hby at_282) (fun _ _ => ⟨rfl, rfl, (by decide : 13 + 3 ≤ _), (by decide : 37 + 6 ≤ _)⟩)
                          dsimp only [Pt.U, Pt.locs, Pt.cells, Pt.slots] at X473 l473 y473 z473 st473 hQ473
                          subst l473 y473 z473
                          obtain ⟨r_473, rb_473, kb_473, rfl, N473q, K473, f473_0, f473_1, f473_2, f473_3, f473_4, f473_5⟩ := hQ473
                          have N473 := Fr.app N472 N473q
                          obtain ⟨lc473, X473, N473⟩ := own_pack X473 N473
                          refine Go.by' st473 ?_
                          have g_r_473 : n0 ≤ r_473 := Nat.le_trans (own_le O472) f473_1
                          have sz_r_473 : h0.size ≤ r_473 := Nat.le_trans KC472.1 f473_1
                          have g_rb_473 : n0 ≤ rb_473 := Nat.le_trans (own_le O472) f473_5
                          have sz_rb_473 : h0.size ≤ rb_473 := Nat.le_trans KC472.1 f473_5
                          have O473 := O472.keep K473 all0
                          have KC473 : Keep h0 T473.heap [] := KC472.trans K473 all0
                          show Go p.tables e below Pf (T473.setTop (mkF m 285 #[vi is, vi ia, vi ib, vi (2 : Int32), vi (2 : Int32), vi (0 : Int32), vi q6, vi q7, vi q8, vi q9, vi w154_0, vi w156_0, vi w158_0, vi w160_0, vi w162_0, vi w164_0, vi w166_0, vi w168_0, vr b456, .unset, .unset, .unset] [(.ref r_473), (.ref r_472), (.ref b471), (.ref b471), (.ref b456)]))
                          refine Go.by' (fun t k => (XS.iload X473.here hx rfl (hb hby at_285) rfl k)) ?_
                          have c475 := ((A471.keep K472).keep K473)
                          have c476 := ((Fn471_85.keep K472 nin0).keep K473 nin0)
                          have c477 := ((Fn471_87.keep K472 nin0).keep K473 nin0)
                          have c478 := ((Fn471_89.keep K472 nin0).keep K473 nin0)
                          obtain ⟨_, _, ⟨T474, L474, k474, n474⟩, -, X474, ⟨Lc474, hQ474, l474, y474, z474⟩, st474⟩ := X473.specialBack hx (y := (⟨"com/example/slatewipe/slatewipe/vendors/mariadb/Columns$Column", "<init>", "(Ljava/lang/String;Ljava/lang/String;Z)V"⟩ : MethodName)) rfl hown (mvT hZ hw75) (mvT hZ hw76) (mvT hZ hw77) (by decide) (backOf (W := 2) (rmCol l Z a0 hw [] wD kD vcs G b471 r_472 r_473 w164_0 T473.heap n0 O473 c475 c476 c477 c478 g_b471 bw164_0) hZ hw77 hw28 (by decide) (by decide)) (g := (mkF m 287 #[vi is, vi ia, vi ib, vi (2 : Int32), vi (2 : Int32), vi (0 : Int32), vi q6, vi q7, vi q8, vi q9, vi w154_0, vi w156_0, vi w158_0, vi w160_0, vi w162_0, vi w164_0, vi w166_0, vi w168_0, vr b456, .unset, .unset, .unset] [(.int w164_0), (.ref r_473), (.ref r_472), (.ref b471), (.ref b471), (.ref b456)])) rfl (by rw [hml]; rfl) (Steps.refl _) (a := b471) (argsL := [(.ref r_472), (.ref r_473), (.int w164_0)]) (rest := [(.ref b471), (.ref b456)]) (lenOf pd_17 rfl) rfl (by show 2 * 0 + _ ≤ _; exact Nat.le_of_eq rfl) (hb hby at_287) (fun _ _ => ⟨rfl, rfl, (by decide : 16 + 0 ≤ _), (by decide : 43 + 0 ≤ _)⟩)
                          dsimp only [Pt.U, Pt.locs, Pt.cells, Pt.slots] at X474 l474 y474 z474 st474 hQ474
                          subst l474 y474 z474
                          obtain ⟨rfl, N474q, K474, f474_0, f474_1, f474_2⟩ := hQ474
                          have N474 := Fr.app N473 N474q
                          obtain ⟨lc474, X474, N474⟩ := own_pack X474 N474
                          refine Go.by' (fun t k => st474.trans k) ?_
                          have O474 := O473.keep K474 (allS g_b471 all0)
                          have KC474 : Keep h0 T474.heap [] := KC473.trans K474 (allS (Or.inr sz_b471) all0)
                          have c480 := ((((f466_0.ext E471).keep K472 nin0).keep K473 nin0).keep K474 (ninS (Nat.ne_of_lt (Nat.lt_of_lt_of_le f466_0.lt (Nat.le_of_eq g471.symm))) nin0))
                          have c481 := ((((f466_2.ext E471).keep K472).keep K473).keep K474)
                          have c482 := ((((f466_4.ext E471).keep K472 nin0).keep K473 nin0).keep K474 (ninS (Nat.ne_of_lt (Nat.lt_of_lt_of_le (Nat.lt_of_lt_of_le A456.lt (Nat.le_trans K457.1 (Nat.le_trans E458.1 (Nat.le_trans K459.1 (Nat.le_trans K460.1 (Nat.le_trans K461.1 K466.1)))))) (Nat.le_of_eq g471.symm))) nin0))
                          have c483 := ((((f466_3.ext E471).keep K472 nin0).keep K473 nin0).keep K474 (ninS (Nat.ne_of_lt (Nat.lt_of_lt_of_le (Nat.lt_of_lt_of_le A456.lt (Nat.le_trans K457.1 (Nat.le_trans E458.1 (Nat.le_trans K459.1 (Nat.le_trans K460.1 (Nat.le_trans K461.1 K466.1)))))) (Nat.le_of_eq g471.symm))) nin0))
                          have c484 := ((((f466_5.ext E471).keep K472 nin0).keep K473 nin0).keep K474 (ninS (Nat.ne_of_lt (Nat.lt_of_lt_of_le (Nat.lt_of_lt_of_le A456.lt (Nat.le_trans K457.1 (Nat.le_trans E458.1 (Nat.le_trans K459.1 (Nat.le_trans K460.1 (Nat.le_trans K461.1 K466.1)))))) (Nat.le_of_eq g471.symm))) nin0))
                          obtain ⟨cq479, kq479, q479a, q479b, q479c⟩ := isOf hZ rfl c481
                          obtain ⟨_, _, ⟨T479, L479, k479, n479⟩, -, X479, ⟨Lc479, hQ479, l479, y479, z479⟩, st479⟩ := X474.interfaceBack hx (xi := (⟨"java/util/List", "add", "(Ljava/lang/Object;)Z"⟩ : MethodName)) (y := (⟨"java/util/ArrayList", "add", "(Ljava/lang/Object;)Z"⟩ : MethodName)) hown (mvT hZ hw90) (mvT hZ hw91) (mvT hZ hw92) (mvT hZ hw93) (mvT hZ hw94) (mvT hZ hw95) (mvT hZ hw96) (mvT hZ hw37) (by decide) (backOf (W := 0) (rmA1_1 l Z a0 hw [] wD kD vcs G b456 b471 (((0 : Int32) + (1 : Int32))) r_466 kk_466 b458 T474.heap n0 O474 c481 c482 c483 c484 g_b456 g_r_466 c480 f474_0 (Nat.ne_of_lt (Nat.lt_of_lt_of_le (Nat.lt_of_lt_of_le A456.lt (Nat.le_trans K457.1 (Nat.le_trans E458.1 (Nat.le_trans K459.1 (Nat.le_trans K460.1 K461.1))))) f466_1)) r466_0) hZ hw97 hw2 (by decide) (by decide)) q479a q479b q479c (g := (mkF m 290 #[vi is, vi ia, vi ib, vi (2 : Int32), vi (2 : Int32), vi (0 : Int32), vi q6, vi q7, vi q8, vi q9, vi w154_0, vi w156_0, vi w158_0, vi w160_0, vi w162_0, vi w164_0, vi w166_0, vi w168_0, vr b456, .unset, .unset, .unset] [(.ref b471), (.ref b456)])) rfl (by rw [hml]; rfl) (Steps.refl _) (argsL := [(.ref b471)]) (rest := []) (lenOf pd_14 rfl) rfl (by show 2 * 0 + _ ≤ _; exact Nat.le_of_eq rfl) (hb hby at_290) (fun _ _ => ⟨rfl, rfl, (by decide : 16 + 0 ≤ _), (by decide : 43 + 0 ≤ _)⟩)
                          dsimp only [Pt.U, Pt.locs, Pt.cells, Pt.slots] at X479 l479 y479 z479 st479 hQ479
                          subst l479 y479 z479
                          obtain ⟨rfl, N479q, K479, f479_0, f479_1, f479_2, f479_3, f479_4⟩ := hQ479
                          have N479 := Fr.app N474 N479q
                          obtain ⟨lc479, X479, N479⟩ := own_pack X479 N479
                          refine Go.by' (fun t k => st479.trans k) ?_
                          have O479 := O474.keep K479 (allS g_b456 (allS g_r_466 all0))
                          have KC479 : Keep h0 T479.heap [] := KC474.trans K479 (allS (Or.inr sz_b456) (allS (Or.inr sz_r_466) all0))
                          show Go p.tables e below Pf (T479.setTop (mkF m 295 #[vi is, vi ia, vi ib, vi (2 : Int32), vi (2 : Int32), vi (0 : Int32), vi q6, vi q7, vi q8, vi q9, vi w154_0, vi w156_0, vi w158_0, vi w160_0, vi w162_0, vi w164_0, vi w166_0, vi w168_0, vr b456, .unset, .unset, .unset] [(.int (1 : Int32))]))
                          refine Go.by' (fun t k => (XS.pop X479.here hx rfl (hb hby at_295) rfl rfl (XS.aconstNull X479.here hx rfl (hb hby at_296) (XS.astore X479.here hx rfl (hb hby at_297) rfl rfl (l' := #[vi is, vi ia, vi ib, vi (2 : Int32), vi (2 : Int32), vi (0 : Int32), vi q6, vi q7, vi q8, vi q9, vi w154_0, vi w156_0, vi w158_0, vi w160_0, vi w162_0, vi w164_0, vi w166_0, vi w168_0, vr b456, .val .null, .unset, .unset]) rfl (XS.iload X479.here hx rfl (hb hby at_299) rfl (XS.ifNo X479.here hx rfl (hb hby at_301) rfl ((if0 _ _).trans (teq (by decide)).2) k)))))) ?_
                          obtain ⟨T485, h485, X485, e485, E485, A485, D485, -, st485⟩ := newO X479 hx hZ hown hw0 hw1 hw2 rfl (g := (mkF m 304 #[vi is, vi ia, vi ib, vi (2 : Int32), vi (2 : Int32), vi (0 : Int32), vi q6, vi q7, vi q8, vi q9, vi w154_0, vi w156_0, vi w158_0, vi w160_0, vi w162_0, vi w164_0, vi w166_0, vi w168_0, vr b456, .val .null, .unset, .unset] [])) rfl (hb hby at_304) (by decide) (by decide)
                          obtain ⟨b485, g485⟩ : ∃ z, z = T479.heap.size := ⟨_, rfl⟩
                          rw [← g485] at A485 D485 st485
                          refine Go.by' st485 ?_
                          have g_b485 : n0 ≤ b485 := Nat.le_trans (own_le O479) (Nat.le_of_eq g485.symm)
                          have sz_b485 : h0.size ≤ b485 := Nat.le_trans KC479.1 (Nat.le_of_eq g485.symm)
                          have O485 := O479.ext E485
                          have KC485 : Keep h0 h485 [] := KC479.ext E485
                          have Fn485_22 : Fld Z h485 b485 "java/util/AbstractList" "modCount" "I" (Value.int (0 : Int32)) := D485 (Or.inl hw22) (ty := .int) (by decide)
                          have Fn485_25 : Fld Z h485 b485 "java/util/ArrayList" "elementData" "[Ljava/lang/Object;" Value.null := D485 (Or.inl hw25) (ty := (.array (.object "java/lang/Object"))) (by decide)
                          have Fn485_40 : Fld Z h485 b485 "java/util/ArrayList" "size" "I" (Value.int (0 : Int32)) := D485 (Or.inl hw40) (ty := .int) (by decide)
                          show Go p.tables e below Pf (T485.setTop (mkF m 307 #[vi is, vi ia, vi ib, vi (2 : Int32), vi (2 : Int32), vi (0 : Int32), vi q6, vi q7, vi q8, vi q9, vi w154_0, vi w156_0, vi w158_0, vi w160_0, vi w162_0, vi w164_0, vi w166_0, vi w168_0, vr b456, .val .null, .unset, .unset] [(.ref b485)]))
                          refine Go.by' (fun t k => (XS.dup X485.here hx rfl (hb hby at_307) rfl rfl k)) ?_
                          obtain ⟨_, _, ⟨T486, L486, k486, n486⟩, -, X486, ⟨Lc486, hQ486, l486, y486, z486⟩, st486⟩ := X485.specialBack hx (y := (⟨"java/util/ArrayList", "<init>", "()V"⟩ : MethodName)) rfl hown (mvT hZ hw3) (mvT hZ hw4) (mvT hZ hw5) (by decide) (backOf (W := 1) (rmAL l Z a0 hw [] wD kD vcs G b485 h485 n0 O485 A485 Fn485_22 Fn485_25 Fn485_40 g_b485) hZ hw5 hw2 (by decide) (by decide)) (g := (mkF m 308 #[vi is, vi ia, vi ib, vi (2 : Int32), vi (2 : Int32), vi (0 : Int32), vi q6, vi q7, vi q8, vi q9, vi w154_0, vi w156_0, vi w158_0, vi w160_0, vi w162_0, vi w164_0, vi w166_0, vi w168_0, vr b456, .val .null, .unset, .unset] [(.ref b485), (.ref b485)])) rfl (by rw [hml]; rfl) (Steps.refl _) (a := b485) (argsL := []) (rest := [(.ref b485)]) (lenOf pd_5 rfl) rfl (by show 2 * 0 + _ ≤ _; exact Nat.le_of_eq rfl) (hb hby at_308) (fun _ _ => ⟨rfl, e485, (by decide : 17 + 0 ≤ _), (by decide : 46 + 0 ≤ _)⟩)
                          dsimp only [Pt.U, Pt.locs, Pt.cells, Pt.slots] at X486 l486 y486 z486 st486 hQ486
                          subst l486 y486 z486
                          obtain ⟨rfl, N486q, K486, f486_0, f486_1, f486_2, f486_3⟩ := hQ486
                          have N486 := Fr.app N479 N486q
                          obtain ⟨lc486, X486, N486⟩ := own_pack X486 N486
                          refine Go.by' (fun t k => st486.trans k) ?_
                          have O486 := O485.keep K486 (allS g_b485 all0)
                          have KC486 : Keep h0 T486.heap [] := KC485.trans K486 (allS (Or.inr sz_b485) all0)
                          show Go p.tables e below Pf (T486.setTop (mkF m 311 #[vi is, vi ia, vi ib, vi (2 : Int32), vi (2 : Int32), vi (0 : Int32), vi q6, vi q7, vi q8, vi q9, vi w154_0, vi w156_0, vi w158_0, vi w160_0, vi w162_0, vi w164_0, vi w166_0, vi w168_0, vr b456, .val .null, .unset, .unset] [(.ref b485)]))
                          refine Go.by' (fun t k => (XS.astore X486.here hx rfl (hb hby at_311) rfl rfl (l' := #[vi is, vi ia, vi ib, vi (2 : Int32), vi (2 : Int32), vi (0 : Int32), vi q6, vi q7, vi q8, vi q9, vi w154_0, vi w156_0, vi w158_0, vi w160_0, vi w162_0, vi w164_0, vi w166_0, vi w168_0, vr b456, vr b485, .unset, .unset]) rfl (XS.iload X486.here hx rfl (hb hby at_313) rfl (XS.iconst X486.here hx rfl (hb hby at_315) (XS.icmpNo X486.here hx rfl (hb hby at_316) rfl (flt (by decide)).1 (XS.aload X486.here hx rfl (hb hby at_319) rfl rfl k)))))) ?_
                          obtain ⟨T487, h487, X487, e487, E487, A487, D487, -, st487⟩ := newO X486 hx hZ hown hw41 hw42 hw28 rfl (g := (mkF m 321 #[vi is, vi ia, vi ib, vi (2 : Int32), vi (2 : Int32), vi (0 : Int32), vi q6, vi q7, vi q8, vi q9, vi w154_0, vi w156_0, vi w158_0, vi w160_0, vi w162_0, vi w164_0, vi w166_0, vi w168_0, vr b456, vr b485, .unset, .unset] [(.ref b485)])) rfl (hb hby at_321) (by decide) (by decide)
                          obtain ⟨b487, g487⟩ : ∃ z, z = T486.heap.size := ⟨_, rfl⟩
                          rw [← g487] at A487 D487 st487
                          refine Go.by' st487 ?_
                          have g_b487 : n0 ≤ b487 := Nat.le_trans (own_le O486) (Nat.le_of_eq g487.symm)
                          have sz_b487 : h0.size ≤ b487 := Nat.le_trans KC486.1 (Nat.le_of_eq g487.symm)
                          have O487 := O486.ext E487
                          have KC487 : Keep h0 h487 [] := KC486.ext E487
                          have Fn487_85 : Fld Z h487 b487 "com/example/slatewipe/slatewipe/vendors/mariadb/Columns$Column" "name" "Ljava/lang/String;" Value.null := D487 (Or.inr hw85) (ty := (.object "java/lang/String")) (by decide)
                          have Fn487_87 : Fld Z h487 b487 "com/example/slatewipe/slatewipe/vendors/mariadb/Columns$Column" "type" "Ljava/lang/String;" Value.null := D487 (Or.inr hw87) (ty := (.object "java/lang/String")) (by decide)
                          have Fn487_89 : Fld Z h487 b487 "com/example/slatewipe/slatewipe/vendors/mariadb/Columns$Column" "nullable" "Z" (Value.int (0 : Int32)) := D487 (Or.inr hw89) (ty := .boolean) (by decide)
                          show Go p.tables e below Pf (T487.setTop (mkF m 324 #[vi is, vi ia, vi ib, vi (2 : Int32), vi (2 : Int32), vi (0 : Int32), vi q6, vi q7, vi q8, vi q9, vi w154_0, vi w156_0, vi w158_0, vi w160_0, vi w162_0, vi w164_0, vi w166_0, vi w168_0, vr b456, vr b485, .unset, .unset] [(.ref b487), (.ref b485)]))
                          refine Go.by' (fun t k => (XS.dup X487.here hx rfl (hb hby at_324) rfl rfl (XS.iload X487.here hx rfl (hb hby at_325) rfl k))) ?_
                          obtain ⟨_, _, ⟨T488, L488, k488, n488⟩, -, X488, ⟨Lc488, hQ488, l488, y488, z488⟩, st488⟩ := Jvm.LawKit.callS X487 hx (y := (⟨"com/example/slatewipe/slatewipe/vendors/mariadb/ColumnSameTypesPinLaw", "str", "(I)Ljava/lang/String;"⟩ : MethodName)) hown (mvT hZ hw43) (mvT hZ hw44) (mvT hZ hw45) (mvT hZ hw46) (by decide) (backOf (W := 3) (rmStr l Z a0 hw [] wD kD vcs G w154_0 h487 n0 O487 bd10.1 bd10.2) hZ hw46 hw45 (by decide) (by decide)) (g := (mkF m 327 #[vi is, vi ia, vi ib, vi (2 : Int32), vi (2 : Int32), vi (0 : Int32), vi q6, vi q7, vi q8, vi q9, vi w154_0, vi w156_0, vi w158_0, vi w160_0, vi w162_0, vi w164_0, vi w166_0, vi w168_0, vr b456, vr b485, .unset, .unset] [(.int w154_0), (.ref b487), (.ref b487), (.ref b485)])) rfl (by rw [hml]; rfl) (argsL := [(.int w154_0)]) (rest := [(.ref b487), (.ref b487), (.ref b485)]) (lenOf pd_16 rfl) rfl (by show 2 * 0 + _ ≤ _; exact Nat.le_of_eq rfl) (hb hby at_327) (fun _ _ => ⟨rfl, e487, (by decide : 18 + 3 ≤ _), (by decide : 49 + 6 ≤ _)⟩)
                          dsimp only [Pt.U, Pt.locs, Pt.cells, Pt.slots] at X488 l488 y488 z488 st488 hQ488
                          subst l488 y488 z488
                          obtain ⟨r_488, rb_488, kb_488, rfl, N488q, K488, f488_0, f488_1, f488_2, f488_3, f488_4, f488_5⟩ := hQ488
                          have N488 := Fr.app N486 N488q
                          obtain ⟨lc488, X488, N488⟩ := own_pack X488 N488
                          refine Go.by' st488 ?_
                          have g_r_488 : n0 ≤ r_488 := Nat.le_trans (own_le O487) f488_1
                          have sz_r_488 : h0.size ≤ r_488 := Nat.le_trans KC487.1 f488_1
                          have g_rb_488 : n0 ≤ rb_488 := Nat.le_trans (own_le O487) f488_5
                          have sz_rb_488 : h0.size ≤ rb_488 := Nat.le_trans KC487.1 f488_5
                          have O488 := O487.keep K488 all0
                          have KC488 : Keep h0 T488.heap [] := KC487.trans K488 all0
                          show Go p.tables e below Pf (T488.setTop (mkF m 330 #[vi is, vi ia, vi ib, vi (2 : Int32), vi (2 : Int32), vi (0 : Int32), vi q6, vi q7, vi q8, vi q9, vi w154_0, vi w156_0, vi w158_0, vi w160_0, vi w162_0, vi w164_0, vi w166_0, vi w168_0, vr b456, vr b485, .unset, .unset] [(.ref r_488), (.ref b487), (.ref b487), (.ref b485)]))
                          refine Go.by' (fun t k => (XS.iload X488.here hx rfl (hb hby at_330) rfl k)) ?_
                          obtain ⟨_, _, ⟨T489, L489, k489, n489⟩, -, X489, ⟨Lc489, hQ489, l489, y489, z489⟩, st489⟩ := Jvm.LawKit.callS X488 hx (y := (⟨"com/example/slatewipe/slatewipe/vendors/mariadb/ColumnSameTypesPinLaw", "str", "(I)Ljava/lang/String;"⟩ : MethodName)) hown (mvT hZ hw43) (mvT hZ hw44) (mvT hZ hw45) (mvT hZ hw46) (by decide) (backOf (W := 4) (rmStr l Z a0 hw [] wD kD vcs G w156_0 T488.heap n0 O488 bd11.1 bd11.2) hZ hw46 hw45 (by decide) (by decide)) (g := (mkF m 332 #[vi is, vi ia, vi ib, vi (2 : Int32), vi (2 : Int32), vi (0 : Int32), vi q6, vi q7, vi q8, vi q9, vi w154_0, vi w156_0, vi w158_0, vi w160_0, vi w162_0, vi w164_0, vi w166_0, vi w168_0, vr b456, vr b485, .unset, .unset] [(.int w156_0), (.ref r_488), (.ref b487), (.ref b487), (.ref b485)])) rfl (by rw [hml]; rfl) (argsL := [(.int w156_0)]) (rest := [(.ref r_488), (.ref b487), (.ref b487), (.ref b485)]) (lenOf pd_16 rfl) rfl (by show 2 * 0 + _ ≤ _; exact Nat.le_of_eq rfl) (hb hby at_332) (fun _ _ => ⟨rfl, rfl, (by decide : 21 + 3 ≤ _), (by decide : 55 + 6 ≤ _)⟩)
                          dsimp only [Pt.U, Pt.locs, Pt.cells, Pt.slots] at X489 l489 y489 z489 st489 hQ489
                          subst l489 y489 z489
                          obtain ⟨r_489, rb_489, kb_489, rfl, N489q, K489, f489_0, f489_1, f489_2, f489_3, f489_4, f489_5⟩ := hQ489
                          have N489 := Fr.app N488 N489q
                          obtain ⟨lc489, X489, N489⟩ := own_pack X489 N489
                          refine Go.by' st489 ?_
                          have g_r_489 : n0 ≤ r_489 := Nat.le_trans (own_le O488) f489_1
                          have sz_r_489 : h0.size ≤ r_489 := Nat.le_trans KC488.1 f489_1
                          have g_rb_489 : n0 ≤ rb_489 := Nat.le_trans (own_le O488) f489_5
                          have sz_rb_489 : h0.size ≤ rb_489 := Nat.le_trans KC488.1 f489_5
                          have O489 := O488.keep K489 all0
                          have KC489 : Keep h0 T489.heap [] := KC488.trans K489 all0
                          show Go p.tables e below Pf (T489.setTop (mkF m 335 #[vi is, vi ia, vi ib, vi (2 : Int32), vi (2 : Int32), vi (0 : Int32), vi q6, vi q7, vi q8, vi q9, vi w154_0, vi w156_0, vi w158_0, vi w160_0, vi w162_0, vi w164_0, vi w166_0, vi w168_0, vr b456, vr b485, .unset, .unset] [(.ref r_489), (.ref r_488), (.ref b487), (.ref b487), (.ref b485)]))
                          refine Go.by' (fun t k => (XS.iload X489.here hx rfl (hb hby at_335) rfl k)) ?_
                          have c491 := ((A487.keep K488).keep K489)
                          have c492 := ((Fn487_85.keep K488 nin0).keep K489 nin0)
                          have c493 := ((Fn487_87.keep K488 nin0).keep K489 nin0)
                          have c494 := ((Fn487_89.keep K488 nin0).keep K489 nin0)
                          obtain ⟨_, _, ⟨T490, L490, k490, n490⟩, -, X490, ⟨Lc490, hQ490, l490, y490, z490⟩, st490⟩ := X489.specialBack hx (y := (⟨"com/example/slatewipe/slatewipe/vendors/mariadb/Columns$Column", "<init>", "(Ljava/lang/String;Ljava/lang/String;Z)V"⟩ : MethodName)) rfl hown (mvT hZ hw75) (mvT hZ hw76) (mvT hZ hw77) (by decide) (backOf (W := 2) (rmCol l Z a0 hw [] wD kD vcs G b487 r_488 r_489 w166_0 T489.heap n0 O489 c491 c492 c493 c494 g_b487 bw166_0) hZ hw77 hw28 (by decide) (by decide)) (g := (mkF m 337 #[vi is, vi ia, vi ib, vi (2 : Int32), vi (2 : Int32), vi (0 : Int32), vi q6, vi q7, vi q8, vi q9, vi w154_0, vi w156_0, vi w158_0, vi w160_0, vi w162_0, vi w164_0, vi w166_0, vi w168_0, vr b456, vr b485, .unset, .unset] [(.int w166_0), (.ref r_489), (.ref r_488), (.ref b487), (.ref b487), (.ref b485)])) rfl (by rw [hml]; rfl) (Steps.refl _) (a := b487) (argsL := [(.ref r_488), (.ref r_489), (.int w166_0)]) (rest := [(.ref b487), (.ref b485)]) (lenOf pd_17 rfl) rfl (by show 2 * 0 + _ ≤ _; exact Nat.le_of_eq rfl) (hb hby at_337) (fun _ _ => ⟨rfl, rfl, (by decide : 24 + 0 ≤ _), (by decide : 61 + 0 ≤ _)⟩)
                          dsimp only [Pt.U, Pt.locs, Pt.cells, Pt.slots] at X490 l490 y490 z490 st490 hQ490
                          subst l490 y490 z490
                          obtain ⟨rfl, N490q, K490, f490_0, f490_1, f490_2⟩ := hQ490
                          have N490 := Fr.app N489 N490q
                          obtain ⟨lc490, X490, N490⟩ := own_pack X490 N490
                          refine Go.by' (fun t k => st490.trans k) ?_
                          have O490 := O489.keep K490 (allS g_b487 all0)
                          have KC490 : Keep h0 T490.heap [] := KC489.trans K490 (allS (Or.inr sz_b487) all0)
                          have c496 := ((((f486_0.ext E487).keep K488).keep K489).keep K490)
                          have c497 := ((((f486_3.ext E487).keep K488 nin0).keep K489 nin0).keep K490 (ninS (Nat.ne_of_lt (Nat.lt_of_lt_of_le (Nat.lt_of_lt_of_le A485.lt K486.1) (Nat.le_of_eq g487.symm))) nin0))
                          have c498 := ((((f486_2.ext E487).keep K488 nin0).keep K489 nin0).keep K490 (ninS (Nat.ne_of_lt (Nat.lt_of_lt_of_le (Nat.lt_of_lt_of_le A485.lt K486.1) (Nat.le_of_eq g487.symm))) nin0))
                          have c499 := ((((f486_1.ext E487).keep K488 nin0).keep K489 nin0).keep K490 (ninS (Nat.ne_of_lt (Nat.lt_of_lt_of_le (Nat.lt_of_lt_of_le A485.lt K486.1) (Nat.le_of_eq g487.symm))) nin0))
                          obtain ⟨cq495, kq495, q495a, q495b, q495c⟩ := isOf hZ rfl c496
                          obtain ⟨_, _, ⟨T495, L495, k495, n495⟩, -, X495, ⟨Lc495, hQ495, l495, y495, z495⟩, st495⟩ := X490.interfaceBack hx (xi := (⟨"java/util/List", "add", "(Ljava/lang/Object;)Z"⟩ : MethodName)) (y := (⟨"java/util/ArrayList", "add", "(Ljava/lang/Object;)Z"⟩ : MethodName)) hown (mvT hZ hw90) (mvT hZ hw91) (mvT hZ hw92) (mvT hZ hw93) (mvT hZ hw94) (mvT hZ hw95) (mvT hZ hw96) (mvT hZ hw37) (by decide) (backOf (W := 0) (rmA1_0 l Z a0 hw [] wD kD vcs G b485 b487 ((0 : Int32)) T490.heap n0 O490 c496 c497 c498 c499 g_b485 f490_0) hZ hw97 hw2 (by decide) (by decide)) q495a q495b q495c (g := (mkF m 340 #[vi is, vi ia, vi ib, vi (2 : Int32), vi (2 : Int32), vi (0 : Int32), vi q6, vi q7, vi q8, vi q9, vi w154_0, vi w156_0, vi w158_0, vi w160_0, vi w162_0, vi w164_0, vi w166_0, vi w168_0, vr b456, vr b485, .unset, .unset] [(.ref b487), (.ref b485)])) rfl (by rw [hml]; rfl) (Steps.refl _) (argsL := [(.ref b487)]) (rest := []) (lenOf pd_14 rfl) rfl (by show 2 * 0 + _ ≤ _; exact Nat.le_of_eq rfl) (hb hby at_340) (fun _ _ => ⟨rfl, rfl, (by decide : 24 + 1 ≤ _), (by decide : 61 + 10 ≤ _)⟩)
                          dsimp only [Pt.U, Pt.locs, Pt.cells, Pt.slots] at X495 l495 y495 z495 st495 hQ495
                          subst l495 y495 z495
                          obtain ⟨r_495, kk_495, rfl, N495q, K495, f495_0, f495_1, f495_2, f495_3, f495_4, f495_5, r495_0⟩ := hQ495
                          have N495 := Fr.app N490 N495q
                          obtain ⟨lc495, X495, N495⟩ := own_pack X495 N495
                          refine Go.by' (fun t k => st495.trans k) ?_
                          have g_r_495 : n0 ≤ r_495 := Nat.le_trans (own_le O490) f495_1
                          have sz_r_495 : h0.size ≤ r_495 := Nat.le_trans KC490.1 f495_1
                          have O495 := O490.keep K495 (allS g_b485 all0)
                          have KC495 : Keep h0 T495.heap [] := KC490.trans K495 (allS (Or.inr sz_b485) all0)
                          show Go p.tables e below Pf (T495.setTop (mkF m 345 #[vi is, vi ia, vi ib, vi (2 : Int32), vi (2 : Int32), vi (0 : Int32), vi q6, vi q7, vi q8, vi q9, vi w154_0, vi w156_0, vi w158_0, vi w160_0, vi w162_0, vi w164_0, vi w166_0, vi w168_0, vr b456, vr b485, .unset, .unset] [(.int (1 : Int32))]))
                          refine Go.by' (fun t k => (XS.pop X495.here hx rfl (hb hby at_345) rfl rfl (XS.iload X495.here hx rfl (hb hby at_346) rfl (XS.iconst X495.here hx rfl (hb hby at_348) (XS.icmpNo X495.here hx rfl (hb hby at_349) rfl (flt (by decide)).1 (XS.aload X495.here hx rfl (hb hby at_352) rfl rfl k)))))) ?_
                          obtain ⟨T500, h500, X500, e500, E500, A500, D500, -, st500⟩ := newO X495 hx hZ hown hw41 hw42 hw28 rfl (g := (mkF m 354 #[vi is, vi ia, vi ib, vi (2 : Int32), vi (2 : Int32), vi (0 : Int32), vi q6, vi q7, vi q8, vi q9, vi w154_0, vi w156_0, vi w158_0, vi w160_0, vi w162_0, vi w164_0, vi w166_0, vi w168_0, vr b456, vr b485, .unset, .unset] [(.ref b485)])) rfl (hb hby at_354) (by decide) (by decide)
                          obtain ⟨b500, g500⟩ : ∃ z, z = T495.heap.size := ⟨_, rfl⟩
                          rw [← g500] at A500 D500 st500
                          refine Go.by' st500 ?_
                          have g_b500 : n0 ≤ b500 := Nat.le_trans (own_le O495) (Nat.le_of_eq g500.symm)
                          have sz_b500 : h0.size ≤ b500 := Nat.le_trans KC495.1 (Nat.le_of_eq g500.symm)
                          have O500 := O495.ext E500
                          have KC500 : Keep h0 h500 [] := KC495.ext E500
                          have Fn500_85 : Fld Z h500 b500 "com/example/slatewipe/slatewipe/vendors/mariadb/Columns$Column" "name" "Ljava/lang/String;" Value.null := D500 (Or.inr hw85) (ty := (.object "java/lang/String")) (by decide)
                          have Fn500_87 : Fld Z h500 b500 "com/example/slatewipe/slatewipe/vendors/mariadb/Columns$Column" "type" "Ljava/lang/String;" Value.null := D500 (Or.inr hw87) (ty := (.object "java/lang/String")) (by decide)
                          have Fn500_89 : Fld Z h500 b500 "com/example/slatewipe/slatewipe/vendors/mariadb/Columns$Column" "nullable" "Z" (Value.int (0 : Int32)) := D500 (Or.inr hw89) (ty := .boolean) (by decide)
                          show Go p.tables e below Pf (T500.setTop (mkF m 357 #[vi is, vi ia, vi ib, vi (2 : Int32), vi (2 : Int32), vi (0 : Int32), vi q6, vi q7, vi q8, vi q9, vi w154_0, vi w156_0, vi w158_0, vi w160_0, vi w162_0, vi w164_0, vi w166_0, vi w168_0, vr b456, vr b485, .unset, .unset] [(.ref b500), (.ref b485)]))
                          refine Go.by' (fun t k => (XS.dup X500.here hx rfl (hb hby at_357) rfl rfl (XS.iload X500.here hx rfl (hb hby at_358) rfl k))) ?_
                          obtain ⟨_, _, ⟨T501, L501, k501, n501⟩, -, X501, ⟨Lc501, hQ501, l501, y501, z501⟩, st501⟩ := Jvm.LawKit.callS X500 hx (y := (⟨"com/example/slatewipe/slatewipe/vendors/mariadb/ColumnSameTypesPinLaw", "str", "(I)Ljava/lang/String;"⟩ : MethodName)) hown (mvT hZ hw43) (mvT hZ hw44) (mvT hZ hw45) (mvT hZ hw46) (by decide) (backOf (W := 3) (rmStr l Z a0 hw [] wD kD vcs G w158_0 h500 n0 O500 bd12.1 bd12.2) hZ hw46 hw45 (by decide) (by decide)) (g := (mkF m 360 #[vi is, vi ia, vi ib, vi (2 : Int32), vi (2 : Int32), vi (0 : Int32), vi q6, vi q7, vi q8, vi q9, vi w154_0, vi w156_0, vi w158_0, vi w160_0, vi w162_0, vi w164_0, vi w166_0, vi w168_0, vr b456, vr b485, .unset, .unset] [(.int w158_0), (.ref b500), (.ref b500), (.ref b485)])) rfl (by rw [hml]; rfl) (argsL := [(.int w158_0)]) (rest := [(.ref b500), (.ref b500), (.ref b485)]) (lenOf pd_16 rfl) rfl (by show 2 * 0 + _ ≤ _; exact Nat.le_of_eq rfl) (hb hby at_360) (fun _ _ => ⟨rfl, e500, (by decide : 26 + 3 ≤ _), (by decide : 74 + 6 ≤ _)⟩)
                          dsimp only [Pt.U, Pt.locs, Pt.cells, Pt.slots] at X501 l501 y501 z501 st501 hQ501
                          subst l501 y501 z501
                          obtain ⟨r_501, rb_501, kb_501, rfl, N501q, K501, f501_0, f501_1, f501_2, f501_3, f501_4, f501_5⟩ := hQ501
                          have N501 := Fr.app N495 N501q
                          obtain ⟨lc501, X501, N501⟩ := own_pack X501 N501
                          refine Go.by' st501 ?_
                          have g_r_501 : n0 ≤ r_501 := Nat.le_trans (own_le O500) f501_1
                          have sz_r_501 : h0.size ≤ r_501 := Nat.le_trans KC500.1 f501_1
                          have g_rb_501 : n0 ≤ rb_501 := Nat.le_trans (own_le O500) f501_5
                          have sz_rb_501 : h0.size ≤ rb_501 := Nat.le_trans KC500.1 f501_5
                          have O501 := O500.keep K501 all0
                          have KC501 : Keep h0 T501.heap [] := KC500.trans K501 all0
                          show Go p.tables e below Pf (T501.setTop (mkF m 363 #[vi is, vi ia, vi ib, vi (2 : Int32), vi (2 : Int32), vi (0 : Int32), vi q6, vi q7, vi q8, vi q9, vi w154_0, vi w156_0, vi w158_0, vi w160_0, vi w162_0, vi w164_0, vi w166_0, vi w168_0, vr b456, vr b485, .unset, .unset] [(.ref r_501), (.ref b500), (.ref b500), (.ref b485)]))
                          refine Go.by' (fun t k => (XS.iload X501.here hx rfl (hb hby at_363) rfl k)) ?_
                          obtain ⟨_, _, ⟨T502, L502, k502, n502⟩, -, X502, ⟨Lc502, hQ502, l502, y502, z502⟩, st502⟩ := Jvm.LawKit.callS X501 hx (y := (⟨"com/example/slatewipe/slatewipe/vendors/mariadb/ColumnSameTypesPinLaw", "str", "(I)Ljava/lang/String;"⟩ : MethodName)) hown (mvT hZ hw43) (mvT hZ hw44) (mvT hZ hw45) (mvT hZ hw46) (by decide) (backOf (W := 4) (rmStr l Z a0 hw [] wD kD vcs G w160_0 T501.heap n0 O501 bd13.1 bd13.2) hZ hw46 hw45 (by decide) (by decide)) (g := (mkF m 365 #[vi is, vi ia, vi ib, vi (2 : Int32), vi (2 : Int32), vi (0 : Int32), vi q6, vi q7, vi q8, vi q9, vi w154_0, vi w156_0, vi w158_0, vi w160_0, vi w162_0, vi w164_0, vi w166_0, vi w168_0, vr b456, vr b485, .unset, .unset] [(.int w160_0), (.ref r_501), (.ref b500), (.ref b500), (.ref b485)])) rfl (by rw [hml]; rfl) (argsL := [(.int w160_0)]) (rest := [(.ref r_501), (.ref b500), (.ref b500), (.ref b485)]) (lenOf pd_16 rfl) rfl (by show 2 * 0 + _ ≤ _; exact Nat.le_of_eq rfl) (hb hby at_365) (fun _ _ => ⟨rfl, rfl, (by decide : 29 + 3 ≤ _), (by decide : 80 + 6 ≤ _)⟩)
                          dsimp only [Pt.U, Pt.locs, Pt.cells, Pt.slots] at X502 l502 y502 z502 st502 hQ502
                          subst l502 y502 z502
                          obtain ⟨r_502, rb_502, kb_502, rfl, N502q, K502, f502_0, f502_1, f502_2, f502_3, f502_4, f502_5⟩ := hQ502
                          have N502 := Fr.app N501 N502q
                          obtain ⟨lc502, X502, N502⟩ := own_pack X502 N502
                          refine Go.by' st502 ?_
                          have g_r_502 : n0 ≤ r_502 := Nat.le_trans (own_le O501) f502_1
                          have sz_r_502 : h0.size ≤ r_502 := Nat.le_trans KC501.1 f502_1
                          have g_rb_502 : n0 ≤ rb_502 := Nat.le_trans (own_le O501) f502_5
                          have sz_rb_502 : h0.size ≤ rb_502 := Nat.le_trans KC501.1 f502_5
                          have O502 := O501.keep K502 all0
                          have KC502 : Keep h0 T502.heap [] := KC501.trans K502 all0
                          show Go p.tables e below Pf (T502.setTop (mkF m 368 #[vi is, vi ia, vi ib, vi (2 : Int32), vi (2 : Int32), vi (0 : Int32), vi q6, vi q7, vi q8, vi q9, vi w154_0, vi w156_0, vi w158_0, vi w160_0, vi w162_0, vi w164_0, vi w166_0, vi w168_0, vr b456, vr b485, .unset, .unset] [(.ref r_502), (.ref r_501), (.ref b500), (.ref b500), (.ref b485)]))
                          refine Go.by' (fun t k => (XS.iload X502.here hx rfl (hb hby at_368) rfl k)) ?_
                          have c504 := ((A500.keep K501).keep K502)
                          have c505 := ((Fn500_85.keep K501 nin0).keep K502 nin0)
                          have c506 := ((Fn500_87.keep K501 nin0).keep K502 nin0)
                          have c507 := ((Fn500_89.keep K501 nin0).keep K502 nin0)
                          obtain ⟨_, _, ⟨T503, L503, k503, n503⟩, -, X503, ⟨Lc503, hQ503, l503, y503, z503⟩, st503⟩ := X502.specialBack hx (y := (⟨"com/example/slatewipe/slatewipe/vendors/mariadb/Columns$Column", "<init>", "(Ljava/lang/String;Ljava/lang/String;Z)V"⟩ : MethodName)) rfl hown (mvT hZ hw75) (mvT hZ hw76) (mvT hZ hw77) (by decide) (backOf (W := 2) (rmCol l Z a0 hw [] wD kD vcs G b500 r_501 r_502 w168_0 T502.heap n0 O502 c504 c505 c506 c507 g_b500 bw168_0) hZ hw77 hw28 (by decide) (by decide)) (g := (mkF m 370 #[vi is, vi ia, vi ib, vi (2 : Int32), vi (2 : Int32), vi (0 : Int32), vi q6, vi q7, vi q8, vi q9, vi w154_0, vi w156_0, vi w158_0, vi w160_0, vi w162_0, vi w164_0, vi w166_0, vi w168_0, vr b456, vr b485, .unset, .unset] [(.int w168_0), (.ref r_502), (.ref r_501), (.ref b500), (.ref b500), (.ref b485)])) rfl (by rw [hml]; rfl) (Steps.refl _) (a := b500) (argsL := [(.ref r_501), (.ref r_502), (.int w168_0)]) (rest := [(.ref b500), (.ref b485)]) (lenOf pd_17 rfl) rfl (by show 2 * 0 + _ ≤ _; exact Nat.le_of_eq rfl) (hb hby at_370) (fun _ _ => ⟨rfl, rfl, (by decide : 32 + 0 ≤ _), (by decide : 86 + 0 ≤ _)⟩)
                          dsimp only [Pt.U, Pt.locs, Pt.cells, Pt.slots] at X503 l503 y503 z503 st503 hQ503
                          subst l503 y503 z503
                          obtain ⟨rfl, N503q, K503, f503_0, f503_1, f503_2⟩ := hQ503
                          have N503 := Fr.app N502 N503q
                          obtain ⟨lc503, X503, N503⟩ := own_pack X503 N503
                          refine Go.by' (fun t k => st503.trans k) ?_
                          have O503 := O502.keep K503 (allS g_b500 all0)
                          have KC503 : Keep h0 T503.heap [] := KC502.trans K503 (allS (Or.inr sz_b500) all0)
                          have c509 := ((((f495_0.ext E500).keep K501 nin0).keep K502 nin0).keep K503 (ninS (Nat.ne_of_lt (Nat.lt_of_lt_of_le f495_0.lt (Nat.le_of_eq g500.symm))) nin0))
                          have c510 := ((((f495_2.ext E500).keep K501).keep K502).keep K503)
                          have c511 := ((((f495_4.ext E500).keep K501 nin0).keep K502 nin0).keep K503 (ninS (Nat.ne_of_lt (Nat.lt_of_lt_of_le (Nat.lt_of_lt_of_le A485.lt (Nat.le_trans K486.1 (Nat.le_trans E487.1 (Nat.le_trans K488.1 (Nat.le_trans K489.1 (Nat.le_trans K490.1 K495.1)))))) (Nat.le_of_eq g500.symm))) nin0))
                          have c512 := ((((f495_3.ext E500).keep K501 nin0).keep K502 nin0).keep K503 (ninS (Nat.ne_of_lt (Nat.lt_of_lt_of_le (Nat.lt_of_lt_of_le A485.lt (Nat.le_trans K486.1 (Nat.le_trans E487.1 (Nat.le_trans K488.1 (Nat.le_trans K489.1 (Nat.le_trans K490.1 K495.1)))))) (Nat.le_of_eq g500.symm))) nin0))
                          have c513 := ((((f495_5.ext E500).keep K501 nin0).keep K502 nin0).keep K503 (ninS (Nat.ne_of_lt (Nat.lt_of_lt_of_le (Nat.lt_of_lt_of_le A485.lt (Nat.le_trans K486.1 (Nat.le_trans E487.1 (Nat.le_trans K488.1 (Nat.le_trans K489.1 (Nat.le_trans K490.1 K495.1)))))) (Nat.le_of_eq g500.symm))) nin0))
                          obtain ⟨cq508, kq508, q508a, q508b, q508c⟩ := isOf hZ rfl c510
                          obtain ⟨_, _, ⟨T508, L508, k508, n508⟩, -, X508, ⟨Lc508, hQ508, l508, y508, z508⟩, st508⟩ := X503.interfaceBack hx (xi := (⟨"java/util/List", "add", "(Ljava/lang/Object;)Z"⟩ : MethodName)) (y := (⟨"java/util/ArrayList", "add", "(Ljava/lang/Object;)Z"⟩ : MethodName)) hown (mvT hZ hw90) (mvT hZ hw91) (mvT hZ hw92) (mvT hZ hw93) (mvT hZ hw94) (mvT hZ hw95) (mvT hZ hw96) (mvT hZ hw37) (by decide) (backOf (W := 0) (rmA1_1 l Z a0 hw [] wD kD vcs G b485 b500 (((0 : Int32) + (1 : Int32))) r_495 kk_495 b487 T503.heap n0 O503 c510 c511 c512 c513 g_b485 g_r_495 c509 f503_0 (Nat.ne_of_lt (Nat.lt_of_lt_of_le (Nat.lt_of_lt_of_le A485.lt (Nat.le_trans K486.1 (Nat.le_trans E487.1 (Nat.le_trans K488.1 (Nat.le_trans K489.1 K490.1))))) f495_1)) r495_0) hZ hw97 hw2 (by decide) (by decide)) q508a q508b q508c (g := (mkF m 373 #[vi is, vi ia, vi ib, vi (2 : Int32), vi (2 : Int32), vi (0 : Int32), vi q6, vi q7, vi q8, vi q9, vi w154_0, vi w156_0, vi w158_0, vi w160_0, vi w162_0, vi w164_0, vi w166_0, vi w168_0, vr b456, vr b485, .unset, .unset] [(.ref b500), (.ref b485)])) rfl (by rw [hml]; rfl) (Steps.refl _) (argsL := [(.ref b500)]) (rest := []) (lenOf pd_14 rfl) rfl (by show 2 * 0 + _ ≤ _; exact Nat.le_of_eq rfl) (hb hby at_373) (fun _ _ => ⟨rfl, rfl, (by decide : 32 + 0 ≤ _), (by decide : 86 + 0 ≤ _)⟩)
                          dsimp only [Pt.U, Pt.locs, Pt.cells, Pt.slots] at X508 l508 y508 z508 st508 hQ508
                          subst l508 y508 z508
                          obtain ⟨rfl, N508q, K508, f508_0, f508_1, f508_2, f508_3, f508_4⟩ := hQ508
                          have N508 := Fr.app N503 N508q
                          obtain ⟨lc508, X508, N508⟩ := own_pack X508 N508
                          refine Go.by' (fun t k => st508.trans k) ?_
                          have O508 := O503.keep K508 (allS g_b485 (allS g_r_495 all0))
                          have KC508 : Keep h0 T508.heap [] := KC503.trans K508 (allS (Or.inr sz_b485) (allS (Or.inr sz_r_495) all0))
                          show Go p.tables e below Pf (T508.setTop (mkF m 378 #[vi is, vi ia, vi ib, vi (2 : Int32), vi (2 : Int32), vi (0 : Int32), vi q6, vi q7, vi q8, vi q9, vi w154_0, vi w156_0, vi w158_0, vi w160_0, vi w162_0, vi w164_0, vi w166_0, vi w168_0, vr b456, vr b485, .unset, .unset] [(.int (1 : Int32))]))
                          refine Go.by' (fun t k => (XS.pop X508.here hx rfl (hb hby at_378) rfl rfl (XS.aload X508.here hx rfl (hb hby at_379) rfl rfl (XS.aload X508.here hx rfl (hb hby at_381) rfl rfl k)))) ?_
                          have c515 := ((((((((((((f479_0.ext E485).keep K486 (ninS (Nat.ne_of_lt (Nat.lt_of_lt_of_le (Nat.lt_of_lt_of_le f466_0.lt (Nat.le_trans E471.1 (Nat.le_trans K472.1 (Nat.le_trans K473.1 (Nat.le_trans K474.1 K479.1))))) (Nat.le_of_eq g485.symm))) nin0)).ext E487).keep K488 nin0).keep K489 nin0).keep K490 (ninS (Nat.ne_of_lt (Nat.lt_of_lt_of_le (Nat.lt_of_lt_of_le f466_0.lt (Nat.le_trans E471.1 (Nat.le_trans K472.1 (Nat.le_trans K473.1 (Nat.le_trans K474.1 (Nat.le_trans K479.1 (Nat.le_trans E485.1 K486.1))))))) (Nat.le_of_eq g487.symm))) nin0)).keep K495 (ninS (Nat.ne_of_lt (Nat.lt_of_lt_of_le (Nat.lt_of_lt_of_le f466_0.lt (Nat.le_trans E471.1 (Nat.le_trans K472.1 (Nat.le_trans K473.1 (Nat.le_trans K474.1 K479.1))))) (Nat.le_of_eq g485.symm))) nin0)).ext E500).keep K501 nin0).keep K502 nin0).keep K503 (ninS (Nat.ne_of_lt (Nat.lt_of_lt_of_le (Nat.lt_of_lt_of_le f466_0.lt (Nat.le_trans E471.1 (Nat.le_trans K472.1 (Nat.le_trans K473.1 (Nat.le_trans K474.1 (Nat.le_trans K479.1 (Nat.le_trans E485.1 (Nat.le_trans K486.1 (Nat.le_trans E487.1 (Nat.le_trans K488.1 (Nat.le_trans K489.1 (Nat.le_trans K490.1 K495.1)))))))))))) (Nat.le_of_eq g500.symm))) nin0)).keep K508 (ninS (Nat.ne_of_lt (Nat.lt_of_lt_of_le (Nat.lt_of_lt_of_le f466_0.lt (Nat.le_trans E471.1 (Nat.le_trans K472.1 (Nat.le_trans K473.1 (Nat.le_trans K474.1 K479.1))))) (Nat.le_of_eq g485.symm))) (ninS (Nat.ne_of_lt (Nat.lt_of_lt_of_le (Nat.lt_of_lt_of_le f466_0.lt (Nat.le_trans E471.1 (Nat.le_trans K472.1 (Nat.le_trans K473.1 (Nat.le_trans K474.1 (Nat.le_trans K479.1 (Nat.le_trans E485.1 (Nat.le_trans K486.1 (Nat.le_trans E487.1 (Nat.le_trans K488.1 (Nat.le_trans K489.1 K490.1))))))))))) f495_1)) nin0)))
                          have c516 := ((((((((((((((((((((f459_4.keep K460 nin0).keep K461 (ninS (Ne.symm (Nat.ne_of_lt (Nat.lt_of_lt_of_le A458.lt f459_5))) nin0)).keep K466 (ninS (Ne.symm (Nat.ne_of_lt (Nat.lt_of_lt_of_le (Nat.lt_of_lt_of_le A456.lt (Nat.le_trans K457.1 E458.1)) f459_5))) nin0)).ext E471).keep K472 nin0).keep K473 nin0).keep K474 (ninS (Nat.ne_of_lt (Nat.lt_of_lt_of_le (Nat.lt_of_lt_of_le f459_4.lt (Nat.le_trans K460.1 (Nat.le_trans K461.1 K466.1))) (Nat.le_of_eq g471.symm))) nin0)).keep K479 (ninS (Ne.symm (Nat.ne_of_lt (Nat.lt_of_lt_of_le (Nat.lt_of_lt_of_le A456.lt (Nat.le_trans K457.1 E458.1)) f459_5))) (ninS (Nat.ne_of_lt (Nat.lt_of_lt_of_le (Nat.lt_of_lt_of_le f459_4.lt (Nat.le_trans K460.1 K461.1)) f466_1)) nin0))).ext E485).keep K486 (ninS (Nat.ne_of_lt (Nat.lt_of_lt_of_le (Nat.lt_of_lt_of_le f459_4.lt (Nat.le_trans K460.1 (Nat.le_trans K461.1 (Nat.le_trans K466.1 (Nat.le_trans E471.1 (Nat.le_trans K472.1 (Nat.le_trans K473.1 (Nat.le_trans K474.1 K479.1)))))))) (Nat.le_of_eq g485.symm))) nin0)).ext E487).keep K488 nin0).keep K489 nin0).keep K490 (ninS (Nat.ne_of_lt (Nat.lt_of_lt_of_le (Nat.lt_of_lt_of_le f459_4.lt (Nat.le_trans K460.1 (Nat.le_trans K461.1 (Nat.le_trans K466.1 (Nat.le_trans E471.1 (Nat.le_trans K472.1 (Nat.le_trans K473.1 (Nat.le_trans K474.1 (Nat.le_trans K479.1 (Nat.le_trans E485.1 K486.1)))))))))) (Nat.le_of_eq g487.symm))) nin0)).keep K495 (ninS (Nat.ne_of_lt (Nat.lt_of_lt_of_le (Nat.lt_of_lt_of_le f459_4.lt (Nat.le_trans K460.1 (Nat.le_trans K461.1 (Nat.le_trans K466.1 (Nat.le_trans E471.1 (Nat.le_trans K472.1 (Nat.le_trans K473.1 (Nat.le_trans K474.1 K479.1)))))))) (Nat.le_of_eq g485.symm))) nin0)).ext E500).keep K501 nin0).keep K502 nin0).keep K503 (ninS (Nat.ne_of_lt (Nat.lt_of_lt_of_le (Nat.lt_of_lt_of_le f459_4.lt (Nat.le_trans K460.1 (Nat.le_trans K461.1 (Nat.le_trans K466.1 (Nat.le_trans E471.1 (Nat.le_trans K472.1 (Nat.le_trans K473.1 (Nat.le_trans K474.1 (Nat.le_trans K479.1 (Nat.le_trans E485.1 (Nat.le_trans K486.1 (Nat.le_trans E487.1 (Nat.le_trans K488.1 (Nat.le_trans K489.1 (Nat.le_trans K490.1 K495.1))))))))))))))) (Nat.le_of_eq g500.symm))) nin0)).keep K508 (ninS (Nat.ne_of_lt (Nat.lt_of_lt_of_le (Nat.lt_of_lt_of_le f459_4.lt (Nat.le_trans K460.1 (Nat.le_trans K461.1 (Nat.le_trans K466.1 (Nat.le_trans E471.1 (Nat.le_trans K472.1 (Nat.le_trans K473.1 (Nat.le_trans K474.1 K479.1)))))))) (Nat.le_of_eq g485.symm))) (ninS (Nat.ne_of_lt (Nat.lt_of_lt_of_le (Nat.lt_of_lt_of_le f459_4.lt (Nat.le_trans K460.1 (Nat.le_trans K461.1 (Nat.le_trans K466.1 (Nat.le_trans E471.1 (Nat.le_trans K472.1 (Nat.le_trans K473.1 (Nat.le_trans K474.1 (Nat.le_trans K479.1 (Nat.le_trans E485.1 (Nat.le_trans K486.1 (Nat.le_trans E487.1 (Nat.le_trans K488.1 (Nat.le_trans K489.1 K490.1)))))))))))))) f495_1)) nin0)))
                          have c517 := (((((((((((((((((((f460_4.keep K461 (ninS (Ne.symm (Nat.ne_of_lt (Nat.lt_of_lt_of_le (Nat.lt_of_lt_of_le A458.lt K459.1) f460_5))) nin0)).keep K466 (ninS (Ne.symm (Nat.ne_of_lt (Nat.lt_of_lt_of_le (Nat.lt_of_lt_of_le A456.lt (Nat.le_trans K457.1 (Nat.le_trans E458.1 K459.1))) f460_5))) nin0)).ext E471).keep K472 nin0).keep K473 nin0).keep K474 (ninS (Nat.ne_of_lt (Nat.lt_of_lt_of_le (Nat.lt_of_lt_of_le f460_4.lt (Nat.le_trans K461.1 K466.1)) (Nat.le_of_eq g471.symm))) nin0)).keep K479 (ninS (Ne.symm (Nat.ne_of_lt (Nat.lt_of_lt_of_le (Nat.lt_of_lt_of_le A456.lt (Nat.le_trans K457.1 (Nat.le_trans E458.1 K459.1))) f460_5))) (ninS (Nat.ne_of_lt (Nat.lt_of_lt_of_le (Nat.lt_of_lt_of_le f460_4.lt K461.1) f466_1)) nin0))).ext E485).keep K486 (ninS (Nat.ne_of_lt (Nat.lt_of_lt_of_le (Nat.lt_of_lt_of_le f460_4.lt (Nat.le_trans K461.1 (Nat.le_trans K466.1 (Nat.le_trans E471.1 (Nat.le_trans K472.1 (Nat.le_trans K473.1 (Nat.le_trans K474.1 K479.1))))))) (Nat.le_of_eq g485.symm))) nin0)).ext E487).keep K488 nin0).keep K489 nin0).keep K490 (ninS (Nat.ne_of_lt (Nat.lt_of_lt_of_le (Nat.lt_of_lt_of_le f460_4.lt (Nat.le_trans K461.1 (Nat.le_trans K466.1 (Nat.le_trans E471.1 (Nat.le_trans K472.1 (Nat.le_trans K473.1 (Nat.le_trans K474.1 (Nat.le_trans K479.1 (Nat.le_trans E485.1 K486.1))))))))) (Nat.le_of_eq g487.symm))) nin0)).keep K495 (ninS (Nat.ne_of_lt (Nat.lt_of_lt_of_le (Nat.lt_of_lt_of_le f460_4.lt (Nat.le_trans K461.1 (Nat.le_trans K466.1 (Nat.le_trans E471.1 (Nat.le_trans K472.1 (Nat.le_trans K473.1 (Nat.le_trans K474.1 K479.1))))))) (Nat.le_of_eq g485.symm))) nin0)).ext E500).keep K501 nin0).keep K502 nin0).keep K503 (ninS (Nat.ne_of_lt (Nat.lt_of_lt_of_le (Nat.lt_of_lt_of_le f460_4.lt (Nat.le_trans K461.1 (Nat.le_trans K466.1 (Nat.le_trans E471.1 (Nat.le_trans K472.1 (Nat.le_trans K473.1 (Nat.le_trans K474.1 (Nat.le_trans K479.1 (Nat.le_trans E485.1 (Nat.le_trans K486.1 (Nat.le_trans E487.1 (Nat.le_trans K488.1 (Nat.le_trans K489.1 (Nat.le_trans K490.1 K495.1)))))))))))))) (Nat.le_of_eq g500.symm))) nin0)).keep K508 (ninS (Nat.ne_of_lt (Nat.lt_of_lt_of_le (Nat.lt_of_lt_of_le f460_4.lt (Nat.le_trans K461.1 (Nat.le_trans K466.1 (Nat.le_trans E471.1 (Nat.le_trans K472.1 (Nat.le_trans K473.1 (Nat.le_trans K474.1 K479.1))))))) (Nat.le_of_eq g485.symm))) (ninS (Nat.ne_of_lt (Nat.lt_of_lt_of_le (Nat.lt_of_lt_of_le f460_4.lt (Nat.le_trans K461.1 (Nat.le_trans K466.1 (Nat.le_trans E471.1 (Nat.le_trans K472.1 (Nat.le_trans K473.1 (Nat.le_trans K474.1 (Nat.le_trans K479.1 (Nat.le_trans E485.1 (Nat.le_trans K486.1 (Nat.le_trans E487.1 (Nat.le_trans K488.1 (Nat.le_trans K489.1 K490.1))))))))))))) f495_1)) nin0)))
                          have c518 := ((((((((f488_4.keep K489 nin0).keep K490 (ninS (Ne.symm (Nat.ne_of_lt (Nat.lt_of_lt_of_le A487.lt f488_5))) nin0)).keep K495 (ninS (Ne.symm (Nat.ne_of_lt (Nat.lt_of_lt_of_le (Nat.lt_of_lt_of_le A485.lt (Nat.le_trans K486.1 E487.1)) f488_5))) nin0)).ext E500).keep K501 nin0).keep K502 nin0).keep K503 (ninS (Nat.ne_of_lt (Nat.lt_of_lt_of_le (Nat.lt_of_lt_of_le f488_4.lt (Nat.le_trans K489.1 (Nat.le_trans K490.1 K495.1))) (Nat.le_of_eq g500.symm))) nin0)).keep K508 (ninS (Ne.symm (Nat.ne_of_lt (Nat.lt_of_lt_of_le (Nat.lt_of_lt_of_le A485.lt (Nat.le_trans K486.1 E487.1)) f488_5))) (ninS (Nat.ne_of_lt (Nat.lt_of_lt_of_le (Nat.lt_of_lt_of_le f488_4.lt (Nat.le_trans K489.1 K490.1)) f495_1)) nin0)))
                          have c519 := (((((((f489_4.keep K490 (ninS (Ne.symm (Nat.ne_of_lt (Nat.lt_of_lt_of_le (Nat.lt_of_lt_of_le A487.lt K488.1) f489_5))) nin0)).keep K495 (ninS (Ne.symm (Nat.ne_of_lt (Nat.lt_of_lt_of_le (Nat.lt_of_lt_of_le A485.lt (Nat.le_trans K486.1 (Nat.le_trans E487.1 K488.1))) f489_5))) nin0)).ext E500).keep K501 nin0).keep K502 nin0).keep K503 (ninS (Nat.ne_of_lt (Nat.lt_of_lt_of_le (Nat.lt_of_lt_of_le f489_4.lt (Nat.le_trans K490.1 K495.1)) (Nat.le_of_eq g500.symm))) nin0)).keep K508 (ninS (Ne.symm (Nat.ne_of_lt (Nat.lt_of_lt_of_le (Nat.lt_of_lt_of_le A485.lt (Nat.le_trans K486.1 (Nat.le_trans E487.1 K488.1))) f489_5))) (ninS (Nat.ne_of_lt (Nat.lt_of_lt_of_le (Nat.lt_of_lt_of_le f489_4.lt K490.1) f495_1)) nin0)))
                          have c520 := (((((((((((((((f472_4.keep K473 nin0).keep K474 (ninS (Ne.symm (Nat.ne_of_lt (Nat.lt_of_lt_of_le A471.lt f472_5))) nin0)).keep K479 (ninS (Ne.symm (Nat.ne_of_lt (Nat.lt_of_lt_of_le (Nat.lt_of_lt_of_le A456.lt (Nat.le_trans K457.1 (Nat.le_trans E458.1 (Nat.le_trans K459.1 (Nat.le_trans K460.1 (Nat.le_trans K461.1 (Nat.le_trans K466.1 E471.1))))))) f472_5))) (ninS (Ne.symm (Nat.ne_of_lt (Nat.lt_of_lt_of_le (Nat.lt_of_lt_of_le f466_0.lt E471.1) f472_5))) nin0))).ext E485).keep K486 (ninS (Nat.ne_of_lt (Nat.lt_of_lt_of_le (Nat.lt_of_lt_of_le f472_4.lt (Nat.le_trans K473.1 (Nat.le_trans K474.1 K479.1))) (Nat.le_of_eq g485.symm))) nin0)).ext E487).keep K488 nin0).keep K489 nin0).keep K490 (ninS (Nat.ne_of_lt (Nat.lt_of_lt_of_le (Nat.lt_of_lt_of_le f472_4.lt (Nat.le_trans K473.1 (Nat.le_trans K474.1 (Nat.le_trans K479.1 (Nat.le_trans E485.1 K486.1))))) (Nat.le_of_eq g487.symm))) nin0)).keep K495 (ninS (Nat.ne_of_lt (Nat.lt_of_lt_of_le (Nat.lt_of_lt_of_le f472_4.lt (Nat.le_trans K473.1 (Nat.le_trans K474.1 K479.1))) (Nat.le_of_eq g485.symm))) nin0)).ext E500).keep K501 nin0).keep K502 nin0).keep K503 (ninS (Nat.ne_of_lt (Nat.lt_of_lt_of_le (Nat.lt_of_lt_of_le f472_4.lt (Nat.le_trans K473.1 (Nat.le_trans K474.1 (Nat.le_trans K479.1 (Nat.le_trans E485.1 (Nat.le_trans K486.1 (Nat.le_trans E487.1 (Nat.le_trans K488.1 (Nat.le_trans K489.1 (Nat.le_trans K490.1 K495.1)))))))))) (Nat.le_of_eq g500.symm))) nin0)).keep K508 (ninS (Nat.ne_of_lt (Nat.lt_of_lt_of_le (Nat.lt_of_lt_of_le f472_4.lt (Nat.le_trans K473.1 (Nat.le_trans K474.1 K479.1))) (Nat.le_of_eq g485.symm))) (ninS (Nat.ne_of_lt (Nat.lt_of_lt_of_le (Nat.lt_of_lt_of_le f472_4.lt (Nat.le_trans K473.1 (Nat.le_trans K474.1 (Nat.le_trans K479.1 (Nat.le_trans E485.1 (Nat.le_trans K486.1 (Nat.le_trans E487.1 (Nat.le_trans K488.1 (Nat.le_trans K489.1 K490.1))))))))) f495_1)) nin0)))
                          have c521 := ((((((((((((((f473_4.keep K474 (ninS (Ne.symm (Nat.ne_of_lt (Nat.lt_of_lt_of_le (Nat.lt_of_lt_of_le A471.lt K472.1) f473_5))) nin0)).keep K479 (ninS (Ne.symm (Nat.ne_of_lt (Nat.lt_of_lt_of_le (Nat.lt_of_lt_of_le A456.lt (Nat.le_trans K457.1 (Nat.le_trans E458.1 (Nat.le_trans K459.1 (Nat.le_trans K460.1 (Nat.le_trans K461.1 (Nat.le_trans K466.1 (Nat.le_trans E471.1 K472.1)))))))) f473_5))) (ninS (Ne.symm (Nat.ne_of_lt (Nat.lt_of_lt_of_le (Nat.lt_of_lt_of_le f466_0.lt (Nat.le_trans E471.1 K472.1)) f473_5))) nin0))).ext E485).keep K486 (ninS (Nat.ne_of_lt (Nat.lt_of_lt_of_le (Nat.lt_of_lt_of_le f473_4.lt (Nat.le_trans K474.1 K479.1)) (Nat.le_of_eq g485.symm))) nin0)).ext E487).keep K488 nin0).keep K489 nin0).keep K490 (ninS (Nat.ne_of_lt (Nat.lt_of_lt_of_le (Nat.lt_of_lt_of_le f473_4.lt (Nat.le_trans K474.1 (Nat.le_trans K479.1 (Nat.le_trans E485.1 K486.1)))) (Nat.le_of_eq g487.symm))) nin0)).keep K495 (ninS (Nat.ne_of_lt (Nat.lt_of_lt_of_le (Nat.lt_of_lt_of_le f473_4.lt (Nat.le_trans K474.1 K479.1)) (Nat.le_of_eq g485.symm))) nin0)).ext E500).keep K501 nin0).keep K502 nin0).keep K503 (ninS (Nat.ne_of_lt (Nat.lt_of_lt_of_le (Nat.lt_of_lt_of_le f473_4.lt (Nat.le_trans K474.1 (Nat.le_trans K479.1 (Nat.le_trans E485.1 (Nat.le_trans K486.1 (Nat.le_trans E487.1 (Nat.le_trans K488.1 (Nat.le_trans K489.1 (Nat.le_trans K490.1 K495.1))))))))) (Nat.le_of_eq g500.symm))) nin0)).keep K508 (ninS (Nat.ne_of_lt (Nat.lt_of_lt_of_le (Nat.lt_of_lt_of_le f473_4.lt (Nat.le_trans K474.1 K479.1)) (Nat.le_of_eq g485.symm))) (ninS (Nat.ne_of_lt (Nat.lt_of_lt_of_le (Nat.lt_of_lt_of_le f473_4.lt (Nat.le_trans K474.1 (Nat.le_trans K479.1 (Nat.le_trans E485.1 (Nat.le_trans K486.1 (Nat.le_trans E487.1 (Nat.le_trans K488.1 (Nat.le_trans K489.1 K490.1)))))))) f495_1)) nin0)))
                          have c522 := (((f501_4.keep K502 nin0).keep K503 (ninS (Ne.symm (Nat.ne_of_lt (Nat.lt_of_lt_of_le A500.lt f501_5))) nin0)).keep K508 (ninS (Ne.symm (Nat.ne_of_lt (Nat.lt_of_lt_of_le (Nat.lt_of_lt_of_le A485.lt (Nat.le_trans K486.1 (Nat.le_trans E487.1 (Nat.le_trans K488.1 (Nat.le_trans K489.1 (Nat.le_trans K490.1 (Nat.le_trans K495.1 E500.1))))))) f501_5))) (ninS (Ne.symm (Nat.ne_of_lt (Nat.lt_of_lt_of_le (Nat.lt_of_lt_of_le f495_0.lt E500.1) f501_5))) nin0)))
                          have c523 := ((f502_4.keep K503 (ninS (Ne.symm (Nat.ne_of_lt (Nat.lt_of_lt_of_le (Nat.lt_of_lt_of_le A500.lt K501.1) f502_5))) nin0)).keep K508 (ninS (Ne.symm (Nat.ne_of_lt (Nat.lt_of_lt_of_le (Nat.lt_of_lt_of_le A485.lt (Nat.le_trans K486.1 (Nat.le_trans E487.1 (Nat.le_trans K488.1 (Nat.le_trans K489.1 (Nat.le_trans K490.1 (Nat.le_trans K495.1 (Nat.le_trans E500.1 K501.1)))))))) f502_5))) (ninS (Ne.symm (Nat.ne_of_lt (Nat.lt_of_lt_of_le (Nat.lt_of_lt_of_le f495_0.lt (Nat.le_trans E500.1 K501.1)) f502_5))) nin0)))
                          have c524 := ((((((((((((f479_1.ext E485).keep K486).ext E487).keep K488).keep K489).keep K490).keep K495).ext E500).keep K501).keep K502).keep K503).keep K508)
                          have c525 := ((((((((((((f479_3.ext E485).keep K486 (ninS (Nat.ne_of_lt (Nat.lt_of_lt_of_le (Nat.lt_of_lt_of_le A456.lt (Nat.le_trans K457.1 (Nat.le_trans E458.1 (Nat.le_trans K459.1 (Nat.le_trans K460.1 (Nat.le_trans K461.1 (Nat.le_trans K466.1 (Nat.le_trans E471.1 (Nat.le_trans K472.1 (Nat.le_trans K473.1 (Nat.le_trans K474.1 K479.1))))))))))) (Nat.le_of_eq g485.symm))) nin0)).ext E487).keep K488 nin0).keep K489 nin0).keep K490 (ninS (Nat.ne_of_lt (Nat.lt_of_lt_of_le (Nat.lt_of_lt_of_le A456.lt (Nat.le_trans K457.1 (Nat.le_trans E458.1 (Nat.le_trans K459.1 (Nat.le_trans K460.1 (Nat.le_trans K461.1 (Nat.le_trans K466.1 (Nat.le_trans E471.1 (Nat.le_trans K472.1 (Nat.le_trans K473.1 (Nat.le_trans K474.1 (Nat.le_trans K479.1 (Nat.le_trans E485.1 K486.1))))))))))))) (Nat.le_of_eq g487.symm))) nin0)).keep K495 (ninS (Nat.ne_of_lt (Nat.lt_of_lt_of_le (Nat.lt_of_lt_of_le A456.lt (Nat.le_trans K457.1 (Nat.le_trans E458.1 (Nat.le_trans K459.1 (Nat.le_trans K460.1 (Nat.le_trans K461.1 (Nat.le_trans K466.1 (Nat.le_trans E471.1 (Nat.le_trans K472.1 (Nat.le_trans K473.1 (Nat.le_trans K474.1 K479.1))))))))))) (Nat.le_of_eq g485.symm))) nin0)).ext E500).keep K501 nin0).keep K502 nin0).keep K503 (ninS (Nat.ne_of_lt (Nat.lt_of_lt_of_le (Nat.lt_of_lt_of_le A456.lt (Nat.le_trans K457.1 (Nat.le_trans E458.1 (Nat.le_trans K459.1 (Nat.le_trans K460.1 (Nat.le_trans K461.1 (Nat.le_trans K466.1 (Nat.le_trans E471.1 (Nat.le_trans K472.1 (Nat.le_trans K473.1 (Nat.le_trans K474.1 (Nat.le_trans K479.1 (Nat.le_trans E485.1 (Nat.le_trans K486.1 (Nat.le_trans E487.1 (Nat.le_trans K488.1 (Nat.le_trans K489.1 (Nat.le_trans K490.1 K495.1)))))))))))))))))) (Nat.le_of_eq g500.symm))) nin0)).keep K508 (ninS (Nat.ne_of_lt (Nat.lt_of_lt_of_le (Nat.lt_of_lt_of_le A456.lt (Nat.le_trans K457.1 (Nat.le_trans E458.1 (Nat.le_trans K459.1 (Nat.le_trans K460.1 (Nat.le_trans K461.1 (Nat.le_trans K466.1 (Nat.le_trans E471.1 (Nat.le_trans K472.1 (Nat.le_trans K473.1 (Nat.le_trans K474.1 K479.1))))))))))) (Nat.le_of_eq g485.symm))) (ninS (Nat.ne_of_lt (Nat.lt_of_lt_of_le (Nat.lt_of_lt_of_le A456.lt (Nat.le_trans K457.1 (Nat.le_trans E458.1 (Nat.le_trans K459.1 (Nat.le_trans K460.1 (Nat.le_trans K461.1 (Nat.le_trans K466.1 (Nat.le_trans E471.1 (Nat.le_trans K472.1 (Nat.le_trans K473.1 (Nat.le_trans K474.1 (Nat.le_trans K479.1 (Nat.le_trans E485.1 (Nat.le_trans K486.1 (Nat.le_trans E487.1 (Nat.le_trans K488.1 (Nat.le_trans K489.1 K490.1))))))))))))))))) f495_1)) nin0)))
                          have c526 := ((((((((((((f479_2.ext E485).keep K486 (ninS (Nat.ne_of_lt (Nat.lt_of_lt_of_le (Nat.lt_of_lt_of_le A456.lt (Nat.le_trans K457.1 (Nat.le_trans E458.1 (Nat.le_trans K459.1 (Nat.le_trans K460.1 (Nat.le_trans K461.1 (Nat.le_trans K466.1 (Nat.le_trans E471.1 (Nat.le_trans K472.1 (Nat.le_trans K473.1 (Nat.le_trans K474.1 K479.1))))))))))) (Nat.le_of_eq g485.symm))) nin0)).ext E487).keep K488 nin0).keep K489 nin0).keep K490 (ninS (Nat.ne_of_lt (Nat.lt_of_lt_of_le (Nat.lt_of_lt_of_le A456.lt (Nat.le_trans K457.1 (Nat.le_trans E458.1 (Nat.le_trans K459.1 (Nat.le_trans K460.1 (Nat.le_trans K461.1 (Nat.le_trans K466.1 (Nat.le_trans E471.1 (Nat.le_trans K472.1 (Nat.le_trans K473.1 (Nat.le_trans K474.1 (Nat.le_trans K479.1 (Nat.le_trans E485.1 K486.1))))))))))))) (Nat.le_of_eq g487.symm))) nin0)).keep K495 (ninS (Nat.ne_of_lt (Nat.lt_of_lt_of_le (Nat.lt_of_lt_of_le A456.lt (Nat.le_trans K457.1 (Nat.le_trans E458.1 (Nat.le_trans K459.1 (Nat.le_trans K460.1 (Nat.le_trans K461.1 (Nat.le_trans K466.1 (Nat.le_trans E471.1 (Nat.le_trans K472.1 (Nat.le_trans K473.1 (Nat.le_trans K474.1 K479.1))))))))))) (Nat.le_of_eq g485.symm))) nin0)).ext E500).keep K501 nin0).keep K502 nin0).keep K503 (ninS (Nat.ne_of_lt (Nat.lt_of_lt_of_le (Nat.lt_of_lt_of_le A456.lt (Nat.le_trans K457.1 (Nat.le_trans E458.1 (Nat.le_trans K459.1 (Nat.le_trans K460.1 (Nat.le_trans K461.1 (Nat.le_trans K466.1 (Nat.le_trans E471.1 (Nat.le_trans K472.1 (Nat.le_trans K473.1 (Nat.le_trans K474.1 (Nat.le_trans K479.1 (Nat.le_trans E485.1 (Nat.le_trans K486.1 (Nat.le_trans E487.1 (Nat.le_trans K488.1 (Nat.le_trans K489.1 (Nat.le_trans K490.1 K495.1)))))))))))))))))) (Nat.le_of_eq g500.symm))) nin0)).keep K508 (ninS (Nat.ne_of_lt (Nat.lt_of_lt_of_le (Nat.lt_of_lt_of_le A456.lt (Nat.le_trans K457.1 (Nat.le_trans E458.1 (Nat.le_trans K459.1 (Nat.le_trans K460.1 (Nat.le_trans K461.1 (Nat.le_trans K466.1 (Nat.le_trans E471.1 (Nat.le_trans K472.1 (Nat.le_trans K473.1 (Nat.le_trans K474.1 K479.1))))))))))) (Nat.le_of_eq g485.symm))) (ninS (Nat.ne_of_lt (Nat.lt_of_lt_of_le (Nat.lt_of_lt_of_le A456.lt (Nat.le_trans K457.1 (Nat.le_trans E458.1 (Nat.le_trans K459.1 (Nat.le_trans K460.1 (Nat.le_trans K461.1 (Nat.le_trans K466.1 (Nat.le_trans E471.1 (Nat.le_trans K472.1 (Nat.le_trans K473.1 (Nat.le_trans K474.1 (Nat.le_trans K479.1 (Nat.le_trans E485.1 (Nat.le_trans K486.1 (Nat.le_trans E487.1 (Nat.le_trans K488.1 (Nat.le_trans K489.1 K490.1))))))))))))))))) f495_1)) nin0)))
                          have c527 := ((((((((((((((((((f461_0.keep K466).ext E471).keep K472).keep K473).keep K474).keep K479).ext E485).keep K486).ext E487).keep K488).keep K489).keep K490).keep K495).ext E500).keep K501).keep K502).keep K503).keep K508)
                          have c528 := ((((((((((((((((((f461_1.keep K466 (ninS (Ne.symm (Nat.ne_of_lt (Nat.lt_of_lt_of_le (Nat.lt_of_lt_of_le A456.lt K457.1) (Nat.le_of_eq g458.symm)))) nin0)).ext E471).keep K472 nin0).keep K473 nin0).keep K474 (ninS (Nat.ne_of_lt (Nat.lt_of_lt_of_le (Nat.lt_of_lt_of_le A458.lt (Nat.le_trans K459.1 (Nat.le_trans K460.1 (Nat.le_trans K461.1 K466.1)))) (Nat.le_of_eq g471.symm))) nin0)).keep K479 (ninS (Ne.symm (Nat.ne_of_lt (Nat.lt_of_lt_of_le (Nat.lt_of_lt_of_le A456.lt K457.1) (Nat.le_of_eq g458.symm)))) (ninS (Nat.ne_of_lt (Nat.lt_of_lt_of_le (Nat.lt_of_lt_of_le A458.lt (Nat.le_trans K459.1 (Nat.le_trans K460.1 K461.1))) f466_1)) nin0))).ext E485).keep K486 (ninS (Nat.ne_of_lt (Nat.lt_of_lt_of_le (Nat.lt_of_lt_of_le A458.lt (Nat.le_trans K459.1 (Nat.le_trans K460.1 (Nat.le_trans K461.1 (Nat.le_trans K466.1 (Nat.le_trans E471.1 (Nat.le_trans K472.1 (Nat.le_trans K473.1 (Nat.le_trans K474.1 K479.1))))))))) (Nat.le_of_eq g485.symm))) nin0)).ext E487).keep K488 nin0).keep K489 nin0).keep K490 (ninS (Nat.ne_of_lt (Nat.lt_of_lt_of_le (Nat.lt_of_lt_of_le A458.lt (Nat.le_trans K459.1 (Nat.le_trans K460.1 (Nat.le_trans K461.1 (Nat.le_trans K466.1 (Nat.le_trans E471.1 (Nat.le_trans K472.1 (Nat.le_trans K473.1 (Nat.le_trans K474.1 (Nat.le_trans K479.1 (Nat.le_trans E485.1 K486.1))))))))))) (Nat.le_of_eq g487.symm))) nin0)).keep K495 (ninS (Nat.ne_of_lt (Nat.lt_of_lt_of_le (Nat.lt_of_lt_of_le A458.lt (Nat.le_trans K459.1 (Nat.le_trans K460.1 (Nat.le_trans K461.1 (Nat.le_trans K466.1 (Nat.le_trans E471.1 (Nat.le_trans K472.1 (Nat.le_trans K473.1 (Nat.le_trans K474.1 K479.1))))))))) (Nat.le_of_eq g485.symm))) nin0)).ext E500).keep K501 nin0).keep K502 nin0).keep K503 (ninS (Nat.ne_of_lt (Nat.lt_of_lt_of_le (Nat.lt_of_lt_of_le A458.lt (Nat.le_trans K459.1 (Nat.le_trans K460.1 (Nat.le_trans K461.1 (Nat.le_trans K466.1 (Nat.le_trans E471.1 (Nat.le_trans K472.1 (Nat.le_trans K473.1 (Nat.le_trans K474.1 (Nat.le_trans K479.1 (Nat.le_trans E485.1 (Nat.le_trans K486.1 (Nat.le_trans E487.1 (Nat.le_trans K488.1 (Nat.le_trans K489.1 (Nat.le_trans K490.1 K495.1)))))))))))))))) (Nat.le_of_eq g500.symm))) nin0)).keep K508 (ninS (Nat.ne_of_lt (Nat.lt_of_lt_of_le (Nat.lt_of_lt_of_le A458.lt (Nat.le_trans K459.1 (Nat.le_trans K460.1 (Nat.le_trans K461.1 (Nat.le_trans K466.1 (Nat.le_trans E471.1 (Nat.le_trans K472.1 (Nat.le_trans K473.1 (Nat.le_trans K474.1 K479.1))))))))) (Nat.le_of_eq g485.symm))) (ninS (Nat.ne_of_lt (Nat.lt_of_lt_of_le (Nat.lt_of_lt_of_le A458.lt (Nat.le_trans K459.1 (Nat.le_trans K460.1 (Nat.le_trans K461.1 (Nat.le_trans K466.1 (Nat.le_trans E471.1 (Nat.le_trans K472.1 (Nat.le_trans K473.1 (Nat.le_trans K474.1 (Nat.le_trans K479.1 (Nat.le_trans E485.1 (Nat.le_trans K486.1 (Nat.le_trans E487.1 (Nat.le_trans K488.1 (Nat.le_trans K489.1 K490.1))))))))))))))) f495_1)) nin0)))
                          have c529 := ((((((((((((((((((((f459_0.keep K460).keep K461).keep K466).ext E471).keep K472).keep K473).keep K474).keep K479).ext E485).keep K486).ext E487).keep K488).keep K489).keep K490).keep K495).ext E500).keep K501).keep K502).keep K503).keep K508)
                          have c530 := ((((((((((((((((((((f459_2.keep K460 nin0).keep K461 (ninS (Ne.symm (Nat.ne_of_lt (Nat.lt_of_lt_of_le A458.lt f459_1))) nin0)).keep K466 (ninS (Ne.symm (Nat.ne_of_lt (Nat.lt_of_lt_of_le (Nat.lt_of_lt_of_le A456.lt (Nat.le_trans K457.1 E458.1)) f459_1))) nin0)).ext E471).keep K472 nin0).keep K473 nin0).keep K474 (ninS (Nat.ne_of_lt (Nat.lt_of_lt_of_le (Nat.lt_of_lt_of_le f459_0.lt (Nat.le_trans K460.1 (Nat.le_trans K461.1 K466.1))) (Nat.le_of_eq g471.symm))) nin0)).keep K479 (ninS (Ne.symm (Nat.ne_of_lt (Nat.lt_of_lt_of_le (Nat.lt_of_lt_of_le A456.lt (Nat.le_trans K457.1 E458.1)) f459_1))) (ninS (Nat.ne_of_lt (Nat.lt_of_lt_of_le (Nat.lt_of_lt_of_le f459_0.lt (Nat.le_trans K460.1 K461.1)) f466_1)) nin0))).ext E485).keep K486 (ninS (Nat.ne_of_lt (Nat.lt_of_lt_of_le (Nat.lt_of_lt_of_le f459_0.lt (Nat.le_trans K460.1 (Nat.le_trans K461.1 (Nat.le_trans K466.1 (Nat.le_trans E471.1 (Nat.le_trans K472.1 (Nat.le_trans K473.1 (Nat.le_trans K474.1 K479.1)))))))) (Nat.le_of_eq g485.symm))) nin0)).ext E487).keep K488 nin0).keep K489 nin0).keep K490 (ninS (Nat.ne_of_lt (Nat.lt_of_lt_of_le (Nat.lt_of_lt_of_le f459_0.lt (Nat.le_trans K460.1 (Nat.le_trans K461.1 (Nat.le_trans K466.1 (Nat.le_trans E471.1 (Nat.le_trans K472.1 (Nat.le_trans K473.1 (Nat.le_trans K474.1 (Nat.le_trans K479.1 (Nat.le_trans E485.1 K486.1)))))))))) (Nat.le_of_eq g487.symm))) nin0)).keep K495 (ninS (Nat.ne_of_lt (Nat.lt_of_lt_of_le (Nat.lt_of_lt_of_le f459_0.lt (Nat.le_trans K460.1 (Nat.le_trans K461.1 (Nat.le_trans K466.1 (Nat.le_trans E471.1 (Nat.le_trans K472.1 (Nat.le_trans K473.1 (Nat.le_trans K474.1 K479.1)))))))) (Nat.le_of_eq g485.symm))) nin0)).ext E500).keep K501 nin0).keep K502 nin0).keep K503 (ninS (Nat.ne_of_lt (Nat.lt_of_lt_of_le (Nat.lt_of_lt_of_le f459_0.lt (Nat.le_trans K460.1 (Nat.le_trans K461.1 (Nat.le_trans K466.1 (Nat.le_trans E471.1 (Nat.le_trans K472.1 (Nat.le_trans K473.1 (Nat.le_trans K474.1 (Nat.le_trans K479.1 (Nat.le_trans E485.1 (Nat.le_trans K486.1 (Nat.le_trans E487.1 (Nat.le_trans K488.1 (Nat.le_trans K489.1 (Nat.le_trans K490.1 K495.1))))))))))))))) (Nat.le_of_eq g500.symm))) nin0)).keep K508 (ninS (Nat.ne_of_lt (Nat.lt_of_lt_of_le (Nat.lt_of_lt_of_le f459_0.lt (Nat.le_trans K460.1 (Nat.le_trans K461.1 (Nat.le_trans K466.1 (Nat.le_trans E471.1 (Nat.le_trans K472.1 (Nat.le_trans K473.1 (Nat.le_trans K474.1 K479.1)))))))) (Nat.le_of_eq g485.symm))) (ninS (Nat.ne_of_lt (Nat.lt_of_lt_of_le (Nat.lt_of_lt_of_le f459_0.lt (Nat.le_trans K460.1 (Nat.le_trans K461.1 (Nat.le_trans K466.1 (Nat.le_trans E471.1 (Nat.le_trans K472.1 (Nat.le_trans K473.1 (Nat.le_trans K474.1 (Nat.le_trans K479.1 (Nat.le_trans E485.1 (Nat.le_trans K486.1 (Nat.le_trans E487.1 (Nat.le_trans K488.1 (Nat.le_trans K489.1 K490.1)))))))))))))) f495_1)) nin0)))
                          have c531 := ((((((((((((((((((((f459_3.keep K460 nin0).keep K461 (ninS (Ne.symm (Nat.ne_of_lt (Nat.lt_of_lt_of_le A458.lt f459_1))) nin0)).keep K466 (ninS (Ne.symm (Nat.ne_of_lt (Nat.lt_of_lt_of_le (Nat.lt_of_lt_of_le A456.lt (Nat.le_trans K457.1 E458.1)) f459_1))) nin0)).ext E471).keep K472 nin0).keep K473 nin0).keep K474 (ninS (Nat.ne_of_lt (Nat.lt_of_lt_of_le (Nat.lt_of_lt_of_le f459_0.lt (Nat.le_trans K460.1 (Nat.le_trans K461.1 K466.1))) (Nat.le_of_eq g471.symm))) nin0)).keep K479 (ninS (Ne.symm (Nat.ne_of_lt (Nat.lt_of_lt_of_le (Nat.lt_of_lt_of_le A456.lt (Nat.le_trans K457.1 E458.1)) f459_1))) (ninS (Nat.ne_of_lt (Nat.lt_of_lt_of_le (Nat.lt_of_lt_of_le f459_0.lt (Nat.le_trans K460.1 K461.1)) f466_1)) nin0))).ext E485).keep K486 (ninS (Nat.ne_of_lt (Nat.lt_of_lt_of_le (Nat.lt_of_lt_of_le f459_0.lt (Nat.le_trans K460.1 (Nat.le_trans K461.1 (Nat.le_trans K466.1 (Nat.le_trans E471.1 (Nat.le_trans K472.1 (Nat.le_trans K473.1 (Nat.le_trans K474.1 K479.1)))))))) (Nat.le_of_eq g485.symm))) nin0)).ext E487).keep K488 nin0).keep K489 nin0).keep K490 (ninS (Nat.ne_of_lt (Nat.lt_of_lt_of_le (Nat.lt_of_lt_of_le f459_0.lt (Nat.le_trans K460.1 (Nat.le_trans K461.1 (Nat.le_trans K466.1 (Nat.le_trans E471.1 (Nat.le_trans K472.1 (Nat.le_trans K473.1 (Nat.le_trans K474.1 (Nat.le_trans K479.1 (Nat.le_trans E485.1 K486.1)))))))))) (Nat.le_of_eq g487.symm))) nin0)).keep K495 (ninS (Nat.ne_of_lt (Nat.lt_of_lt_of_le (Nat.lt_of_lt_of_le f459_0.lt (Nat.le_trans K460.1 (Nat.le_trans K461.1 (Nat.le_trans K466.1 (Nat.le_trans E471.1 (Nat.le_trans K472.1 (Nat.le_trans K473.1 (Nat.le_trans K474.1 K479.1)))))))) (Nat.le_of_eq g485.symm))) nin0)).ext E500).keep K501 nin0).keep K502 nin0).keep K503 (ninS (Nat.ne_of_lt (Nat.lt_of_lt_of_le (Nat.lt_of_lt_of_le f459_0.lt (Nat.le_trans K460.1 (Nat.le_trans K461.1 (Nat.le_trans K466.1 (Nat.le_trans E471.1 (Nat.le_trans K472.1 (Nat.le_trans K473.1 (Nat.le_trans K474.1 (Nat.le_trans K479.1 (Nat.le_trans E485.1 (Nat.le_trans K486.1 (Nat.le_trans E487.1 (Nat.le_trans K488.1 (Nat.le_trans K489.1 (Nat.le_trans K490.1 K495.1))))))))))))))) (Nat.le_of_eq g500.symm))) nin0)).keep K508 (ninS (Nat.ne_of_lt (Nat.lt_of_lt_of_le (Nat.lt_of_lt_of_le f459_0.lt (Nat.le_trans K460.1 (Nat.le_trans K461.1 (Nat.le_trans K466.1 (Nat.le_trans E471.1 (Nat.le_trans K472.1 (Nat.le_trans K473.1 (Nat.le_trans K474.1 K479.1)))))))) (Nat.le_of_eq g485.symm))) (ninS (Nat.ne_of_lt (Nat.lt_of_lt_of_le (Nat.lt_of_lt_of_le f459_0.lt (Nat.le_trans K460.1 (Nat.le_trans K461.1 (Nat.le_trans K466.1 (Nat.le_trans E471.1 (Nat.le_trans K472.1 (Nat.le_trans K473.1 (Nat.le_trans K474.1 (Nat.le_trans K479.1 (Nat.le_trans E485.1 (Nat.le_trans K486.1 (Nat.le_trans E487.1 (Nat.le_trans K488.1 (Nat.le_trans K489.1 K490.1)))))))))))))) f495_1)) nin0)))
                          have c532 := ((((((((((((((((((f461_2.keep K466 (ninS (Ne.symm (Nat.ne_of_lt (Nat.lt_of_lt_of_le (Nat.lt_of_lt_of_le A456.lt K457.1) (Nat.le_of_eq g458.symm)))) nin0)).ext E471).keep K472 nin0).keep K473 nin0).keep K474 (ninS (Nat.ne_of_lt (Nat.lt_of_lt_of_le (Nat.lt_of_lt_of_le A458.lt (Nat.le_trans K459.1 (Nat.le_trans K460.1 (Nat.le_trans K461.1 K466.1)))) (Nat.le_of_eq g471.symm))) nin0)).keep K479 (ninS (Ne.symm (Nat.ne_of_lt (Nat.lt_of_lt_of_le (Nat.lt_of_lt_of_le A456.lt K457.1) (Nat.le_of_eq g458.symm)))) (ninS (Nat.ne_of_lt (Nat.lt_of_lt_of_le (Nat.lt_of_lt_of_le A458.lt (Nat.le_trans K459.1 (Nat.le_trans K460.1 K461.1))) f466_1)) nin0))).ext E485).keep K486 (ninS (Nat.ne_of_lt (Nat.lt_of_lt_of_le (Nat.lt_of_lt_of_le A458.lt (Nat.le_trans K459.1 (Nat.le_trans K460.1 (Nat.le_trans K461.1 (Nat.le_trans K466.1 (Nat.le_trans E471.1 (Nat.le_trans K472.1 (Nat.le_trans K473.1 (Nat.le_trans K474.1 K479.1))))))))) (Nat.le_of_eq g485.symm))) nin0)).ext E487).keep K488 nin0).keep K489 nin0).keep K490 (ninS (Nat.ne_of_lt (Nat.lt_of_lt_of_le (Nat.lt_of_lt_of_le A458.lt (Nat.le_trans K459.1 (Nat.le_trans K460.1 (Nat.le_trans K461.1 (Nat.le_trans K466.1 (Nat.le_trans E471.1 (Nat.le_trans K472.1 (Nat.le_trans K473.1 (Nat.le_trans K474.1 (Nat.le_trans K479.1 (Nat.le_trans E485.1 K486.1))))))))))) (Nat.le_of_eq g487.symm))) nin0)).keep K495 (ninS (Nat.ne_of_lt (Nat.lt_of_lt_of_le (Nat.lt_of_lt_of_le A458.lt (Nat.le_trans K459.1 (Nat.le_trans K460.1 (Nat.le_trans K461.1 (Nat.le_trans K466.1 (Nat.le_trans E471.1 (Nat.le_trans K472.1 (Nat.le_trans K473.1 (Nat.le_trans K474.1 K479.1))))))))) (Nat.le_of_eq g485.symm))) nin0)).ext E500).keep K501 nin0).keep K502 nin0).keep K503 (ninS (Nat.ne_of_lt (Nat.lt_of_lt_of_le (Nat.lt_of_lt_of_le A458.lt (Nat.le_trans K459.1 (Nat.le_trans K460.1 (Nat.le_trans K461.1 (Nat.le_trans K466.1 (Nat.le_trans E471.1 (Nat.le_trans K472.1 (Nat.le_trans K473.1 (Nat.le_trans K474.1 (Nat.le_trans K479.1 (Nat.le_trans E485.1 (Nat.le_trans K486.1 (Nat.le_trans E487.1 (Nat.le_trans K488.1 (Nat.le_trans K489.1 (Nat.le_trans K490.1 K495.1)))))))))))))))) (Nat.le_of_eq g500.symm))) nin0)).keep K508 (ninS (Nat.ne_of_lt (Nat.lt_of_lt_of_le (Nat.lt_of_lt_of_le A458.lt (Nat.le_trans K459.1 (Nat.le_trans K460.1 (Nat.le_trans K461.1 (Nat.le_trans K466.1 (Nat.le_trans E471.1 (Nat.le_trans K472.1 (Nat.le_trans K473.1 (Nat.le_trans K474.1 K479.1))))))))) (Nat.le_of_eq g485.symm))) (ninS (Nat.ne_of_lt (Nat.lt_of_lt_of_le (Nat.lt_of_lt_of_le A458.lt (Nat.le_trans K459.1 (Nat.le_trans K460.1 (Nat.le_trans K461.1 (Nat.le_trans K466.1 (Nat.le_trans E471.1 (Nat.le_trans K472.1 (Nat.le_trans K473.1 (Nat.le_trans K474.1 (Nat.le_trans K479.1 (Nat.le_trans E485.1 (Nat.le_trans K486.1 (Nat.le_trans E487.1 (Nat.le_trans K488.1 (Nat.le_trans K489.1 K490.1))))))))))))))) f495_1)) nin0)))
                          have c533 := (((((((((((((((((((f460_0.keep K461).keep K466).ext E471).keep K472).keep K473).keep K474).keep K479).ext E485).keep K486).ext E487).keep K488).keep K489).keep K490).keep K495).ext E500).keep K501).keep K502).keep K503).keep K508)
                          have c534 := (((((((((((((((((((f460_2.keep K461 (ninS (Ne.symm (Nat.ne_of_lt (Nat.lt_of_lt_of_le (Nat.lt_of_lt_of_le A458.lt K459.1) f460_1))) nin0)).keep K466 (ninS (Ne.symm (Nat.ne_of_lt (Nat.lt_of_lt_of_le (Nat.lt_of_lt_of_le A456.lt (Nat.le_trans K457.1 (Nat.le_trans E458.1 K459.1))) f460_1))) nin0)).ext E471).keep K472 nin0).keep K473 nin0).keep K474 (ninS (Nat.ne_of_lt (Nat.lt_of_lt_of_le (Nat.lt_of_lt_of_le f460_0.lt (Nat.le_trans K461.1 K466.1)) (Nat.le_of_eq g471.symm))) nin0)).keep K479 (ninS (Ne.symm (Nat.ne_of_lt (Nat.lt_of_lt_of_le (Nat.lt_of_lt_of_le A456.lt (Nat.le_trans K457.1 (Nat.le_trans E458.1 K459.1))) f460_1))) (ninS (Nat.ne_of_lt (Nat.lt_of_lt_of_le (Nat.lt_of_lt_of_le f460_0.lt K461.1) f466_1)) nin0))).ext E485).keep K486 (ninS (Nat.ne_of_lt (Nat.lt_of_lt_of_le (Nat.lt_of_lt_of_le f460_0.lt (Nat.le_trans K461.1 (Nat.le_trans K466.1 (Nat.le_trans E471.1 (Nat.le_trans K472.1 (Nat.le_trans K473.1 (Nat.le_trans K474.1 K479.1))))))) (Nat.le_of_eq g485.symm))) nin0)).ext E487).keep K488 nin0).keep K489 nin0).keep K490 (ninS (Nat.ne_of_lt (Nat.lt_of_lt_of_le (Nat.lt_of_lt_of_le f460_0.lt (Nat.le_trans K461.1 (Nat.le_trans K466.1 (Nat.le_trans E471.1 (Nat.le_trans K472.1 (Nat.le_trans K473.1 (Nat.le_trans K474.1 (Nat.le_trans K479.1 (Nat.le_trans E485.1 K486.1))))))))) (Nat.le_of_eq g487.symm))) nin0)).keep K495 (ninS (Nat.ne_of_lt (Nat.lt_of_lt_of_le (Nat.lt_of_lt_of_le f460_0.lt (Nat.le_trans K461.1 (Nat.le_trans K466.1 (Nat.le_trans E471.1 (Nat.le_trans K472.1 (Nat.le_trans K473.1 (Nat.le_trans K474.1 K479.1))))))) (Nat.le_of_eq g485.symm))) nin0)).ext E500).keep K501 nin0).keep K502 nin0).keep K503 (ninS (Nat.ne_of_lt (Nat.lt_of_lt_of_le (Nat.lt_of_lt_of_le f460_0.lt (Nat.le_trans K461.1 (Nat.le_trans K466.1 (Nat.le_trans E471.1 (Nat.le_trans K472.1 (Nat.le_trans K473.1 (Nat.le_trans K474.1 (Nat.le_trans K479.1 (Nat.le_trans E485.1 (Nat.le_trans K486.1 (Nat.le_trans E487.1 (Nat.le_trans K488.1 (Nat.le_trans K489.1 (Nat.le_trans K490.1 K495.1)))))))))))))) (Nat.le_of_eq g500.symm))) nin0)).keep K508 (ninS (Nat.ne_of_lt (Nat.lt_of_lt_of_le (Nat.lt_of_lt_of_le f460_0.lt (Nat.le_trans K461.1 (Nat.le_trans K466.1 (Nat.le_trans E471.1 (Nat.le_trans K472.1 (Nat.le_trans K473.1 (Nat.le_trans K474.1 K479.1))))))) (Nat.le_of_eq g485.symm))) (ninS (Nat.ne_of_lt (Nat.lt_of_lt_of_le (Nat.lt_of_lt_of_le f460_0.lt (Nat.le_trans K461.1 (Nat.le_trans K466.1 (Nat.le_trans E471.1 (Nat.le_trans K472.1 (Nat.le_trans K473.1 (Nat.le_trans K474.1 (Nat.le_trans K479.1 (Nat.le_trans E485.1 (Nat.le_trans K486.1 (Nat.le_trans E487.1 (Nat.le_trans K488.1 (Nat.le_trans K489.1 K490.1))))))))))))) f495_1)) nin0)))
                          have c535 := (((((((((((((((((((f460_3.keep K461 (ninS (Ne.symm (Nat.ne_of_lt (Nat.lt_of_lt_of_le (Nat.lt_of_lt_of_le A458.lt K459.1) f460_1))) nin0)).keep K466 (ninS (Ne.symm (Nat.ne_of_lt (Nat.lt_of_lt_of_le (Nat.lt_of_lt_of_le A456.lt (Nat.le_trans K457.1 (Nat.le_trans E458.1 K459.1))) f460_1))) nin0)).ext E471).keep K472 nin0).keep K473 nin0).keep K474 (ninS (Nat.ne_of_lt (Nat.lt_of_lt_of_le (Nat.lt_of_lt_of_le f460_0.lt (Nat.le_trans K461.1 K466.1)) (Nat.le_of_eq g471.symm))) nin0)).keep K479 (ninS (Ne.symm (Nat.ne_of_lt (Nat.lt_of_lt_of_le (Nat.lt_of_lt_of_le A456.lt (Nat.le_trans K457.1 (Nat.le_trans E458.1 K459.1))) f460_1))) (ninS (Nat.ne_of_lt (Nat.lt_of_lt_of_le (Nat.lt_of_lt_of_le f460_0.lt K461.1) f466_1)) nin0))).ext E485).keep K486 (ninS (Nat.ne_of_lt (Nat.lt_of_lt_of_le (Nat.lt_of_lt_of_le f460_0.lt (Nat.le_trans K461.1 (Nat.le_trans K466.1 (Nat.le_trans E471.1 (Nat.le_trans K472.1 (Nat.le_trans K473.1 (Nat.le_trans K474.1 K479.1))))))) (Nat.le_of_eq g485.symm))) nin0)).ext E487).keep K488 nin0).keep K489 nin0).keep K490 (ninS (Nat.ne_of_lt (Nat.lt_of_lt_of_le (Nat.lt_of_lt_of_le f460_0.lt (Nat.le_trans K461.1 (Nat.le_trans K466.1 (Nat.le_trans E471.1 (Nat.le_trans K472.1 (Nat.le_trans K473.1 (Nat.le_trans K474.1 (Nat.le_trans K479.1 (Nat.le_trans E485.1 K486.1))))))))) (Nat.le_of_eq g487.symm))) nin0)).keep K495 (ninS (Nat.ne_of_lt (Nat.lt_of_lt_of_le (Nat.lt_of_lt_of_le f460_0.lt (Nat.le_trans K461.1 (Nat.le_trans K466.1 (Nat.le_trans E471.1 (Nat.le_trans K472.1 (Nat.le_trans K473.1 (Nat.le_trans K474.1 K479.1))))))) (Nat.le_of_eq g485.symm))) nin0)).ext E500).keep K501 nin0).keep K502 nin0).keep K503 (ninS (Nat.ne_of_lt (Nat.lt_of_lt_of_le (Nat.lt_of_lt_of_le f460_0.lt (Nat.le_trans K461.1 (Nat.le_trans K466.1 (Nat.le_trans E471.1 (Nat.le_trans K472.1 (Nat.le_trans K473.1 (Nat.le_trans K474.1 (Nat.le_trans K479.1 (Nat.le_trans E485.1 (Nat.le_trans K486.1 (Nat.le_trans E487.1 (Nat.le_trans K488.1 (Nat.le_trans K489.1 (Nat.le_trans K490.1 K495.1)))))))))))))) (Nat.le_of_eq g500.symm))) nin0)).keep K508 (ninS (Nat.ne_of_lt (Nat.lt_of_lt_of_le (Nat.lt_of_lt_of_le f460_0.lt (Nat.le_trans K461.1 (Nat.le_trans K466.1 (Nat.le_trans E471.1 (Nat.le_trans K472.1 (Nat.le_trans K473.1 (Nat.le_trans K474.1 K479.1))))))) (Nat.le_of_eq g485.symm))) (ninS (Nat.ne_of_lt (Nat.lt_of_lt_of_le (Nat.lt_of_lt_of_le f460_0.lt (Nat.le_trans K461.1 (Nat.le_trans K466.1 (Nat.le_trans E471.1 (Nat.le_trans K472.1 (Nat.le_trans K473.1 (Nat.le_trans K474.1 (Nat.le_trans K479.1 (Nat.le_trans E485.1 (Nat.le_trans K486.1 (Nat.le_trans E487.1 (Nat.le_trans K488.1 (Nat.le_trans K489.1 K490.1))))))))))))) f495_1)) nin0)))
                          have c536 := ((((((f490_0.keep K495).ext E500).keep K501).keep K502).keep K503).keep K508)
                          have c537 := ((((((f490_1.keep K495 (ninS (Ne.symm (Nat.ne_of_lt (Nat.lt_of_lt_of_le (Nat.lt_of_lt_of_le A485.lt K486.1) (Nat.le_of_eq g487.symm)))) nin0)).ext E500).keep K501 nin0).keep K502 nin0).keep K503 (ninS (Nat.ne_of_lt (Nat.lt_of_lt_of_le (Nat.lt_of_lt_of_le A487.lt (Nat.le_trans K488.1 (Nat.le_trans K489.1 (Nat.le_trans K490.1 K495.1)))) (Nat.le_of_eq g500.symm))) nin0)).keep K508 (ninS (Ne.symm (Nat.ne_of_lt (Nat.lt_of_lt_of_le (Nat.lt_of_lt_of_le A485.lt K486.1) (Nat.le_of_eq g487.symm)))) (ninS (Nat.ne_of_lt (Nat.lt_of_lt_of_le (Nat.lt_of_lt_of_le A487.lt (Nat.le_trans K488.1 (Nat.le_trans K489.1 K490.1))) f495_1)) nin0)))
                          have c538 := ((((((((f488_0.keep K489).keep K490).keep K495).ext E500).keep K501).keep K502).keep K503).keep K508)
                          have c539 := ((((((((f488_2.keep K489 nin0).keep K490 (ninS (Ne.symm (Nat.ne_of_lt (Nat.lt_of_lt_of_le A487.lt f488_1))) nin0)).keep K495 (ninS (Ne.symm (Nat.ne_of_lt (Nat.lt_of_lt_of_le (Nat.lt_of_lt_of_le A485.lt (Nat.le_trans K486.1 E487.1)) f488_1))) nin0)).ext E500).keep K501 nin0).keep K502 nin0).keep K503 (ninS (Nat.ne_of_lt (Nat.lt_of_lt_of_le (Nat.lt_of_lt_of_le f488_0.lt (Nat.le_trans K489.1 (Nat.le_trans K490.1 K495.1))) (Nat.le_of_eq g500.symm))) nin0)).keep K508 (ninS (Ne.symm (Nat.ne_of_lt (Nat.lt_of_lt_of_le (Nat.lt_of_lt_of_le A485.lt (Nat.le_trans K486.1 E487.1)) f488_1))) (ninS (Nat.ne_of_lt (Nat.lt_of_lt_of_le (Nat.lt_of_lt_of_le f488_0.lt (Nat.le_trans K489.1 K490.1)) f495_1)) nin0)))
                          have c540 := ((((((((f488_3.keep K489 nin0).keep K490 (ninS (Ne.symm (Nat.ne_of_lt (Nat.lt_of_lt_of_le A487.lt f488_1))) nin0)).keep K495 (ninS (Ne.symm (Nat.ne_of_lt (Nat.lt_of_lt_of_le (Nat.lt_of_lt_of_le A485.lt (Nat.le_trans K486.1 E487.1)) f488_1))) nin0)).ext E500).keep K501 nin0).keep K502 nin0).keep K503 (ninS (Nat.ne_of_lt (Nat.lt_of_lt_of_le (Nat.lt_of_lt_of_le f488_0.lt (Nat.le_trans K489.1 (Nat.le_trans K490.1 K495.1))) (Nat.le_of_eq g500.symm))) nin0)).keep K508 (ninS (Ne.symm (Nat.ne_of_lt (Nat.lt_of_lt_of_le (Nat.lt_of_lt_of_le A485.lt (Nat.le_trans K486.1 E487.1)) f488_1))) (ninS (Nat.ne_of_lt (Nat.lt_of_lt_of_le (Nat.lt_of_lt_of_le f488_0.lt (Nat.le_trans K489.1 K490.1)) f495_1)) nin0)))
                          have c541 := ((((((f490_2.keep K495 (ninS (Ne.symm (Nat.ne_of_lt (Nat.lt_of_lt_of_le (Nat.lt_of_lt_of_le A485.lt K486.1) (Nat.le_of_eq g487.symm)))) nin0)).ext E500).keep K501 nin0).keep K502 nin0).keep K503 (ninS (Nat.ne_of_lt (Nat.lt_of_lt_of_le (Nat.lt_of_lt_of_le A487.lt (Nat.le_trans K488.1 (Nat.le_trans K489.1 (Nat.le_trans K490.1 K495.1)))) (Nat.le_of_eq g500.symm))) nin0)).keep K508 (ninS (Ne.symm (Nat.ne_of_lt (Nat.lt_of_lt_of_le (Nat.lt_of_lt_of_le A485.lt K486.1) (Nat.le_of_eq g487.symm)))) (ninS (Nat.ne_of_lt (Nat.lt_of_lt_of_le (Nat.lt_of_lt_of_le A487.lt (Nat.le_trans K488.1 (Nat.le_trans K489.1 K490.1))) f495_1)) nin0)))
                          have c542 := (((((((f489_0.keep K490).keep K495).ext E500).keep K501).keep K502).keep K503).keep K508)
                          have c543 := (((((((f489_2.keep K490 (ninS (Ne.symm (Nat.ne_of_lt (Nat.lt_of_lt_of_le (Nat.lt_of_lt_of_le A487.lt K488.1) f489_1))) nin0)).keep K495 (ninS (Ne.symm (Nat.ne_of_lt (Nat.lt_of_lt_of_le (Nat.lt_of_lt_of_le A485.lt (Nat.le_trans K486.1 (Nat.le_trans E487.1 K488.1))) f489_1))) nin0)).ext E500).keep K501 nin0).keep K502 nin0).keep K503 (ninS (Nat.ne_of_lt (Nat.lt_of_lt_of_le (Nat.lt_of_lt_of_le f489_0.lt (Nat.le_trans K490.1 K495.1)) (Nat.le_of_eq g500.symm))) nin0)).keep K508 (ninS (Ne.symm (Nat.ne_of_lt (Nat.lt_of_lt_of_le (Nat.lt_of_lt_of_le A485.lt (Nat.le_trans K486.1 (Nat.le_trans E487.1 K488.1))) f489_1))) (ninS (Nat.ne_of_lt (Nat.lt_of_lt_of_le (Nat.lt_of_lt_of_le f489_0.lt K490.1) f495_1)) nin0)))
                          have c544 := (((((((f489_3.keep K490 (ninS (Ne.symm (Nat.ne_of_lt (Nat.lt_of_lt_of_le (Nat.lt_of_lt_of_le A487.lt K488.1) f489_1))) nin0)).keep K495 (ninS (Ne.symm (Nat.ne_of_lt (Nat.lt_of_lt_of_le (Nat.lt_of_lt_of_le A485.lt (Nat.le_trans K486.1 (Nat.le_trans E487.1 K488.1))) f489_1))) nin0)).ext E500).keep K501 nin0).keep K502 nin0).keep K503 (ninS (Nat.ne_of_lt (Nat.lt_of_lt_of_le (Nat.lt_of_lt_of_le f489_0.lt (Nat.le_trans K490.1 K495.1)) (Nat.le_of_eq g500.symm))) nin0)).keep K508 (ninS (Ne.symm (Nat.ne_of_lt (Nat.lt_of_lt_of_le (Nat.lt_of_lt_of_le A485.lt (Nat.le_trans K486.1 (Nat.le_trans E487.1 K488.1))) f489_1))) (ninS (Nat.ne_of_lt (Nat.lt_of_lt_of_le (Nat.lt_of_lt_of_le f489_0.lt K490.1) f495_1)) nin0)))
                          have c545 := (((((((((((((f474_0.keep K479).ext E485).keep K486).ext E487).keep K488).keep K489).keep K490).keep K495).ext E500).keep K501).keep K502).keep K503).keep K508)
                          have c546 := (((((((((((((f474_1.keep K479 (ninS (Ne.symm (Nat.ne_of_lt (Nat.lt_of_lt_of_le (Nat.lt_of_lt_of_le A456.lt (Nat.le_trans K457.1 (Nat.le_trans E458.1 (Nat.le_trans K459.1 (Nat.le_trans K460.1 (Nat.le_trans K461.1 K466.1)))))) (Nat.le_of_eq g471.symm)))) (ninS (Ne.symm (Nat.ne_of_lt (Nat.lt_of_lt_of_le f466_0.lt (Nat.le_of_eq g471.symm)))) nin0))).ext E485).keep K486 (ninS (Nat.ne_of_lt (Nat.lt_of_lt_of_le (Nat.lt_of_lt_of_le A471.lt (Nat.le_trans K472.1 (Nat.le_trans K473.1 (Nat.le_trans K474.1 K479.1)))) (Nat.le_of_eq g485.symm))) nin0)).ext E487).keep K488 nin0).keep K489 nin0).keep K490 (ninS (Nat.ne_of_lt (Nat.lt_of_lt_of_le (Nat.lt_of_lt_of_le A471.lt (Nat.le_trans K472.1 (Nat.le_trans K473.1 (Nat.le_trans K474.1 (Nat.le_trans K479.1 (Nat.le_trans E485.1 K486.1)))))) (Nat.le_of_eq g487.symm))) nin0)).keep K495 (ninS (Nat.ne_of_lt (Nat.lt_of_lt_of_le (Nat.lt_of_lt_of_le A471.lt (Nat.le_trans K472.1 (Nat.le_trans K473.1 (Nat.le_trans K474.1 K479.1)))) (Nat.le_of_eq g485.symm))) nin0)).ext E500).keep K501 nin0).keep K502 nin0).keep K503 (ninS (Nat.ne_of_lt (Nat.lt_of_lt_of_le (Nat.lt_of_lt_of_le A471.lt (Nat.le_trans K472.1 (Nat.le_trans K473.1 (Nat.le_trans K474.1 (Nat.le_trans K479.1 (Nat.le_trans E485.1 (Nat.le_trans K486.1 (Nat.le_trans E487.1 (Nat.le_trans K488.1 (Nat.le_trans K489.1 (Nat.le_trans K490.1 K495.1))))))))))) (Nat.le_of_eq g500.symm))) nin0)).keep K508 (ninS (Nat.ne_of_lt (Nat.lt_of_lt_of_le (Nat.lt_of_lt_of_le A471.lt (Nat.le_trans K472.1 (Nat.le_trans K473.1 (Nat.le_trans K474.1 K479.1)))) (Nat.le_of_eq g485.symm))) (ninS (Nat.ne_of_lt (Nat.lt_of_lt_of_le (Nat.lt_of_lt_of_le A471.lt (Nat.le_trans K472.1 (Nat.le_trans K473.1 (Nat.le_trans K474.1 (Nat.le_trans K479.1 (Nat.le_trans E485.1 (Nat.le_trans K486.1 (Nat.le_trans E487.1 (Nat.le_trans K488.1 (Nat.le_trans K489.1 K490.1)))))))))) f495_1)) nin0)))
                          have c547 := (((((((((((((((f472_0.keep K473).keep K474).keep K479).ext E485).keep K486).ext E487).keep K488).keep K489).keep K490).keep K495).ext E500).keep K501).keep K502).keep K503).keep K508)
                          have c548 := (((((((((((((((f472_2.keep K473 nin0).keep K474 (ninS (Ne.symm (Nat.ne_of_lt (Nat.lt_of_lt_of_le A471.lt f472_1))) nin0)).keep K479 (ninS (Ne.symm (Nat.ne_of_lt (Nat.lt_of_lt_of_le (Nat.lt_of_lt_of_le A456.lt (Nat.le_trans K457.1 (Nat.le_trans E458.1 (Nat.le_trans K459.1 (Nat.le_trans K460.1 (Nat.le_trans K461.1 (Nat.le_trans K466.1 E471.1))))))) f472_1))) (ninS (Ne.symm (Nat.ne_of_lt (Nat.lt_of_lt_of_le (Nat.lt_of_lt_of_le f466_0.lt E471.1) f472_1))) nin0))).ext E485).keep K486 (ninS (Nat.ne_of_lt (Nat.lt_of_lt_of_le (Nat.lt_of_lt_of_le f472_0.lt (Nat.le_trans K473.1 (Nat.le_trans K474.1 K479.1))) (Nat.le_of_eq g485.symm))) nin0)).ext E487).keep K488 nin0).keep K489 nin0).keep K490 (ninS (Nat.ne_of_lt (Nat.lt_of_lt_of_le (Nat.lt_of_lt_of_le f472_0.lt (Nat.le_trans K473.1 (Nat.le_trans K474.1 (Nat.le_trans K479.1 (Nat.le_trans E485.1 K486.1))))) (Nat.le_of_eq g487.symm))) nin0)).keep K495 (ninS (Nat.ne_of_lt (Nat.lt_of_lt_of_le (Nat.lt_of_lt_of_le f472_0.lt (Nat.le_trans K473.1 (Nat.le_trans K474.1 K479.1))) (Nat.le_of_eq g485.symm))) nin0)).ext E500).keep K501 nin0).keep K502 nin0).keep K503 (ninS (Nat.ne_of_lt (Nat.lt_of_lt_of_le (Nat.lt_of_lt_of_le f472_0.lt (Nat.le_trans K473.1 (Nat.le_trans K474.1 (Nat.le_trans K479.1 (Nat.le_trans E485.1 (Nat.le_trans K486.1 (Nat.le_trans E487.1 (Nat.le_trans K488.1 (Nat.le_trans K489.1 (Nat.le_trans K490.1 K495.1)))))))))) (Nat.le_of_eq g500.symm))) nin0)).keep K508 (ninS (Nat.ne_of_lt (Nat.lt_of_lt_of_le (Nat.lt_of_lt_of_le f472_0.lt (Nat.le_trans K473.1 (Nat.le_trans K474.1 K479.1))) (Nat.le_of_eq g485.symm))) (ninS (Nat.ne_of_lt (Nat.lt_of_lt_of_le (Nat.lt_of_lt_of_le f472_0.lt (Nat.le_trans K473.1 (Nat.le_trans K474.1 (Nat.le_trans K479.1 (Nat.le_trans E485.1 (Nat.le_trans K486.1 (Nat.le_trans E487.1 (Nat.le_trans K488.1 (Nat.le_trans K489.1 K490.1))))))))) f495_1)) nin0)))
                          have c549 := (((((((((((((((f472_3.keep K473 nin0).keep K474 (ninS (Ne.symm (Nat.ne_of_lt (Nat.lt_of_lt_of_le A471.lt f472_1))) nin0)).keep K479 (ninS (Ne.symm (Nat.ne_of_lt (Nat.lt_of_lt_of_le (Nat.lt_of_lt_of_le A456.lt (Nat.le_trans K457.1 (Nat.le_trans E458.1 (Nat.le_trans K459.1 (Nat.le_trans K460.1 (Nat.le_trans K461.1 (Nat.le_trans K466.1 E471.1))))))) f472_1))) (ninS (Ne.symm (Nat.ne_of_lt (Nat.lt_of_lt_of_le (Nat.lt_of_lt_of_le f466_0.lt E471.1) f472_1))) nin0))).ext E485).keep K486 (ninS (Nat.ne_of_lt (Nat.lt_of_lt_of_le (Nat.lt_of_lt_of_le f472_0.lt (Nat.le_trans K473.1 (Nat.le_trans K474.1 K479.1))) (Nat.le_of_eq g485.symm))) nin0)).ext E487).keep K488 nin0).keep K489 nin0).keep K490 (ninS (Nat.ne_of_lt (Nat.lt_of_lt_of_le (Nat.lt_of_lt_of_le f472_0.lt (Nat.le_trans K473.1 (Nat.le_trans K474.1 (Nat.le_trans K479.1 (Nat.le_trans E485.1 K486.1))))) (Nat.le_of_eq g487.symm))) nin0)).keep K495 (ninS (Nat.ne_of_lt (Nat.lt_of_lt_of_le (Nat.lt_of_lt_of_le f472_0.lt (Nat.le_trans K473.1 (Nat.le_trans K474.1 K479.1))) (Nat.le_of_eq g485.symm))) nin0)).ext E500).keep K501 nin0).keep K502 nin0).keep K503 (ninS (Nat.ne_of_lt (Nat.lt_of_lt_of_le (Nat.lt_of_lt_of_le f472_0.lt (Nat.le_trans K473.1 (Nat.le_trans K474.1 (Nat.le_trans K479.1 (Nat.le_trans E485.1 (Nat.le_trans K486.1 (Nat.le_trans E487.1 (Nat.le_trans K488.1 (Nat.le_trans K489.1 (Nat.le_trans K490.1 K495.1)))))))))) (Nat.le_of_eq g500.symm))) nin0)).keep K508 (ninS (Nat.ne_of_lt (Nat.lt_of_lt_of_le (Nat.lt_of_lt_of_le f472_0.lt (Nat.le_trans K473.1 (Nat.le_trans K474.1 K479.1))) (Nat.le_of_eq g485.symm))) (ninS (Nat.ne_of_lt (Nat.lt_of_lt_of_le (Nat.lt_of_lt_of_le f472_0.lt (Nat.le_trans K473.1 (Nat.le_trans K474.1 (Nat.le_trans K479.1 (Nat.le_trans E485.1 (Nat.le_trans K486.1 (Nat.le_trans E487.1 (Nat.le_trans K488.1 (Nat.le_trans K489.1 K490.1))))))))) f495_1)) nin0)))
                          have c550 := (((((((((((((f474_2.keep K479 (ninS (Ne.symm (Nat.ne_of_lt (Nat.lt_of_lt_of_le (Nat.lt_of_lt_of_le A456.lt (Nat.le_trans K457.1 (Nat.le_trans E458.1 (Nat.le_trans K459.1 (Nat.le_trans K460.1 (Nat.le_trans K461.1 K466.1)))))) (Nat.le_of_eq g471.symm)))) (ninS (Ne.symm (Nat.ne_of_lt (Nat.lt_of_lt_of_le f466_0.lt (Nat.le_of_eq g471.symm)))) nin0))).ext E485).keep K486 (ninS (Nat.ne_of_lt (Nat.lt_of_lt_of_le (Nat.lt_of_lt_of_le A471.lt (Nat.le_trans K472.1 (Nat.le_trans K473.1 (Nat.le_trans K474.1 K479.1)))) (Nat.le_of_eq g485.symm))) nin0)).ext E487).keep K488 nin0).keep K489 nin0).keep K490 (ninS (Nat.ne_of_lt (Nat.lt_of_lt_of_le (Nat.lt_of_lt_of_le A471.lt (Nat.le_trans K472.1 (Nat.le_trans K473.1 (Nat.le_trans K474.1 (Nat.le_trans K479.1 (Nat.le_trans E485.1 K486.1)))))) (Nat.le_of_eq g487.symm))) nin0)).keep K495 (ninS (Nat.ne_of_lt (Nat.lt_of_lt_of_le (Nat.lt_of_lt_of_le A471.lt (Nat.le_trans K472.1 (Nat.le_trans K473.1 (Nat.le_trans K474.1 K479.1)))) (Nat.le_of_eq g485.symm))) nin0)).ext E500).keep K501 nin0).keep K502 nin0).keep K503 (ninS (Nat.ne_of_lt (Nat.lt_of_lt_of_le (Nat.lt_of_lt_of_le A471.lt (Nat.le_trans K472.1 (Nat.le_trans K473.1 (Nat.le_trans K474.1 (Nat.le_trans K479.1 (Nat.le_trans E485.1 (Nat.le_trans K486.1 (Nat.le_trans E487.1 (Nat.le_trans K488.1 (Nat.le_trans K489.1 (Nat.le_trans K490.1 K495.1))))))))))) (Nat.le_of_eq g500.symm))) nin0)).keep K508 (ninS (Nat.ne_of_lt (Nat.lt_of_lt_of_le (Nat.lt_of_lt_of_le A471.lt (Nat.le_trans K472.1 (Nat.le_trans K473.1 (Nat.le_trans K474.1 K479.1)))) (Nat.le_of_eq g485.symm))) (ninS (Nat.ne_of_lt (Nat.lt_of_lt_of_le (Nat.lt_of_lt_of_le A471.lt (Nat.le_trans K472.1 (Nat.le_trans K473.1 (Nat.le_trans K474.1 (Nat.le_trans K479.1 (Nat.le_trans E485.1 (Nat.le_trans K486.1 (Nat.le_trans E487.1 (Nat.le_trans K488.1 (Nat.le_trans K489.1 K490.1)))))))))) f495_1)) nin0)))
                          have c551 := ((((((((((((((f473_0.keep K474).keep K479).ext E485).keep K486).ext E487).keep K488).keep K489).keep K490).keep K495).ext E500).keep K501).keep K502).keep K503).keep K508)
                          have c552 := ((((((((((((((f473_2.keep K474 (ninS (Ne.symm (Nat.ne_of_lt (Nat.lt_of_lt_of_le (Nat.lt_of_lt_of_le A471.lt K472.1) f473_1))) nin0)).keep K479 (ninS (Ne.symm (Nat.ne_of_lt (Nat.lt_of_lt_of_le (Nat.lt_of_lt_of_le A456.lt (Nat.le_trans K457.1 (Nat.le_trans E458.1 (Nat.le_trans K459.1 (Nat.le_trans K460.1 (Nat.le_trans K461.1 (Nat.le_trans K466.1 (Nat.le_trans E471.1 K472.1)))))))) f473_1))) (ninS (Ne.symm (Nat.ne_of_lt (Nat.lt_of_lt_of_le (Nat.lt_of_lt_of_le f466_0.lt (Nat.le_trans E471.1 K472.1)) f473_1))) nin0))).ext E485).keep K486 (ninS (Nat.ne_of_lt (Nat.lt_of_lt_of_le (Nat.lt_of_lt_of_le f473_0.lt (Nat.le_trans K474.1 K479.1)) (Nat.le_of_eq g485.symm))) nin0)).ext E487).keep K488 nin0).keep K489 nin0).keep K490 (ninS (Nat.ne_of_lt (Nat.lt_of_lt_of_le (Nat.lt_of_lt_of_le f473_0.lt (Nat.le_trans K474.1 (Nat.le_trans K479.1 (Nat.le_trans E485.1 K486.1)))) (Nat.le_of_eq g487.symm))) nin0)).keep K495 (ninS (Nat.ne_of_lt (Nat.lt_of_lt_of_le (Nat.lt_of_lt_of_le f473_0.lt (Nat.le_trans K474.1 K479.1)) (Nat.le_of_eq g485.symm))) nin0)).ext E500).keep K501 nin0).keep K502 nin0).keep K503 (ninS (Nat.ne_of_lt (Nat.lt_of_lt_of_le (Nat.lt_of_lt_of_le f473_0.lt (Nat.le_trans K474.1 (Nat.le_trans K479.1 (Nat.le_trans E485.1 (Nat.le_trans K486.1 (Nat.le_trans E487.1 (Nat.le_trans K488.1 (Nat.le_trans K489.1 (Nat.le_trans K490.1 K495.1))))))))) (Nat.le_of_eq g500.symm))) nin0)).keep K508 (ninS (Nat.ne_of_lt (Nat.lt_of_lt_of_le (Nat.lt_of_lt_of_le f473_0.lt (Nat.le_trans K474.1 K479.1)) (Nat.le_of_eq g485.symm))) (ninS (Nat.ne_of_lt (Nat.lt_of_lt_of_le (Nat.lt_of_lt_of_le f473_0.lt (Nat.le_trans K474.1 (Nat.le_trans K479.1 (Nat.le_trans E485.1 (Nat.le_trans K486.1 (Nat.le_trans E487.1 (Nat.le_trans K488.1 (Nat.le_trans K489.1 K490.1)))))))) f495_1)) nin0)))
                          have c553 := ((((((((((((((f473_3.keep K474 (ninS (Ne.symm (Nat.ne_of_lt (Nat.lt_of_lt_of_le (Nat.lt_of_lt_of_le A471.lt K472.1) f473_1))) nin0)).keep K479 (ninS (Ne.symm (Nat.ne_of_lt (Nat.lt_of_lt_of_le (Nat.lt_of_lt_of_le A456.lt (Nat.le_trans K457.1 (Nat.le_trans E458.1 (Nat.le_trans K459.1 (Nat.le_trans K460.1 (Nat.le_trans K461.1 (Nat.le_trans K466.1 (Nat.le_trans E471.1 K472.1)))))))) f473_1))) (ninS (Ne.symm (Nat.ne_of_lt (Nat.lt_of_lt_of_le (Nat.lt_of_lt_of_le f466_0.lt (Nat.le_trans E471.1 K472.1)) f473_1))) nin0))).ext E485).keep K486 (ninS (Nat.ne_of_lt (Nat.lt_of_lt_of_le (Nat.lt_of_lt_of_le f473_0.lt (Nat.le_trans K474.1 K479.1)) (Nat.le_of_eq g485.symm))) nin0)).ext E487).keep K488 nin0).keep K489 nin0).keep K490 (ninS (Nat.ne_of_lt (Nat.lt_of_lt_of_le (Nat.lt_of_lt_of_le f473_0.lt (Nat.le_trans K474.1 (Nat.le_trans K479.1 (Nat.le_trans E485.1 K486.1)))) (Nat.le_of_eq g487.symm))) nin0)).keep K495 (ninS (Nat.ne_of_lt (Nat.lt_of_lt_of_le (Nat.lt_of_lt_of_le f473_0.lt (Nat.le_trans K474.1 K479.1)) (Nat.le_of_eq g485.symm))) nin0)).ext E500).keep K501 nin0).keep K502 nin0).keep K503 (ninS (Nat.ne_of_lt (Nat.lt_of_lt_of_le (Nat.lt_of_lt_of_le f473_0.lt (Nat.le_trans K474.1 (Nat.le_trans K479.1 (Nat.le_trans E485.1 (Nat.le_trans K486.1 (Nat.le_trans E487.1 (Nat.le_trans K488.1 (Nat.le_trans K489.1 (Nat.le_trans K490.1 K495.1))))))))) (Nat.le_of_eq g500.symm))) nin0)).keep K508 (ninS (Nat.ne_of_lt (Nat.lt_of_lt_of_le (Nat.lt_of_lt_of_le f473_0.lt (Nat.le_trans K474.1 K479.1)) (Nat.le_of_eq g485.symm))) (ninS (Nat.ne_of_lt (Nat.lt_of_lt_of_le (Nat.lt_of_lt_of_le f473_0.lt (Nat.le_trans K474.1 (Nat.le_trans K479.1 (Nat.le_trans E485.1 (Nat.le_trans K486.1 (Nat.le_trans E487.1 (Nat.le_trans K488.1 (Nat.le_trans K489.1 K490.1)))))))) f495_1)) nin0)))
                          have c554 := (((f501_0.keep K502).keep K503).keep K508)
                          have c555 := (((f501_2.keep K502 nin0).keep K503 (ninS (Ne.symm (Nat.ne_of_lt (Nat.lt_of_lt_of_le A500.lt f501_1))) nin0)).keep K508 (ninS (Ne.symm (Nat.ne_of_lt (Nat.lt_of_lt_of_le (Nat.lt_of_lt_of_le A485.lt (Nat.le_trans K486.1 (Nat.le_trans E487.1 (Nat.le_trans K488.1 (Nat.le_trans K489.1 (Nat.le_trans K490.1 (Nat.le_trans K495.1 E500.1))))))) f501_1))) (ninS (Ne.symm (Nat.ne_of_lt (Nat.lt_of_lt_of_le (Nat.lt_of_lt_of_le f495_0.lt E500.1) f501_1))) nin0)))
                          have c556 := (((f501_3.keep K502 nin0).keep K503 (ninS (Ne.symm (Nat.ne_of_lt (Nat.lt_of_lt_of_le A500.lt f501_1))) nin0)).keep K508 (ninS (Ne.symm (Nat.ne_of_lt (Nat.lt_of_lt_of_le (Nat.lt_of_lt_of_le A485.lt (Nat.le_trans K486.1 (Nat.le_trans E487.1 (Nat.le_trans K488.1 (Nat.le_trans K489.1 (Nat.le_trans K490.1 (Nat.le_trans K495.1 E500.1))))))) f501_1))) (ninS (Ne.symm (Nat.ne_of_lt (Nat.lt_of_lt_of_le (Nat.lt_of_lt_of_le f495_0.lt E500.1) f501_1))) nin0)))
                          have c557 := ((f502_0.keep K503).keep K508)
                          have c558 := ((f502_2.keep K503 (ninS (Ne.symm (Nat.ne_of_lt (Nat.lt_of_lt_of_le (Nat.lt_of_lt_of_le A500.lt K501.1) f502_1))) nin0)).keep K508 (ninS (Ne.symm (Nat.ne_of_lt (Nat.lt_of_lt_of_le (Nat.lt_of_lt_of_le A485.lt (Nat.le_trans K486.1 (Nat.le_trans E487.1 (Nat.le_trans K488.1 (Nat.le_trans K489.1 (Nat.le_trans K490.1 (Nat.le_trans K495.1 (Nat.le_trans E500.1 K501.1)))))))) f502_1))) (ninS (Ne.symm (Nat.ne_of_lt (Nat.lt_of_lt_of_le (Nat.lt_of_lt_of_le f495_0.lt (Nat.le_trans E500.1 K501.1)) f502_1))) nin0)))
                          have c559 := ((f502_3.keep K503 (ninS (Ne.symm (Nat.ne_of_lt (Nat.lt_of_lt_of_le (Nat.lt_of_lt_of_le A500.lt K501.1) f502_1))) nin0)).keep K508 (ninS (Ne.symm (Nat.ne_of_lt (Nat.lt_of_lt_of_le (Nat.lt_of_lt_of_le A485.lt (Nat.le_trans K486.1 (Nat.le_trans E487.1 (Nat.le_trans K488.1 (Nat.le_trans K489.1 (Nat.le_trans K490.1 (Nat.le_trans K495.1 (Nat.le_trans E500.1 K501.1)))))))) f502_1))) (ninS (Ne.symm (Nat.ne_of_lt (Nat.lt_of_lt_of_le (Nat.lt_of_lt_of_le f495_0.lt (Nat.le_trans E500.1 K501.1)) f502_1))) nin0)))
                          obtain ⟨_, _, ⟨T514, L514, k514, n514⟩, -, X514, ⟨Lc514, hQ514, l514, y514, z514⟩, st514⟩ := Jvm.LawKit.callS X508 hx (y := (⟨"com/example/slatewipe/slatewipe/vendors/mariadb/Columns$Column", "sameTypes", "(Ljava/util/List;Ljava/util/List;)Z"⟩ : MethodName)) hown (mvT hZ hw26) (mvT hZ hw27) (mvT hZ hw28) (mvT hZ hw29) (by decide) (backOf (W := 0) (rmT2 l Z a0 hw [] wD kD vcs G b456 b485 r_466 kk_466 r_495 kk_495 b458 r_459 rb_459 kb_459 ((q6.toInt8.toInt32)) r_460 rb_460 kb_460 ((q7.toInt8.toInt32)) b487 r_488 rb_488 kb_488 ((w154_0.toInt8.toInt32)) r_489 rb_489 kb_489 ((w156_0.toInt8.toInt32)) b471 r_472 rb_472 kb_472 ((q8.toInt8.toInt32)) r_473 rb_473 kb_473 ((q9.toInt8.toInt32)) b500 r_501 rb_501 kb_501 ((w158_0.toInt8.toInt32)) r_502 rb_502 kb_502 ((w160_0.toInt8.toInt32)) T508.heap n0 O508 c524 f508_1 c525 f508_3 c526 c515 f508_2 f508_0 c527 c528 c529 c530 c531 c516 c532 c533 c534 c535 c517 c536 c537 c538 c539 c540 c518 c541 c542 c543 c544 c519 (Nat.ne_of_lt (Nat.lt_of_lt_of_le (Nat.lt_of_lt_of_le f459_0.lt (Nat.le_trans K460.1 (Nat.le_trans K461.1 (Nat.le_trans K466.1 (Nat.le_trans E471.1 (Nat.le_trans K472.1 (Nat.le_trans K473.1 (Nat.le_trans K474.1 (Nat.le_trans K479.1 (Nat.le_trans E485.1 (Nat.le_trans K486.1 E487.1))))))))))) f488_1)) (Nat.ne_of_lt (Nat.lt_of_lt_of_le (Nat.lt_of_lt_of_le f460_0.lt (Nat.le_trans K461.1 (Nat.le_trans K466.1 (Nat.le_trans E471.1 (Nat.le_trans K472.1 (Nat.le_trans K473.1 (Nat.le_trans K474.1 (Nat.le_trans K479.1 (Nat.le_trans E485.1 (Nat.le_trans K486.1 (Nat.le_trans E487.1 K488.1))))))))))) f489_1)) c545 c546 c547 c548 c549 c520 c550 c551 c552 c553 c521 (f503_0.keep K508) (f503_1.keep K508 (ninS (Ne.symm (Nat.ne_of_lt (Nat.lt_of_lt_of_le (Nat.lt_of_lt_of_le A485.lt (Nat.le_trans K486.1 (Nat.le_trans E487.1 (Nat.le_trans K488.1 (Nat.le_trans K489.1 (Nat.le_trans K490.1 K495.1)))))) (Nat.le_of_eq g500.symm)))) (ninS (Ne.symm (Nat.ne_of_lt (Nat.lt_of_lt_of_le f495_0.lt (Nat.le_of_eq g500.symm)))) nin0))) c554 c555 c556 c522 (f503_2.keep K508 (ninS (Ne.symm (Nat.ne_of_lt (Nat.lt_of_lt_of_le (Nat.lt_of_lt_of_le A485.lt (Nat.le_trans K486.1 (Nat.le_trans E487.1 (Nat.le_trans K488.1 (Nat.le_trans K489.1 (Nat.le_trans K490.1 K495.1)))))) (Nat.le_of_eq g500.symm)))) (ninS (Ne.symm (Nat.ne_of_lt (Nat.lt_of_lt_of_le f495_0.lt (Nat.le_of_eq g500.symm)))) nin0))) c557 c558 c559 c523 (Nat.ne_of_lt (Nat.lt_of_lt_of_le (Nat.lt_of_lt_of_le f472_0.lt (Nat.le_trans K473.1 (Nat.le_trans K474.1 (Nat.le_trans K479.1 (Nat.le_trans E485.1 (Nat.le_trans K486.1 (Nat.le_trans E487.1 (Nat.le_trans K488.1 (Nat.le_trans K489.1 (Nat.le_trans K490.1 (Nat.le_trans K495.1 E500.1))))))))))) f501_1)) (Nat.ne_of_lt (Nat.lt_of_lt_of_le (Nat.lt_of_lt_of_le f473_0.lt (Nat.le_trans K474.1 (Nat.le_trans K479.1 (Nat.le_trans E485.1 (Nat.le_trans K486.1 (Nat.le_trans E487.1 (Nat.le_trans K488.1 (Nat.le_trans K489.1 (Nat.le_trans K490.1 (Nat.le_trans K495.1 (Nat.le_trans E500.1 K501.1))))))))))) f502_1))) hZ hw29 hw28 (by decide) (by decide)) (g := (mkF m 383 #[vi is, vi ia, vi ib, vi (2 : Int32), vi (2 : Int32), vi (0 : Int32), vi q6, vi q7, vi q8, vi q9, vi w154_0, vi w156_0, vi w158_0, vi w160_0, vi w162_0, vi w164_0, vi w166_0, vi w168_0, vr b456, vr b485, .unset, .unset] [(.ref b485), (.ref b456)])) rfl (by rw [hml]; rfl) (argsL := [(.ref b456), (.ref b485)]) (rest := []) (lenOf pd_15 rfl) rfl (by show 2 * 0 + _ ≤ _; exact Nat.le_of_eq rfl) (hb hby at_383) (fun _ _ => ⟨rfl, rfl, (by decide : 32 + 0 ≤ _), (by decide : 86 + 0 ≤ _)⟩)
                          dsimp only [Pt.U, Pt.locs, Pt.cells, Pt.slots] at X514 l514 y514 z514 st514 hQ514
                          subst l514 y514 z514
                          obtain ⟨r_514, rfl, rfl, e514, r514_0⟩ := hQ514
                          try replace X514 := own_nil X514
                          refine Go.by' st514 ?_
                          show Go p.tables e below Pf (T514.setTop (mkF m 386 #[vi is, vi ia, vi ib, vi (2 : Int32), vi (2 : Int32), vi (0 : Int32), vi q6, vi q7, vi q8, vi q9, vi w154_0, vi w156_0, vi w158_0, vi w160_0, vi w162_0, vi w164_0, vi w166_0, vi w168_0, vr b456, vr b485, .unset, .unset] [(.int r_514)]))
                          refine Go.by' (fun t k => (XS.istore X514.here hx rfl (hb hby at_386) rfl (l' := #[vi is, vi ia, vi ib, vi (2 : Int32), vi (2 : Int32), vi (0 : Int32), vi q6, vi q7, vi q8, vi q9, vi w154_0, vi w156_0, vi w158_0, vi w160_0, vi w162_0, vi w164_0, vi w166_0, vi w168_0, vr b456, vr b485, vi r_514, .unset]) rfl (XS.iload X514.here hx rfl (hb hby at_388) rfl (XS.ifYes X514.here hx rfl (pc0 := 390) (pc' := 399) rfl (hb hby at_390) rfl ((if0 _ _).trans (teq (by decide)).1) (by decide) (by decide) (XS.iloadN X514.here hx rfl (hb hby at_399) rfl (XS.iload X514.here hx rfl (hb hby at_400) rfl (XS.icmpYes X514.here hx rfl (pc0 := 402) (pc' := 411) rfl (hb hby at_402) rfl (teq (by decide)).1 (by decide) (by decide) (XS.iconst X514.here hx rfl (hb hby at_411) (XS.istore X514.here hx rfl (hb hby at_412) rfl (l' := #[vi is, vi ia, vi ib, vi (2 : Int32), vi (2 : Int32), vi (0 : Int32), vi q6, vi q7, vi q8, vi q9, vi w154_0, vi w156_0, vi w158_0, vi w160_0, vi w162_0, vi w164_0, vi w166_0, vi w168_0, vr b456, vr b485, vi r_514, vi (1 : Int32)]) rfl k))))))))) ?_
                          show Go p.tables e below Pf (T514.setTop (mkF m 414 #[vi is, vi ia, vi ib, vi (2 : Int32), vi (2 : Int32), vi (0 : Int32), vi q6, vi q7, vi q8, vi q9, vi w154_0, vi w156_0, vi w158_0, vi w160_0, vi w162_0, vi w164_0, vi w166_0, vi w168_0, vr b456, vr b485, vi r_514, vi (1 : Int32)] []))
                          refine Go.by' (fun t k => (XS.iloadN X514.here hx rfl (hb hby at_414) rfl (XS.iconst X514.here hx rfl (hb hby at_415) (XS.icmpNo X514.here hx rfl (hb hby at_416) rfl (flt (by decide)).1 (XS.iload X514.here hx rfl (hb hby at_419) rfl (XS.iload X514.here hx rfl (hb hby at_421) rfl k)))))) ?_
                          show Go p.tables e below Pf (T514.setTop (mkF m 423 #[vi is, vi ia, vi ib, vi (2 : Int32), vi (2 : Int32), vi (0 : Int32), vi q6, vi q7, vi q8, vi q9, vi w154_0, vi w156_0, vi w158_0, vi w160_0, vi w162_0, vi w164_0, vi w166_0, vi w168_0, vr b456, vr b485, vi r_514, vi (1 : Int32)] [(.int w154_0), (.int q6)]))
                          have jn562 : ∀ (T' : State) (w562_0 : Int32), Like X514 T' → T'.heap = T508.heap → ((q6 = w154_0 ∧ q7 = w156_0 ∧ w562_0 = (1 : Int32)) ∨ (q6 = w154_0 ∧ ¬ (q7 = w156_0) ∧ w562_0 = (0 : Int32)) ∨ (¬ (q6 = w154_0) ∧ w562_0 = (0 : Int32))) → Go p.tables e below Pf (T'.setTop (mkF m 438 #[vi is, vi ia, vi ib, vi (2 : Int32), vi (2 : Int32), vi (0 : Int32), vi q6, vi q7, vi q8, vi q9, vi w154_0, vi w156_0, vi w158_0, vi w160_0, vi w162_0, vi w164_0, vi w166_0, vi w168_0, vr b456, vr b485, vi r_514, vi (1 : Int32)] [(.int w562_0)])) := by
                            intro T562 w562_0 X562 e562 hm562
                            unfold Like at X562
                            have bw562_0 : w562_0 = 0 ∨ w562_0 = 1 := by rcases hm562 with ⟨_, _, h⟩ | ⟨_, _, h⟩ | ⟨_, h⟩ <;> first | exact Or.inl h | exact Or.inr h
                            show Go p.tables e below Pf (T562.setTop (mkF m 438 #[vi is, vi ia, vi ib, vi (2 : Int32), vi (2 : Int32), vi (0 : Int32), vi q6, vi q7, vi q8, vi q9, vi w154_0, vi w156_0, vi w158_0, vi w160_0, vi w162_0, vi w164_0, vi w166_0, vi w168_0, vr b456, vr b485, vi r_514, vi (1 : Int32)] [(.int w562_0)]))
                            refine Go.by' (fun t k => (XS.istore X562.here hx rfl (hb hby at_438) rfl (l' := #[vi is, vi ia, vi ib, vi (2 : Int32), vi (2 : Int32), vi (0 : Int32), vi q6, vi q7, vi q8, vi q9, vi w154_0, vi w156_0, vi w158_0, vi w160_0, vi w162_0, vi w164_0, vi w166_0, vi w168_0, vr b456, vr b485, vi r_514, vi w562_0]) rfl (XS.iloadN X562.here hx rfl (hb hby at_440) rfl (XS.iconst X562.here hx rfl (hb hby at_441) (XS.icmpNo X562.here hx rfl (hb hby at_442) rfl (flt (by decide)).1 (XS.iload X562.here hx rfl (hb hby at_445) rfl k)))))) ?_
                            show Go p.tables e below Pf (T562.setTop (mkF m 447 #[vi is, vi ia, vi ib, vi (2 : Int32), vi (2 : Int32), vi (0 : Int32), vi q6, vi q7, vi q8, vi q9, vi w154_0, vi w156_0, vi w158_0, vi w160_0, vi w162_0, vi w164_0, vi w166_0, vi w168_0, vr b456, vr b485, vi r_514, vi w562_0] [(.int w562_0)]))
                            have jn566 : ∀ (T' : State) (w566_0 : Int32), Like X562 T' → T'.heap = T508.heap → ((w562_0 = (0 : Int32) ∧ w566_0 = (0 : Int32)) ∨ (¬ (w562_0 = (0 : Int32)) ∧ q8 = w158_0 ∧ q9 = w160_0 ∧ w566_0 = (1 : Int32)) ∨ (¬ (w562_0 = (0 : Int32)) ∧ q8 = w158_0 ∧ ¬ (q9 = w160_0) ∧ w566_0 = (0 : Int32)) ∨ (¬ (w562_0 = (0 : Int32)) ∧ ¬ (q8 = w158_0) ∧ w566_0 = (0 : Int32))) → Go p.tables e below Pf (T'.setTop (mkF m 469 #[vi is, vi ia, vi ib, vi (2 : Int32), vi (2 : Int32), vi (0 : Int32), vi q6, vi q7, vi q8, vi q9, vi w154_0, vi w156_0, vi w158_0, vi w160_0, vi w162_0, vi w164_0, vi w166_0, vi w168_0, vr b456, vr b485, vi r_514, vi w562_0] [(.int w566_0)])) := by
                              intro T566 w566_0 X566 e566 hm566
                              unfold Like at X566
                              have bw566_0 : w566_0 = 0 ∨ w566_0 = 1 := by rcases hm566 with ⟨_, h⟩ | ⟨_, _, _, h⟩ | ⟨_, _, _, h⟩ | ⟨_, _, h⟩ <;> first | exact Or.inl h | exact Or.inr h
                              show Go p.tables e below Pf (T566.setTop (mkF m 469 #[vi is, vi ia, vi ib, vi (2 : Int32), vi (2 : Int32), vi (0 : Int32), vi q6, vi q7, vi q8, vi q9, vi w154_0, vi w156_0, vi w158_0, vi w160_0, vi w162_0, vi w164_0, vi w166_0, vi w168_0, vr b456, vr b485, vi r_514, vi w562_0] [(.int w566_0)]))
                              refine Go.by' (fun t k => (XS.istore X566.here hx rfl (hb hby at_469) rfl (l' := #[vi is, vi ia, vi ib, vi (2 : Int32), vi (2 : Int32), vi (0 : Int32), vi q6, vi q7, vi q8, vi q9, vi w154_0, vi w156_0, vi w158_0, vi w160_0, vi w162_0, vi w164_0, vi w166_0, vi w168_0, vr b456, vr b485, vi r_514, vi w566_0]) rfl (XS.iload X566.here hx rfl (hb hby at_471) rfl (XS.iload X566.here hx rfl (hb hby at_473) rfl (XS.icmpNo X566.here hx rfl (hb hby at_475) rfl (teq (own_fin2 (by have hr' := r514_0; have e6 := own_b8 bd6.1 bd6.2 bd10.1 bd10.2; have e7 := own_b8 bd7.1 bd7.2 bd11.1 bd11.2; have e8 := own_b8 bd8.1 bd8.2 bd12.1 bd12.2; have e9 := own_b8 bd9.1 bd9.2 bd13.1 bd13.2; simp only [e6, e7, e8, e9] at hr'; exact hr') hm562 hm566)).2 (XS.iconst X566.here hx rfl (hb hby at_478) (XS.goto X566.here hx rfl (pc0 := 479) (pc' := 483) rfl (hb hby at_479) (by decide) (by decide) k))))))) ?_
                              show Go p.tables e below Pf (T566.setTop (mkF m 483 #[vi is, vi ia, vi ib, vi (2 : Int32), vi (2 : Int32), vi (0 : Int32), vi q6, vi q7, vi q8, vi q9, vi w154_0, vi w156_0, vi w158_0, vi w160_0, vi w162_0, vi w164_0, vi w166_0, vi w168_0, vr b456, vr b485, vi r_514, vi w566_0] [(.int (1 : Int32))]))
                              rw [hPf]
                              exact Go.retI' X566 hx hret hlk (by simp) rfl (hb hby at_483) (by decide) (by decide) ⟨rfl, N508, (by rw [e566]; exact KC508)⟩
                            by_cases hc567 : w562_0 = (0 : Int32)
                            · refine Go.by' (fun t k => (XS.ifYes X562.here hx rfl (pc0 := 447) (pc' := 468) rfl (hb hby at_447) rfl ((if0 _ _).trans (teq hc567).1) (by decide) (by decide) (XS.iconst X562.here hx rfl (hb hby at_468) k))) ?_
                              show Go p.tables e below Pf (T562.setTop (mkF m 469 #[vi is, vi ia, vi ib, vi (2 : Int32), vi (2 : Int32), vi (0 : Int32), vi q6, vi q7, vi q8, vi q9, vi w154_0, vi w156_0, vi w158_0, vi w160_0, vi w162_0, vi w164_0, vi w166_0, vi w168_0, vr b456, vr b485, vi r_514, vi w562_0] [(.int (0 : Int32))]))
                              exact jn566 T562 ((0 : Int32)) X562 e562  (Or.inl ⟨hc567, rfl⟩)
                            · refine Go.by' (fun t k => (XS.ifNo X562.here hx rfl (hb hby at_447) rfl ((if0 _ _).trans (feq hc567).1) (XS.iload X562.here hx rfl (hb hby at_450) rfl (XS.iload X562.here hx rfl (hb hby at_452) rfl k)))) ?_
                              show Go p.tables e below Pf (T562.setTop (mkF m 454 #[vi is, vi ia, vi ib, vi (2 : Int32), vi (2 : Int32), vi (0 : Int32), vi q6, vi q7, vi q8, vi q9, vi w154_0, vi w156_0, vi w158_0, vi w160_0, vi w162_0, vi w164_0, vi w166_0, vi w168_0, vr b456, vr b485, vi r_514, vi w562_0] [(.int w158_0), (.int q8)]))
                              by_cases hc568 : q8 = w158_0
                              · refine Go.by' (fun t k => (XS.icmpNo X562.here hx rfl (hb hby at_454) rfl (teq hc568).2 (XS.iload X562.here hx rfl (hb hby at_457) rfl (XS.iload X562.here hx rfl (hb hby at_459) rfl k)))) ?_
                                show Go p.tables e below Pf (T562.setTop (mkF m 461 #[vi is, vi ia, vi ib, vi (2 : Int32), vi (2 : Int32), vi (0 : Int32), vi q6, vi q7, vi q8, vi q9, vi w154_0, vi w156_0, vi w158_0, vi w160_0, vi w162_0, vi w164_0, vi w166_0, vi w168_0, vr b456, vr b485, vi r_514, vi w562_0] [(.int w160_0), (.int q9)]))
                                by_cases hc569 : q9 = w160_0
                                · refine Go.by' (fun t k => (XS.icmpNo X562.here hx rfl (hb hby at_461) rfl (teq hc569).2 (XS.iconst X562.here hx rfl (hb hby at_464) (XS.goto X562.here hx rfl (pc0 := 465) (pc' := 469) rfl (hb hby at_465) (by decide) (by decide) k)))) ?_
                                  show Go p.tables e below Pf (T562.setTop (mkF m 469 #[vi is, vi ia, vi ib, vi (2 : Int32), vi (2 : Int32), vi (0 : Int32), vi q6, vi q7, vi q8, vi q9, vi w154_0, vi w156_0, vi w158_0, vi w160_0, vi w162_0, vi w164_0, vi w166_0, vi w168_0, vr b456, vr b485, vi r_514, vi w562_0] [(.int (1 : Int32))]))
                                  exact jn566 T562 ((1 : Int32)) X562 e562  (Or.inr (Or.inl ⟨hc567, hc568, hc569, rfl⟩))
                                · refine Go.by' (fun t k => (XS.icmpYes X562.here hx rfl (pc0 := 461) (pc' := 468) rfl (hb hby at_461) rfl (feq hc569).2 (by decide) (by decide) (XS.iconst X562.here hx rfl (hb hby at_468) k))) ?_
                                  show Go p.tables e below Pf (T562.setTop (mkF m 469 #[vi is, vi ia, vi ib, vi (2 : Int32), vi (2 : Int32), vi (0 : Int32), vi q6, vi q7, vi q8, vi q9, vi w154_0, vi w156_0, vi w158_0, vi w160_0, vi w162_0, vi w164_0, vi w166_0, vi w168_0, vr b456, vr b485, vi r_514, vi w562_0] [(.int (0 : Int32))]))
                                  exact jn566 T562 ((0 : Int32)) X562 e562  (Or.inr (Or.inr (Or.inl ⟨hc567, hc568, hc569, rfl⟩)))
                              · refine Go.by' (fun t k => (XS.icmpYes X562.here hx rfl (pc0 := 454) (pc' := 468) rfl (hb hby at_454) rfl (feq hc568).2 (by decide) (by decide) (XS.iconst X562.here hx rfl (hb hby at_468) k))) ?_
                                show Go p.tables e below Pf (T562.setTop (mkF m 469 #[vi is, vi ia, vi ib, vi (2 : Int32), vi (2 : Int32), vi (0 : Int32), vi q6, vi q7, vi q8, vi q9, vi w154_0, vi w156_0, vi w158_0, vi w160_0, vi w162_0, vi w164_0, vi w166_0, vi w168_0, vr b456, vr b485, vi r_514, vi w562_0] [(.int (0 : Int32))]))
                                exact jn566 T562 ((0 : Int32)) X562 e562  (Or.inr (Or.inr (Or.inr ⟨hc567, hc568, rfl⟩)))
                          by_cases hc570 : q6 = w154_0
                          · refine Go.by' (fun t k => (XS.icmpNo X514.here hx rfl (hb hby at_423) rfl (teq hc570).2 (XS.iload X514.here hx rfl (hb hby at_426) rfl (XS.iload X514.here hx rfl (hb hby at_428) rfl k)))) ?_
                            show Go p.tables e below Pf (T514.setTop (mkF m 430 #[vi is, vi ia, vi ib, vi (2 : Int32), vi (2 : Int32), vi (0 : Int32), vi q6, vi q7, vi q8, vi q9, vi w154_0, vi w156_0, vi w158_0, vi w160_0, vi w162_0, vi w164_0, vi w166_0, vi w168_0, vr b456, vr b485, vi r_514, vi (1 : Int32)] [(.int w156_0), (.int q7)]))
                            by_cases hc571 : q7 = w156_0
                            · refine Go.by' (fun t k => (XS.icmpNo X514.here hx rfl (hb hby at_430) rfl (teq hc571).2 (XS.iconst X514.here hx rfl (hb hby at_433) (XS.goto X514.here hx rfl (pc0 := 434) (pc' := 438) rfl (hb hby at_434) (by decide) (by decide) k)))) ?_
                              show Go p.tables e below Pf (T514.setTop (mkF m 438 #[vi is, vi ia, vi ib, vi (2 : Int32), vi (2 : Int32), vi (0 : Int32), vi q6, vi q7, vi q8, vi q9, vi w154_0, vi w156_0, vi w158_0, vi w160_0, vi w162_0, vi w164_0, vi w166_0, vi w168_0, vr b456, vr b485, vi r_514, vi (1 : Int32)] [(.int (1 : Int32))]))
                              exact jn562 T514 ((1 : Int32)) X514 e514  (Or.inl ⟨hc570, hc571, rfl⟩)
                            · refine Go.by' (fun t k => (XS.icmpYes X514.here hx rfl (pc0 := 430) (pc' := 437) rfl (hb hby at_430) rfl (feq hc571).2 (by decide) (by decide) (XS.iconst X514.here hx rfl (hb hby at_437) k))) ?_
                              show Go p.tables e below Pf (T514.setTop (mkF m 438 #[vi is, vi ia, vi ib, vi (2 : Int32), vi (2 : Int32), vi (0 : Int32), vi q6, vi q7, vi q8, vi q9, vi w154_0, vi w156_0, vi w158_0, vi w160_0, vi w162_0, vi w164_0, vi w166_0, vi w168_0, vr b456, vr b485, vi r_514, vi (1 : Int32)] [(.int (0 : Int32))]))
                              exact jn562 T514 ((0 : Int32)) X514 e514  (Or.inr (Or.inl ⟨hc570, hc571, rfl⟩))
                          · refine Go.by' (fun t k => (XS.icmpYes X514.here hx rfl (pc0 := 423) (pc' := 437) rfl (hb hby at_423) rfl (feq hc570).2 (by decide) (by decide) (XS.iconst X514.here hx rfl (hb hby at_437) k))) ?_
                            show Go p.tables e below Pf (T514.setTop (mkF m 438 #[vi is, vi ia, vi ib, vi (2 : Int32), vi (2 : Int32), vi (0 : Int32), vi q6, vi q7, vi q8, vi q9, vi w154_0, vi w156_0, vi w158_0, vi w160_0, vi w162_0, vi w164_0, vi w166_0, vi w168_0, vr b456, vr b485, vi r_514, vi (1 : Int32)] [(.int (0 : Int32))]))
                            exact jn562 T514 ((0 : Int32)) X514 e514  (Or.inr (Or.inr ⟨hc570, rfl⟩))
                      · refine Go.castF (a := w152_0) (b := (1 : Int32)) (fun z' : Int32 => mkF m 223 #[vi is, vi ia, vi ib, vi (2 : Int32), vi ((((is.toUInt32 >>> ((2 : Int32) &&& 31).toUInt32).toInt32) &&& (3 : Int32)) % (3 : Int32)), vi z', vi q6, vi q7, vi q8, vi q9, vi w154_0, vi w156_0, vi w158_0, vi w160_0, vi w162_0, vi w164_0, vi w166_0, vi w168_0, .unset, .unset, .unset, .unset] []) (hz) ?_
                        obtain ⟨T572, h572, X572, e572, E572, A572, D572, -, st572⟩ := newO X168 hx hZ hown hw0 hw1 hw2 e168 (g := (mkF m 223 #[vi is, vi ia, vi ib, vi (2 : Int32), vi ((((is.toUInt32 >>> ((2 : Int32) &&& 31).toUInt32).toInt32) &&& (3 : Int32)) % (3 : Int32)), vi (1 : Int32), vi q6, vi q7, vi q8, vi q9, vi w154_0, vi w156_0, vi w158_0, vi w160_0, vi w162_0, vi w164_0, vi w166_0, vi w168_0, .unset, .unset, .unset, .unset] [])) rfl (hb hby at_223) (by decide) (by decide)
                        obtain ⟨b572, g572⟩ : ∃ z, z = h0.size := ⟨_, rfl⟩
                        rw [← g572] at A572 D572 st572
                        refine Go.by' st572 ?_
                        have g_b572 : n0 ≤ b572 := Nat.le_trans (own_le O0) (Nat.le_of_eq g572.symm)
                        have sz_b572 : h0.size ≤ b572 := Nat.le_trans KC0.1 (Nat.le_of_eq g572.symm)
                        have O572 := O0.ext E572
                        have KC572 : Keep h0 h572 [] := KC0.ext E572
                        have Fn572_22 : Fld Z h572 b572 "java/util/AbstractList" "modCount" "I" (Value.int (0 : Int32)) := D572 (Or.inl hw22) (ty := .int) (by decide)
                        have Fn572_25 : Fld Z h572 b572 "java/util/ArrayList" "elementData" "[Ljava/lang/Object;" Value.null := D572 (Or.inl hw25) (ty := (.array (.object "java/lang/Object"))) (by decide)
                        have Fn572_40 : Fld Z h572 b572 "java/util/ArrayList" "size" "I" (Value.int (0 : Int32)) := D572 (Or.inl hw40) (ty := .int) (by decide)
                        show Go p.tables e below Pf (T572.setTop (mkF m 226 #[vi is, vi ia, vi ib, vi (2 : Int32), vi ((((is.toUInt32 >>> ((2 : Int32) &&& 31).toUInt32).toInt32) &&& (3 : Int32)) % (3 : Int32)), vi (1 : Int32), vi q6, vi q7, vi q8, vi q9, vi w154_0, vi w156_0, vi w158_0, vi w160_0, vi w162_0, vi w164_0, vi w166_0, vi w168_0, .unset, .unset, .unset, .unset] [(.ref b572)]))
                        refine Go.by' (fun t k => (XS.dup X572.here hx rfl (hb hby at_226) rfl rfl k)) ?_
                        obtain ⟨_, _, ⟨T573, L573, k573, n573⟩, -, X573, ⟨Lc573, hQ573, l573, y573, z573⟩, st573⟩ := X572.specialBack hx (y := (⟨"java/util/ArrayList", "<init>", "()V"⟩ : MethodName)) rfl hown (mvT hZ hw3) (mvT hZ hw4) (mvT hZ hw5) (by decide) (backOf (W := 1) (rmAL l Z a0 hw [] wD kD vcs G b572 h572 n0 O572 A572 Fn572_22 Fn572_25 Fn572_40 g_b572) hZ hw5 hw2 (by decide) (by decide)) (g := (mkF m 227 #[vi is, vi ia, vi ib, vi (2 : Int32), vi ((((is.toUInt32 >>> ((2 : Int32) &&& 31).toUInt32).toInt32) &&& (3 : Int32)) % (3 : Int32)), vi (1 : Int32), vi q6, vi q7, vi q8, vi q9, vi w154_0, vi w156_0, vi w158_0, vi w160_0, vi w162_0, vi w164_0, vi w166_0, vi w168_0, .unset, .unset, .unset, .unset] [(.ref b572), (.ref b572)])) rfl (by rw [hml]; rfl) (Steps.refl _) (a := b572) (argsL := []) (rest := [(.ref b572)]) (lenOf pd_5 rfl) rfl (by show 2 * 0 + _ ≤ _; exact Nat.le_of_eq rfl) (hb hby at_227) (fun _ _ => ⟨rfl, e572, (by decide : 1 + 0 ≤ _), (by decide : 3 + 0 ≤ _)⟩)
                        dsimp only [Pt.U, Pt.locs, Pt.cells, Pt.slots] at X573 l573 y573 z573 st573 hQ573
                        subst l573 y573 z573
                        obtain ⟨rfl, N573q, K573, f573_0, f573_1, f573_2, f573_3⟩ := hQ573
                        have N573 := Fr.app N0 N573q
                        obtain ⟨lc573, X573, N573⟩ := own_pack X573 N573
                        refine Go.by' (fun t k => st573.trans k) ?_
                        have O573 := O572.keep K573 (allS g_b572 all0)
                        have KC573 : Keep h0 T573.heap [] := KC572.trans K573 (allS (Or.inr sz_b572) all0)
                        show Go p.tables e below Pf (T573.setTop (mkF m 230 #[vi is, vi ia, vi ib, vi (2 : Int32), vi ((((is.toUInt32 >>> ((2 : Int32) &&& 31).toUInt32).toInt32) &&& (3 : Int32)) % (3 : Int32)), vi (1 : Int32), vi q6, vi q7, vi q8, vi q9, vi w154_0, vi w156_0, vi w158_0, vi w160_0, vi w162_0, vi w164_0, vi w166_0, vi w168_0, .unset, .unset, .unset, .unset] [(.ref b572)]))
                        refine Go.by' (fun t k => (XS.astore X573.here hx rfl (hb hby at_230) rfl rfl (l' := #[vi is, vi ia, vi ib, vi (2 : Int32), vi ((((is.toUInt32 >>> ((2 : Int32) &&& 31).toUInt32).toInt32) &&& (3 : Int32)) % (3 : Int32)), vi (1 : Int32), vi q6, vi q7, vi q8, vi q9, vi w154_0, vi w156_0, vi w158_0, vi w160_0, vi w162_0, vi w164_0, vi w166_0, vi w168_0, vr b572, .unset, .unset, .unset]) rfl (XS.iloadN X573.here hx rfl (hb hby at_232) rfl (XS.iconst X573.here hx rfl (hb hby at_233) (XS.icmpNo X573.here hx rfl (hb hby at_234) rfl (flt (by decide)).1 (XS.aload X573.here hx rfl (hb hby at_237) rfl rfl k)))))) ?_
                        obtain ⟨T574, h574, X574, e574, E574, A574, D574, -, st574⟩ := newO X573 hx hZ hown hw41 hw42 hw28 rfl (g := (mkF m 239 #[vi is, vi ia, vi ib, vi (2 : Int32), vi ((((is.toUInt32 >>> ((2 : Int32) &&& 31).toUInt32).toInt32) &&& (3 : Int32)) % (3 : Int32)), vi (1 : Int32), vi q6, vi q7, vi q8, vi q9, vi w154_0, vi w156_0, vi w158_0, vi w160_0, vi w162_0, vi w164_0, vi w166_0, vi w168_0, vr b572, .unset, .unset, .unset] [(.ref b572)])) rfl (hb hby at_239) (by decide) (by decide)
                        obtain ⟨b574, g574⟩ : ∃ z, z = T573.heap.size := ⟨_, rfl⟩
                        rw [← g574] at A574 D574 st574
                        refine Go.by' st574 ?_
                        have g_b574 : n0 ≤ b574 := Nat.le_trans (own_le O573) (Nat.le_of_eq g574.symm)
                        have sz_b574 : h0.size ≤ b574 := Nat.le_trans KC573.1 (Nat.le_of_eq g574.symm)
                        have O574 := O573.ext E574
                        have KC574 : Keep h0 h574 [] := KC573.ext E574
                        have Fn574_85 : Fld Z h574 b574 "com/example/slatewipe/slatewipe/vendors/mariadb/Columns$Column" "name" "Ljava/lang/String;" Value.null := D574 (Or.inr hw85) (ty := (.object "java/lang/String")) (by decide)
                        have Fn574_87 : Fld Z h574 b574 "com/example/slatewipe/slatewipe/vendors/mariadb/Columns$Column" "type" "Ljava/lang/String;" Value.null := D574 (Or.inr hw87) (ty := (.object "java/lang/String")) (by decide)
                        have Fn574_89 : Fld Z h574 b574 "com/example/slatewipe/slatewipe/vendors/mariadb/Columns$Column" "nullable" "Z" (Value.int (0 : Int32)) := D574 (Or.inr hw89) (ty := .boolean) (by decide)
                        show Go p.tables e below Pf (T574.setTop (mkF m 242 #[vi is, vi ia, vi ib, vi (2 : Int32), vi ((((is.toUInt32 >>> ((2 : Int32) &&& 31).toUInt32).toInt32) &&& (3 : Int32)) % (3 : Int32)), vi (1 : Int32), vi q6, vi q7, vi q8, vi q9, vi w154_0, vi w156_0, vi w158_0, vi w160_0, vi w162_0, vi w164_0, vi w166_0, vi w168_0, vr b572, .unset, .unset, .unset] [(.ref b574), (.ref b572)]))
                        refine Go.by' (fun t k => (XS.dup X574.here hx rfl (hb hby at_242) rfl rfl (XS.iload X574.here hx rfl (hb hby at_243) rfl k))) ?_
                        obtain ⟨_, _, ⟨T575, L575, k575, n575⟩, -, X575, ⟨Lc575, hQ575, l575, y575, z575⟩, st575⟩ := Jvm.LawKit.callS X574 hx (y := (⟨"com/example/slatewipe/slatewipe/vendors/mariadb/ColumnSameTypesPinLaw", "str", "(I)Ljava/lang/String;"⟩ : MethodName)) hown (mvT hZ hw43) (mvT hZ hw44) (mvT hZ hw45) (mvT hZ hw46) (by decide) (backOf (W := 3) (rmStr l Z a0 hw [] wD kD vcs G q6 h574 n0 O574 bd6.1 bd6.2) hZ hw46 hw45 (by decide) (by decide)) (g := (mkF m 245 #[vi is, vi ia, vi ib, vi (2 : Int32), vi ((((is.toUInt32 >>> ((2 : Int32) &&& 31).toUInt32).toInt32) &&& (3 : Int32)) % (3 : Int32)), vi (1 : Int32), vi q6, vi q7, vi q8, vi q9, vi w154_0, vi w156_0, vi w158_0, vi w160_0, vi w162_0, vi w164_0, vi w166_0, vi w168_0, vr b572, .unset, .unset, .unset] [(.int q6), (.ref b574), (.ref b574), (.ref b572)])) rfl (by rw [hml]; rfl) (argsL := [(.int q6)]) (rest := [(.ref b574), (.ref b574), (.ref b572)]) (lenOf pd_16 rfl) rfl (by show 2 * 0 + _ ≤ _; exact Nat.le_of_eq rfl) (hb hby at_245) (fun _ _ => ⟨rfl, e574, (by decide : 2 + 3 ≤ _), (by decide : 6 + 6 ≤ _)⟩)
                        dsimp only [Pt.U, Pt.locs, Pt.cells, Pt.slots] at X575 l575 y575 z575 st575 hQ575
                        subst l575 y575 z575
                        obtain ⟨r_575, rb_575, kb_575, rfl, N575q, K575, f575_0, f575_1, f575_2, f575_3, f575_4, f575_5⟩ := hQ575
                        have N575 := Fr.app N573 N575q
                        obtain ⟨lc575, X575, N575⟩ := own_pack X575 N575
                        refine Go.by' st575 ?_
                        have g_r_575 : n0 ≤ r_575 := Nat.le_trans (own_le O574) f575_1
                        have sz_r_575 : h0.size ≤ r_575 := Nat.le_trans KC574.1 f575_1
                        have g_rb_575 : n0 ≤ rb_575 := Nat.le_trans (own_le O574) f575_5
                        have sz_rb_575 : h0.size ≤ rb_575 := Nat.le_trans KC574.1 f575_5
                        have O575 := O574.keep K575 all0
                        have KC575 : Keep h0 T575.heap [] := KC574.trans K575 all0
                        show Go p.tables e below Pf (T575.setTop (mkF m 248 #[vi is, vi ia, vi ib, vi (2 : Int32), vi ((((is.toUInt32 >>> ((2 : Int32) &&& 31).toUInt32).toInt32) &&& (3 : Int32)) % (3 : Int32)), vi (1 : Int32), vi q6, vi q7, vi q8, vi q9, vi w154_0, vi w156_0, vi w158_0, vi w160_0, vi w162_0, vi w164_0, vi w166_0, vi w168_0, vr b572, .unset, .unset, .unset] [(.ref r_575), (.ref b574), (.ref b574), (.ref b572)]))
                        refine Go.by' (fun t k => (XS.iload X575.here hx rfl (hb hby at_248) rfl k)) ?_
                        obtain ⟨_, _, ⟨T576, L576, k576, n576⟩, -, X576, ⟨Lc576, hQ576, l576, y576, z576⟩, st576⟩ := Jvm.LawKit.callS X575 hx (y := (⟨"com/example/slatewipe/slatewipe/vendors/mariadb/ColumnSameTypesPinLaw", "str", "(I)Ljava/lang/String;"⟩ : MethodName)) hown (mvT hZ hw43) (mvT hZ hw44) (mvT hZ hw45) (mvT hZ hw46) (by decide) (backOf (W := 4) (rmStr l Z a0 hw [] wD kD vcs G q7 T575.heap n0 O575 bd7.1 bd7.2) hZ hw46 hw45 (by decide) (by decide)) (g := (mkF m 250 #[vi is, vi ia, vi ib, vi (2 : Int32), vi ((((is.toUInt32 >>> ((2 : Int32) &&& 31).toUInt32).toInt32) &&& (3 : Int32)) % (3 : Int32)), vi (1 : Int32), vi q6, vi q7, vi q8, vi q9, vi w154_0, vi w156_0, vi w158_0, vi w160_0, vi w162_0, vi w164_0, vi w166_0, vi w168_0, vr b572, .unset, .unset, .unset] [(.int q7), (.ref r_575), (.ref b574), (.ref b574), (.ref b572)])) rfl (by rw [hml]; rfl) (argsL := [(.int q7)]) (rest := [(.ref r_575), (.ref b574), (.ref b574), (.ref b572)]) (lenOf pd_16 rfl) rfl (by show 2 * 0 + _ ≤ _; exact Nat.le_of_eq rfl) (hb hby at_250) (fun _ _ => ⟨rfl, rfl, (by decide : 5 + 3 ≤ _), (by decide : 12 + 6 ≤ _)⟩)
                        dsimp only [Pt.U, Pt.locs, Pt.cells, Pt.slots] at X576 l576 y576 z576 st576 hQ576
                        subst l576 y576 z576
                        obtain ⟨r_576, rb_576, kb_576, rfl, N576q, K576, f576_0, f576_1, f576_2, f576_3, f576_4, f576_5⟩ := hQ576
                        have N576 := Fr.app N575 N576q
                        obtain ⟨lc576, X576, N576⟩ := own_pack X576 N576
                        refine Go.by' st576 ?_
                        have g_r_576 : n0 ≤ r_576 := Nat.le_trans (own_le O575) f576_1
                        have sz_r_576 : h0.size ≤ r_576 := Nat.le_trans KC575.1 f576_1
                        have g_rb_576 : n0 ≤ rb_576 := Nat.le_trans (own_le O575) f576_5
                        have sz_rb_576 : h0.size ≤ rb_576 := Nat.le_trans KC575.1 f576_5
                        have O576 := O575.keep K576 all0
                        have KC576 : Keep h0 T576.heap [] := KC575.trans K576 all0
                        show Go p.tables e below Pf (T576.setTop (mkF m 253 #[vi is, vi ia, vi ib, vi (2 : Int32), vi ((((is.toUInt32 >>> ((2 : Int32) &&& 31).toUInt32).toInt32) &&& (3 : Int32)) % (3 : Int32)), vi (1 : Int32), vi q6, vi q7, vi q8, vi q9, vi w154_0, vi w156_0, vi w158_0, vi w160_0, vi w162_0, vi w164_0, vi w166_0, vi w168_0, vr b572, .unset, .unset, .unset] [(.ref r_576), (.ref r_575), (.ref b574), (.ref b574), (.ref b572)]))
                        refine Go.by' (fun t k => (XS.iload X576.here hx rfl (hb hby at_253) rfl k)) ?_
                        have c578 := ((A574.keep K575).keep K576)
                        have c579 := ((Fn574_85.keep K575 nin0).keep K576 nin0)
                        have c580 := ((Fn574_87.keep K575 nin0).keep K576 nin0)
                        have c581 := ((Fn574_89.keep K575 nin0).keep K576 nin0)
                        obtain ⟨_, _, ⟨T577, L577, k577, n577⟩, -, X577, ⟨Lc577, hQ577, l577, y577, z577⟩, st577⟩ := X576.specialBack hx (y := (⟨"com/example/slatewipe/slatewipe/vendors/mariadb/Columns$Column", "<init>", "(Ljava/lang/String;Ljava/lang/String;Z)V"⟩ : MethodName)) rfl hown (mvT hZ hw75) (mvT hZ hw76) (mvT hZ hw77) (by decide) (backOf (W := 2) (rmCol l Z a0 hw [] wD kD vcs G b574 r_575 r_576 w162_0 T576.heap n0 O576 c578 c579 c580 c581 g_b574 bw162_0) hZ hw77 hw28 (by decide) (by decide)) (g := (mkF m 255 #[vi is, vi ia, vi ib, vi (2 : Int32), vi ((((is.toUInt32 >>> ((2 : Int32) &&& 31).toUInt32).toInt32) &&& (3 : Int32)) % (3 : Int32)), vi (1 : Int32), vi q6, vi q7, vi q8, vi q9, vi w154_0, vi w156_0, vi w158_0, vi w160_0, vi w162_0, vi w164_0, vi w166_0, vi w168_0, vr b572, .unset, .unset, .unset] [(.int w162_0), (.ref r_576), (.ref r_575), (.ref b574), (.ref b574), (.ref b572)])) rfl (by rw [hml]; rfl) (Steps.refl _) (a := b574) (argsL := [(.ref r_575), (.ref r_576), (.int w162_0)]) (rest := [(.ref b574), (.ref b572)]) (lenOf pd_17 rfl) rfl (by show 2 * 0 + _ ≤ _; exact Nat.le_of_eq rfl) (hb hby at_255) (fun _ _ => ⟨rfl, rfl, (by decide : 8 + 0 ≤ _), (by decide : 18 + 0 ≤ _)⟩)
                        dsimp only [Pt.U, Pt.locs, Pt.cells, Pt.slots] at X577 l577 y577 z577 st577 hQ577
                        subst l577 y577 z577
                        obtain ⟨rfl, N577q, K577, f577_0, f577_1, f577_2⟩ := hQ577
                        have N577 := Fr.app N576 N577q
                        obtain ⟨lc577, X577, N577⟩ := own_pack X577 N577
                        refine Go.by' (fun t k => st577.trans k) ?_
                        have O577 := O576.keep K577 (allS g_b574 all0)
                        have KC577 : Keep h0 T577.heap [] := KC576.trans K577 (allS (Or.inr sz_b574) all0)
                        have c583 := ((((f573_0.ext E574).keep K575).keep K576).keep K577)
                        have c584 := ((((f573_3.ext E574).keep K575 nin0).keep K576 nin0).keep K577 (ninS (Nat.ne_of_lt (Nat.lt_of_lt_of_le (Nat.lt_of_lt_of_le A572.lt K573.1) (Nat.le_of_eq g574.symm))) nin0))
                        have c585 := ((((f573_2.ext E574).keep K575 nin0).keep K576 nin0).keep K577 (ninS (Nat.ne_of_lt (Nat.lt_of_lt_of_le (Nat.lt_of_lt_of_le A572.lt K573.1) (Nat.le_of_eq g574.symm))) nin0))
                        have c586 := ((((f573_1.ext E574).keep K575 nin0).keep K576 nin0).keep K577 (ninS (Nat.ne_of_lt (Nat.lt_of_lt_of_le (Nat.lt_of_lt_of_le A572.lt K573.1) (Nat.le_of_eq g574.symm))) nin0))
                        obtain ⟨cq582, kq582, q582a, q582b, q582c⟩ := isOf hZ rfl c583
                        obtain ⟨_, _, ⟨T582, L582, k582, n582⟩, -, X582, ⟨Lc582, hQ582, l582, y582, z582⟩, st582⟩ := X577.interfaceBack hx (xi := (⟨"java/util/List", "add", "(Ljava/lang/Object;)Z"⟩ : MethodName)) (y := (⟨"java/util/ArrayList", "add", "(Ljava/lang/Object;)Z"⟩ : MethodName)) hown (mvT hZ hw90) (mvT hZ hw91) (mvT hZ hw92) (mvT hZ hw93) (mvT hZ hw94) (mvT hZ hw95) (mvT hZ hw96) (mvT hZ hw37) (by decide) (backOf (W := 0) (rmA1_0 l Z a0 hw [] wD kD vcs G b572 b574 ((0 : Int32)) T577.heap n0 O577 c583 c584 c585 c586 g_b572 f577_0) hZ hw97 hw2 (by decide) (by decide)) q582a q582b q582c (g := (mkF m 258 #[vi is, vi ia, vi ib, vi (2 : Int32), vi ((((is.toUInt32 >>> ((2 : Int32) &&& 31).toUInt32).toInt32) &&& (3 : Int32)) % (3 : Int32)), vi (1 : Int32), vi q6, vi q7, vi q8, vi q9, vi w154_0, vi w156_0, vi w158_0, vi w160_0, vi w162_0, vi w164_0, vi w166_0, vi w168_0, vr b572, .unset, .unset, .unset] [(.ref b574), (.ref b572)])) rfl (by rw [hml]; rfl) (Steps.refl _) (argsL := [(.ref b574)]) (rest := []) (lenOf pd_14 rfl) rfl (by show 2 * 0 + _ ≤ _; exact Nat.le_of_eq rfl) (hb hby at_258) (fun _ _ => ⟨rfl, rfl, (by decide : 8 + 1 ≤ _), (by decide : 18 + 10 ≤ _)⟩)
                        dsimp only [Pt.U, Pt.locs, Pt.cells, Pt.slots] at X582 l582 y582 z582 st582 hQ582
                        subst l582 y582 z582
                        obtain ⟨r_582, kk_582, rfl, N582q, K582, f582_0, f582_1, f582_2, f582_3, f582_4, f582_5, r582_0⟩ := hQ582
                        have N582 := Fr.app N577 N582q
                        obtain ⟨lc582, X582, N582⟩ := own_pack X582 N582
                        refine Go.by' (fun t k => st582.trans k) ?_
                        have g_r_582 : n0 ≤ r_582 := Nat.le_trans (own_le O577) f582_1
                        have sz_r_582 : h0.size ≤ r_582 := Nat.le_trans KC577.1 f582_1
                        have O582 := O577.keep K582 (allS g_b572 all0)
                        have KC582 : Keep h0 T582.heap [] := KC577.trans K582 (allS (Or.inr sz_b572) all0)
                        show Go p.tables e below Pf (T582.setTop (mkF m 263 #[vi is, vi ia, vi ib, vi (2 : Int32), vi ((((is.toUInt32 >>> ((2 : Int32) &&& 31).toUInt32).toInt32) &&& (3 : Int32)) % (3 : Int32)), vi (1 : Int32), vi q6, vi q7, vi q8, vi q9, vi w154_0, vi w156_0, vi w158_0, vi w160_0, vi w162_0, vi w164_0, vi w166_0, vi w168_0, vr b572, .unset, .unset, .unset] [(.int (1 : Int32))]))
                        refine Go.by' (fun t k => (XS.pop X582.here hx rfl (hb hby at_263) rfl rfl (XS.iloadN X582.here hx rfl (hb hby at_264) rfl (XS.iconst X582.here hx rfl (hb hby at_265) (XS.icmpNo X582.here hx rfl (hb hby at_266) rfl (flt (by decide)).1 (XS.aload X582.here hx rfl (hb hby at_269) rfl rfl k)))))) ?_
                        obtain ⟨T587, h587, X587, e587, E587, A587, D587, -, st587⟩ := newO X582 hx hZ hown hw41 hw42 hw28 rfl (g := (mkF m 271 #[vi is, vi ia, vi ib, vi (2 : Int32), vi ((((is.toUInt32 >>> ((2 : Int32) &&& 31).toUInt32).toInt32) &&& (3 : Int32)) % (3 : Int32)), vi (1 : Int32), vi q6, vi q7, vi q8, vi q9, vi w154_0, vi w156_0, vi w158_0, vi w160_0, vi w162_0, vi w164_0, vi w166_0, vi w168_0, vr b572, .unset, .unset, .unset] [(.ref b572)])) rfl (hb hby at_271) (by decide) (by decide)
                        obtain ⟨b587, g587⟩ : ∃ z, z = T582.heap.size := ⟨_, rfl⟩
                        rw [← g587] at A587 D587 st587
                        refine Go.by' st587 ?_
                        have g_b587 : n0 ≤ b587 := Nat.le_trans (own_le O582) (Nat.le_of_eq g587.symm)
                        have sz_b587 : h0.size ≤ b587 := Nat.le_trans KC582.1 (Nat.le_of_eq g587.symm)
                        have O587 := O582.ext E587
                        have KC587 : Keep h0 h587 [] := KC582.ext E587
                        have Fn587_85 : Fld Z h587 b587 "com/example/slatewipe/slatewipe/vendors/mariadb/Columns$Column" "name" "Ljava/lang/String;" Value.null := D587 (Or.inr hw85) (ty := (.object "java/lang/String")) (by decide)
                        have Fn587_87 : Fld Z h587 b587 "com/example/slatewipe/slatewipe/vendors/mariadb/Columns$Column" "type" "Ljava/lang/String;" Value.null := D587 (Or.inr hw87) (ty := (.object "java/lang/String")) (by decide)
                        have Fn587_89 : Fld Z h587 b587 "com/example/slatewipe/slatewipe/vendors/mariadb/Columns$Column" "nullable" "Z" (Value.int (0 : Int32)) := D587 (Or.inr hw89) (ty := .boolean) (by decide)
                        show Go p.tables e below Pf (T587.setTop (mkF m 274 #[vi is, vi ia, vi ib, vi (2 : Int32), vi ((((is.toUInt32 >>> ((2 : Int32) &&& 31).toUInt32).toInt32) &&& (3 : Int32)) % (3 : Int32)), vi (1 : Int32), vi q6, vi q7, vi q8, vi q9, vi w154_0, vi w156_0, vi w158_0, vi w160_0, vi w162_0, vi w164_0, vi w166_0, vi w168_0, vr b572, .unset, .unset, .unset] [(.ref b587), (.ref b572)]))
                        refine Go.by' (fun t k => (XS.dup X587.here hx rfl (hb hby at_274) rfl rfl (XS.iload X587.here hx rfl (hb hby at_275) rfl k))) ?_
                        obtain ⟨_, _, ⟨T588, L588, k588, n588⟩, -, X588, ⟨Lc588, hQ588, l588, y588, z588⟩, st588⟩ := Jvm.LawKit.callS X587 hx (y := (⟨"com/example/slatewipe/slatewipe/vendors/mariadb/ColumnSameTypesPinLaw", "str", "(I)Ljava/lang/String;"⟩ : MethodName)) hown (mvT hZ hw43) (mvT hZ hw44) (mvT hZ hw45) (mvT hZ hw46) (by decide) (backOf (W := 3) (rmStr l Z a0 hw [] wD kD vcs G q8 h587 n0 O587 bd8.1 bd8.2) hZ hw46 hw45 (by decide) (by decide)) (g := (mkF m 277 #[vi is, vi ia, vi ib, vi (2 : Int32), vi ((((is.toUInt32 >>> ((2 : Int32) &&& 31).toUInt32).toInt32) &&& (3 : Int32)) % (3 : Int32)), vi (1 : Int32), vi q6, vi q7, vi q8, vi q9, vi w154_0, vi w156_0, vi w158_0, vi w160_0, vi w162_0, vi w164_0, vi w166_0, vi w168_0, vr b572, .unset, .unset, .unset] [(.int q8), (.ref b587), (.ref b587), (.ref b572)])) rfl (by rw [hml]; rfl) (argsL := [(.int q8)]) (rest := [(.ref b587), (.ref b587), (.ref b572)]) (lenOf pd_16 rfl) rfl (by show 2 * 0 + _ ≤ _; exact Nat.le_of_eq rfl) (hb hby at_277) (fun _ _ => ⟨rfl, e587, (by decide : 10 + 3 ≤ _), (by decide : 31 + 6 ≤ _)⟩)
                        dsimp only [Pt.U, Pt.locs, Pt.cells, Pt.slots] at X588 l588 y588 z588 st588 hQ588
                        subst l588 y588 z588
                        obtain ⟨r_588, rb_588, kb_588, rfl, N588q, K588, f588_0, f588_1, f588_2, f588_3, f588_4, f588_5⟩ := hQ588
                        have N588 := Fr.app N582 N588q
                        obtain ⟨lc588, X588, N588⟩ := own_pack X588 N588
                        refine Go.by' st588 ?_
                        have g_r_588 : n0 ≤ r_588 := Nat.le_trans (own_le O587) f588_1
                        have sz_r_588 : h0.size ≤ r_588 := Nat.le_trans KC587.1 f588_1
                        have g_rb_588 : n0 ≤ rb_588 := Nat.le_trans (own_le O587) f588_5
                        have sz_rb_588 : h0.size ≤ rb_588 := Nat.le_trans KC587.1 f588_5
                        have O588 := O587.keep K588 all0
                        have KC588 : Keep h0 T588.heap [] := KC587.trans K588 all0
                        show Go p.tables e below Pf (T588.setTop (mkF m 280 #[vi is, vi ia, vi ib, vi (2 : Int32), vi ((((is.toUInt32 >>> ((2 : Int32) &&& 31).toUInt32).toInt32) &&& (3 : Int32)) % (3 : Int32)), vi (1 : Int32), vi q6, vi q7, vi q8, vi q9, vi w154_0, vi w156_0, vi w158_0, vi w160_0, vi w162_0, vi w164_0, vi w166_0, vi w168_0, vr b572, .unset, .unset, .unset] [(.ref r_588), (.ref b587), (.ref b587), (.ref b572)]))
                        refine Go.by' (fun t k => (XS.iload X588.here hx rfl (hb hby at_280) rfl k)) ?_
                        obtain ⟨_, _, ⟨T589, L589, k589, n589⟩, -, X589, ⟨Lc589, hQ589, l589, y589, z589⟩, st589⟩ := Jvm.LawKit.callS X588 hx (y := (⟨"com/example/slatewipe/slatewipe/vendors/mariadb/ColumnSameTypesPinLaw", "str", "(I)Ljava/lang/String;"⟩ : MethodName)) hown (mvT hZ hw43) (mvT hZ hw44) (mvT hZ hw45) (mvT hZ hw46) (by decide) (backOf (W := 4) (rmStr l Z a0 hw [] wD kD vcs G q9 T588.heap n0 O588 bd9.1 bd9.2) hZ hw46 hw45 (by decide) (by decide)) (g := (mkF m 282 #[vi is, vi ia, vi ib, vi (2 : Int32), vi ((((is.toUInt32 >>> ((2 : Int32) &&& 31).toUInt32).toInt32) &&& (3 : Int32)) % (3 : Int32)), vi (1 : Int32), vi q6, vi q7, vi q8, vi q9, vi w154_0, vi w156_0, vi w158_0, vi w160_0, vi w162_0, vi w164_0, vi w166_0, vi w168_0, vr b572, .unset, .unset, .unset] [(.int q9), (.ref r_588), (.ref b587), (.ref b587), (.ref b572)])) rfl (by rw [hml]; rfl) (argsL := [(.int q9)]) (rest := [(.ref r_588), (.ref b587), (.ref b587), (.ref b572)]) (lenOf pd_16 rfl) rfl (by show 2 * 0 + _ ≤ _; exact Nat.le_of_eq rfl) (hb hby at_282) (fun _ _ => ⟨rfl, rfl, (by decide : 13 + 3 ≤ _), (by decide : 37 + 6 ≤ _)⟩)
                        dsimp only [Pt.U, Pt.locs, Pt.cells, Pt.slots] at X589 l589 y589 z589 st589 hQ589
                        subst l589 y589 z589
                        obtain ⟨r_589, rb_589, kb_589, rfl, N589q, K589, f589_0, f589_1, f589_2, f589_3, f589_4, f589_5⟩ := hQ589
                        have N589 := Fr.app N588 N589q
                        obtain ⟨lc589, X589, N589⟩ := own_pack X589 N589
                        refine Go.by' st589 ?_
                        have g_r_589 : n0 ≤ r_589 := Nat.le_trans (own_le O588) f589_1
                        have sz_r_589 : h0.size ≤ r_589 := Nat.le_trans KC588.1 f589_1
                        have g_rb_589 : n0 ≤ rb_589 := Nat.le_trans (own_le O588) f589_5
                        have sz_rb_589 : h0.size ≤ rb_589 := Nat.le_trans KC588.1 f589_5
                        have O589 := O588.keep K589 all0
                        have KC589 : Keep h0 T589.heap [] := KC588.trans K589 all0
                        show Go p.tables e below Pf (T589.setTop (mkF m 285 #[vi is, vi ia, vi ib, vi (2 : Int32), vi ((((is.toUInt32 >>> ((2 : Int32) &&& 31).toUInt32).toInt32) &&& (3 : Int32)) % (3 : Int32)), vi (1 : Int32), vi q6, vi q7, vi q8, vi q9, vi w154_0, vi w156_0, vi w158_0, vi w160_0, vi w162_0, vi w164_0, vi w166_0, vi w168_0, vr b572, .unset, .unset, .unset] [(.ref r_589), (.ref r_588), (.ref b587), (.ref b587), (.ref b572)]))
                        refine Go.by' (fun t k => (XS.iload X589.here hx rfl (hb hby at_285) rfl k)) ?_
                        have c591 := ((A587.keep K588).keep K589)
                        have c592 := ((Fn587_85.keep K588 nin0).keep K589 nin0)
                        have c593 := ((Fn587_87.keep K588 nin0).keep K589 nin0)
                        have c594 := ((Fn587_89.keep K588 nin0).keep K589 nin0)
                        obtain ⟨_, _, ⟨T590, L590, k590, n590⟩, -, X590, ⟨Lc590, hQ590, l590, y590, z590⟩, st590⟩ := X589.specialBack hx (y := (⟨"com/example/slatewipe/slatewipe/vendors/mariadb/Columns$Column", "<init>", "(Ljava/lang/String;Ljava/lang/String;Z)V"⟩ : MethodName)) rfl hown (mvT hZ hw75) (mvT hZ hw76) (mvT hZ hw77) (by decide) (backOf (W := 2) (rmCol l Z a0 hw [] wD kD vcs G b587 r_588 r_589 w164_0 T589.heap n0 O589 c591 c592 c593 c594 g_b587 bw164_0) hZ hw77 hw28 (by decide) (by decide)) (g := (mkF m 287 #[vi is, vi ia, vi ib, vi (2 : Int32), vi ((((is.toUInt32 >>> ((2 : Int32) &&& 31).toUInt32).toInt32) &&& (3 : Int32)) % (3 : Int32)), vi (1 : Int32), vi q6, vi q7, vi q8, vi q9, vi w154_0, vi w156_0, vi w158_0, vi w160_0, vi w162_0, vi w164_0, vi w166_0, vi w168_0, vr b572, .unset, .unset, .unset] [(.int w164_0), (.ref r_589), (.ref r_588), (.ref b587), (.ref b587), (.ref b572)])) rfl (by rw [hml]; rfl) (Steps.refl _) (a := b587) (argsL := [(.ref r_588), (.ref r_589), (.int w164_0)]) (rest := [(.ref b587), (.ref b572)]) (lenOf pd_17 rfl) rfl (by show 2 * 0 + _ ≤ _; exact Nat.le_of_eq rfl) (hb hby at_287) (fun _ _ => ⟨rfl, rfl, (by decide : 16 + 0 ≤ _), (by decide : 43 + 0 ≤ _)⟩)
                        dsimp only [Pt.U, Pt.locs, Pt.cells, Pt.slots] at X590 l590 y590 z590 st590 hQ590
                        subst l590 y590 z590
                        obtain ⟨rfl, N590q, K590, f590_0, f590_1, f590_2⟩ := hQ590
                        have N590 := Fr.app N589 N590q
                        obtain ⟨lc590, X590, N590⟩ := own_pack X590 N590
                        refine Go.by' (fun t k => st590.trans k) ?_
                        have O590 := O589.keep K590 (allS g_b587 all0)
                        have KC590 : Keep h0 T590.heap [] := KC589.trans K590 (allS (Or.inr sz_b587) all0)
                        have c596 := ((((f582_0.ext E587).keep K588 nin0).keep K589 nin0).keep K590 (ninS (Nat.ne_of_lt (Nat.lt_of_lt_of_le f582_0.lt (Nat.le_of_eq g587.symm))) nin0))
                        have c597 := ((((f582_2.ext E587).keep K588).keep K589).keep K590)
                        have c598 := ((((f582_4.ext E587).keep K588 nin0).keep K589 nin0).keep K590 (ninS (Nat.ne_of_lt (Nat.lt_of_lt_of_le (Nat.lt_of_lt_of_le A572.lt (Nat.le_trans K573.1 (Nat.le_trans E574.1 (Nat.le_trans K575.1 (Nat.le_trans K576.1 (Nat.le_trans K577.1 K582.1)))))) (Nat.le_of_eq g587.symm))) nin0))
                        have c599 := ((((f582_3.ext E587).keep K588 nin0).keep K589 nin0).keep K590 (ninS (Nat.ne_of_lt (Nat.lt_of_lt_of_le (Nat.lt_of_lt_of_le A572.lt (Nat.le_trans K573.1 (Nat.le_trans E574.1 (Nat.le_trans K575.1 (Nat.le_trans K576.1 (Nat.le_trans K577.1 K582.1)))))) (Nat.le_of_eq g587.symm))) nin0))
                        have c600 := ((((f582_5.ext E587).keep K588 nin0).keep K589 nin0).keep K590 (ninS (Nat.ne_of_lt (Nat.lt_of_lt_of_le (Nat.lt_of_lt_of_le A572.lt (Nat.le_trans K573.1 (Nat.le_trans E574.1 (Nat.le_trans K575.1 (Nat.le_trans K576.1 (Nat.le_trans K577.1 K582.1)))))) (Nat.le_of_eq g587.symm))) nin0))
                        obtain ⟨cq595, kq595, q595a, q595b, q595c⟩ := isOf hZ rfl c597
                        obtain ⟨_, _, ⟨T595, L595, k595, n595⟩, -, X595, ⟨Lc595, hQ595, l595, y595, z595⟩, st595⟩ := X590.interfaceBack hx (xi := (⟨"java/util/List", "add", "(Ljava/lang/Object;)Z"⟩ : MethodName)) (y := (⟨"java/util/ArrayList", "add", "(Ljava/lang/Object;)Z"⟩ : MethodName)) hown (mvT hZ hw90) (mvT hZ hw91) (mvT hZ hw92) (mvT hZ hw93) (mvT hZ hw94) (mvT hZ hw95) (mvT hZ hw96) (mvT hZ hw37) (by decide) (backOf (W := 0) (rmA1_1 l Z a0 hw [] wD kD vcs G b572 b587 (((0 : Int32) + (1 : Int32))) r_582 kk_582 b574 T590.heap n0 O590 c597 c598 c599 c600 g_b572 g_r_582 c596 f590_0 (Nat.ne_of_lt (Nat.lt_of_lt_of_le (Nat.lt_of_lt_of_le A572.lt (Nat.le_trans K573.1 (Nat.le_trans E574.1 (Nat.le_trans K575.1 (Nat.le_trans K576.1 K577.1))))) f582_1)) r582_0) hZ hw97 hw2 (by decide) (by decide)) q595a q595b q595c (g := (mkF m 290 #[vi is, vi ia, vi ib, vi (2 : Int32), vi ((((is.toUInt32 >>> ((2 : Int32) &&& 31).toUInt32).toInt32) &&& (3 : Int32)) % (3 : Int32)), vi (1 : Int32), vi q6, vi q7, vi q8, vi q9, vi w154_0, vi w156_0, vi w158_0, vi w160_0, vi w162_0, vi w164_0, vi w166_0, vi w168_0, vr b572, .unset, .unset, .unset] [(.ref b587), (.ref b572)])) rfl (by rw [hml]; rfl) (Steps.refl _) (argsL := [(.ref b587)]) (rest := []) (lenOf pd_14 rfl) rfl (by show 2 * 0 + _ ≤ _; exact Nat.le_of_eq rfl) (hb hby at_290) (fun _ _ => ⟨rfl, rfl, (by decide : 16 + 0 ≤ _), (by decide : 43 + 0 ≤ _)⟩)
                        dsimp only [Pt.U, Pt.locs, Pt.cells, Pt.slots] at X595 l595 y595 z595 st595 hQ595
                        subst l595 y595 z595
                        obtain ⟨rfl, N595q, K595, f595_0, f595_1, f595_2, f595_3, f595_4⟩ := hQ595
                        have N595 := Fr.app N590 N595q
                        obtain ⟨lc595, X595, N595⟩ := own_pack X595 N595
                        refine Go.by' (fun t k => st595.trans k) ?_
                        have O595 := O590.keep K595 (allS g_b572 (allS g_r_582 all0))
                        have KC595 : Keep h0 T595.heap [] := KC590.trans K595 (allS (Or.inr sz_b572) (allS (Or.inr sz_r_582) all0))
                        show Go p.tables e below Pf (T595.setTop (mkF m 295 #[vi is, vi ia, vi ib, vi (2 : Int32), vi ((((is.toUInt32 >>> ((2 : Int32) &&& 31).toUInt32).toInt32) &&& (3 : Int32)) % (3 : Int32)), vi (1 : Int32), vi q6, vi q7, vi q8, vi q9, vi w154_0, vi w156_0, vi w158_0, vi w160_0, vi w162_0, vi w164_0, vi w166_0, vi w168_0, vr b572, .unset, .unset, .unset] [(.int (1 : Int32))]))
                        refine Go.by' (fun t k => (XS.pop X595.here hx rfl (hb hby at_295) rfl rfl (XS.aconstNull X595.here hx rfl (hb hby at_296) (XS.astore X595.here hx rfl (hb hby at_297) rfl rfl (l' := #[vi is, vi ia, vi ib, vi (2 : Int32), vi ((((is.toUInt32 >>> ((2 : Int32) &&& 31).toUInt32).toInt32) &&& (3 : Int32)) % (3 : Int32)), vi (1 : Int32), vi q6, vi q7, vi q8, vi q9, vi w154_0, vi w156_0, vi w158_0, vi w160_0, vi w162_0, vi w164_0, vi w166_0, vi w168_0, vr b572, .val .null, .unset, .unset]) rfl (XS.iload X595.here hx rfl (hb hby at_299) rfl (XS.ifYes X595.here hx rfl (pc0 := 301) (pc' := 379) rfl (hb hby at_301) rfl ((if0 _ _).trans (feq (by decide)).2) (by decide) (by decide) (XS.aload X595.here hx rfl (hb hby at_379) rfl rfl (XS.aload X595.here hx rfl (hb hby at_381) rfl rfl k)))))))) ?_
                        obtain ⟨_, _, ⟨T601, L601, k601, n601⟩, -, X601, ⟨Lc601, hQ601, l601, y601, z601⟩, st601⟩ := Jvm.LawKit.callS X595 hx (y := (⟨"com/example/slatewipe/slatewipe/vendors/mariadb/Columns$Column", "sameTypes", "(Ljava/util/List;Ljava/util/List;)Z"⟩ : MethodName)) hown (mvT hZ hw26) (mvT hZ hw27) (mvT hZ hw28) (mvT hZ hw29) (by decide) (backOf (W := 0) (rmTn l Z a0 hw [] wD kD vcs G b572 T595.heap n0 O595 ) hZ hw29 hw28 (by decide) (by decide)) (g := (mkF m 383 #[vi is, vi ia, vi ib, vi (2 : Int32), vi ((((is.toUInt32 >>> ((2 : Int32) &&& 31).toUInt32).toInt32) &&& (3 : Int32)) % (3 : Int32)), vi (1 : Int32), vi q6, vi q7, vi q8, vi q9, vi w154_0, vi w156_0, vi w158_0, vi w160_0, vi w162_0, vi w164_0, vi w166_0, vi w168_0, vr b572, .val .null, .unset, .unset] [.null, (.ref b572)])) rfl (by rw [hml]; rfl) (argsL := [(.ref b572), .null]) (rest := []) (lenOf pd_15 rfl) rfl (by show 2 * 0 + _ ≤ _; exact Nat.le_of_eq rfl) (hb hby at_383) (fun _ _ => ⟨rfl, rfl, (by decide : 16 + 0 ≤ _), (by decide : 43 + 0 ≤ _)⟩)
                        dsimp only [Pt.U, Pt.locs, Pt.cells, Pt.slots] at X601 l601 y601 z601 st601 hQ601
                        subst l601 y601 z601
                        obtain ⟨rfl, rfl, e601⟩ := hQ601
                        try replace X601 := own_nil X601
                        refine Go.by' st601 ?_
                        show Go p.tables e below Pf (T601.setTop (mkF m 386 #[vi is, vi ia, vi ib, vi (2 : Int32), vi ((((is.toUInt32 >>> ((2 : Int32) &&& 31).toUInt32).toInt32) &&& (3 : Int32)) % (3 : Int32)), vi (1 : Int32), vi q6, vi q7, vi q8, vi q9, vi w154_0, vi w156_0, vi w158_0, vi w160_0, vi w162_0, vi w164_0, vi w166_0, vi w168_0, vr b572, .val .null, .unset, .unset] [(.int (0 : Int32))]))
                        refine Go.by' (fun t k => (XS.istore X601.here hx rfl (hb hby at_386) rfl (l' := #[vi is, vi ia, vi ib, vi (2 : Int32), vi ((((is.toUInt32 >>> ((2 : Int32) &&& 31).toUInt32).toInt32) &&& (3 : Int32)) % (3 : Int32)), vi (1 : Int32), vi q6, vi q7, vi q8, vi q9, vi w154_0, vi w156_0, vi w158_0, vi w160_0, vi w162_0, vi w164_0, vi w166_0, vi w168_0, vr b572, .val .null, vi (0 : Int32), .unset]) rfl (XS.iload X601.here hx rfl (hb hby at_388) rfl (XS.ifNo X601.here hx rfl (hb hby at_390) rfl ((if0 _ _).trans (feq (by decide)).1) (XS.iconst X601.here hx rfl (hb hby at_393) (XS.istore X601.here hx rfl (hb hby at_394) rfl (l' := #[vi is, vi ia, vi ib, vi (2 : Int32), vi ((((is.toUInt32 >>> ((2 : Int32) &&& 31).toUInt32).toInt32) &&& (3 : Int32)) % (3 : Int32)), vi (1 : Int32), vi q6, vi q7, vi q8, vi q9, vi w154_0, vi w156_0, vi w158_0, vi w160_0, vi w162_0, vi w164_0, vi w166_0, vi w168_0, vr b572, .val .null, vi (0 : Int32), vi (0 : Int32)]) rfl (XS.goto X601.here hx rfl (pc0 := 396) (pc' := 471) rfl (hb hby at_396) (by decide) (by decide) (XS.iload X601.here hx rfl (hb hby at_471) rfl (XS.iload X601.here hx rfl (hb hby at_473) rfl k))))))))) ?_
                        show Go p.tables e below Pf (T601.setTop (mkF m 475 #[vi is, vi ia, vi ib, vi (2 : Int32), vi ((((is.toUInt32 >>> ((2 : Int32) &&& 31).toUInt32).toInt32) &&& (3 : Int32)) % (3 : Int32)), vi (1 : Int32), vi q6, vi q7, vi q8, vi q9, vi w154_0, vi w156_0, vi w158_0, vi w160_0, vi w162_0, vi w164_0, vi w166_0, vi w168_0, vr b572, .val .null, vi (0 : Int32), vi (0 : Int32)] [(.int (0 : Int32)), (.int (0 : Int32))]))
                        refine Go.by' (fun t k => (XS.icmpNo X601.here hx rfl (hb hby at_475) rfl (teq (by decide)).2 (XS.iconst X601.here hx rfl (hb hby at_478) (XS.goto X601.here hx rfl (pc0 := 479) (pc' := 483) rfl (hb hby at_479) (by decide) (by decide) k)))) ?_
                        show Go p.tables e below Pf (T601.setTop (mkF m 483 #[vi is, vi ia, vi ib, vi (2 : Int32), vi ((((is.toUInt32 >>> ((2 : Int32) &&& 31).toUInt32).toInt32) &&& (3 : Int32)) % (3 : Int32)), vi (1 : Int32), vi q6, vi q7, vi q8, vi q9, vi w154_0, vi w156_0, vi w158_0, vi w160_0, vi w162_0, vi w164_0, vi w166_0, vi w168_0, vr b572, .val .null, vi (0 : Int32), vi (0 : Int32)] [(.int (1 : Int32))]))
                        rw [hPf]
                        exact Go.retI' X601 hx hret hlk (by simp) rfl (hb hby at_483) (by decide) (by decide) ⟨rfl, N595, (by rw [e601]; exact KC595)⟩
                  by_cases hc602 : (((is.toUInt32 >>> ((12 : Int32) &&& 31).toUInt32).toInt32) &&& (1 : Int32)) = (0 : Int32)
                  · refine Go.by' (fun t k => (XS.ifYes X166.here hx rfl (pc0 := 213) (pc' := 220) rfl (hb hby at_213) rfl ((if0 _ _).trans (teq hc602).1) (by decide) (by decide) (XS.iconst X166.here hx rfl (hb hby at_220) k))) ?_
                    show Go p.tables e below Pf (T166.setTop (mkF m 221 #[vi is, vi ia, vi ib, vi ((is &&& (3 : Int32)) % (3 : Int32)), vi ((((is.toUInt32 >>> ((2 : Int32) &&& 31).toUInt32).toInt32) &&& (3 : Int32)) % (3 : Int32)), vi w152_0, vi (ia &&& (255 : Int32)), vi (((ia.toUInt32 >>> ((8 : Int32) &&& 31).toUInt32).toInt32) &&& (255 : Int32)), vi (((ia.toUInt32 >>> ((16 : Int32) &&& 31).toUInt32).toInt32) &&& (255 : Int32)), vi (((ia.toUInt32 >>> ((24 : Int32) &&& 31).toUInt32).toInt32) &&& (255 : Int32)), vi w154_0, vi w156_0, vi w158_0, vi w160_0, vi w162_0, vi w164_0, vi w166_0, .unset, .unset, .unset, .unset, .unset] [(.int (0 : Int32))]))
                    exact jn168 T166 ((0 : Int32)) X166 e166  (Or.inl ⟨hc602, rfl⟩)
                  · refine Go.by' (fun t k => (XS.ifNo X166.here hx rfl (hb hby at_213) rfl ((if0 _ _).trans (feq hc602).1) (XS.iconst X166.here hx rfl (hb hby at_216) (XS.goto X166.here hx rfl (pc0 := 217) (pc' := 221) rfl (hb hby at_217) (by decide) (by decide) k)))) ?_
                    show Go p.tables e below Pf (T166.setTop (mkF m 221 #[vi is, vi ia, vi ib, vi ((is &&& (3 : Int32)) % (3 : Int32)), vi ((((is.toUInt32 >>> ((2 : Int32) &&& 31).toUInt32).toInt32) &&& (3 : Int32)) % (3 : Int32)), vi w152_0, vi (ia &&& (255 : Int32)), vi (((ia.toUInt32 >>> ((8 : Int32) &&& 31).toUInt32).toInt32) &&& (255 : Int32)), vi (((ia.toUInt32 >>> ((16 : Int32) &&& 31).toUInt32).toInt32) &&& (255 : Int32)), vi (((ia.toUInt32 >>> ((24 : Int32) &&& 31).toUInt32).toInt32) &&& (255 : Int32)), vi w154_0, vi w156_0, vi w158_0, vi w160_0, vi w162_0, vi w164_0, vi w166_0, .unset, .unset, .unset, .unset, .unset] [(.int (1 : Int32))]))
                    exact jn168 T166 ((1 : Int32)) X166 e166  (Or.inr ⟨hc602, rfl⟩)
                by_cases hc603 : (((is.toUInt32 >>> ((11 : Int32) &&& 31).toUInt32).toInt32) &&& (1 : Int32)) = (0 : Int32)
                · refine Go.by' (fun t k => (XS.ifYes X164.here hx rfl (pc0 := 197) (pc' := 204) rfl (hb hby at_197) rfl ((if0 _ _).trans (teq hc603).1) (by decide) (by decide) (XS.iconst X164.here hx rfl (hb hby at_204) k))) ?_
                  show Go p.tables e below Pf (T164.setTop (mkF m 205 #[vi is, vi ia, vi ib, vi ((is &&& (3 : Int32)) % (3 : Int32)), vi ((((is.toUInt32 >>> ((2 : Int32) &&& 31).toUInt32).toInt32) &&& (3 : Int32)) % (3 : Int32)), vi w152_0, vi (ia &&& (255 : Int32)), vi (((ia.toUInt32 >>> ((8 : Int32) &&& 31).toUInt32).toInt32) &&& (255 : Int32)), vi (((ia.toUInt32 >>> ((16 : Int32) &&& 31).toUInt32).toInt32) &&& (255 : Int32)), vi (((ia.toUInt32 >>> ((24 : Int32) &&& 31).toUInt32).toInt32) &&& (255 : Int32)), vi w154_0, vi w156_0, vi w158_0, vi w160_0, vi w162_0, vi w164_0, .unset, .unset, .unset, .unset, .unset, .unset] [(.int (0 : Int32))]))
                  exact jn166 T164 ((0 : Int32)) X164 e164  (Or.inl ⟨hc603, rfl⟩)
                · refine Go.by' (fun t k => (XS.ifNo X164.here hx rfl (hb hby at_197) rfl ((if0 _ _).trans (feq hc603).1) (XS.iconst X164.here hx rfl (hb hby at_200) (XS.goto X164.here hx rfl (pc0 := 201) (pc' := 205) rfl (hb hby at_201) (by decide) (by decide) k)))) ?_
                  show Go p.tables e below Pf (T164.setTop (mkF m 205 #[vi is, vi ia, vi ib, vi ((is &&& (3 : Int32)) % (3 : Int32)), vi ((((is.toUInt32 >>> ((2 : Int32) &&& 31).toUInt32).toInt32) &&& (3 : Int32)) % (3 : Int32)), vi w152_0, vi (ia &&& (255 : Int32)), vi (((ia.toUInt32 >>> ((8 : Int32) &&& 31).toUInt32).toInt32) &&& (255 : Int32)), vi (((ia.toUInt32 >>> ((16 : Int32) &&& 31).toUInt32).toInt32) &&& (255 : Int32)), vi (((ia.toUInt32 >>> ((24 : Int32) &&& 31).toUInt32).toInt32) &&& (255 : Int32)), vi w154_0, vi w156_0, vi w158_0, vi w160_0, vi w162_0, vi w164_0, .unset, .unset, .unset, .unset, .unset, .unset] [(.int (1 : Int32))]))
                  exact jn166 T164 ((1 : Int32)) X164 e164  (Or.inr ⟨hc603, rfl⟩)
              by_cases hc604 : (((is.toUInt32 >>> ((10 : Int32) &&& 31).toUInt32).toInt32) &&& (1 : Int32)) = (0 : Int32)
              · refine Go.by' (fun t k => (XS.ifYes X162.here hx rfl (pc0 := 181) (pc' := 188) rfl (hb hby at_181) rfl ((if0 _ _).trans (teq hc604).1) (by decide) (by decide) (XS.iconst X162.here hx rfl (hb hby at_188) k))) ?_
                show Go p.tables e below Pf (T162.setTop (mkF m 189 #[vi is, vi ia, vi ib, vi ((is &&& (3 : Int32)) % (3 : Int32)), vi ((((is.toUInt32 >>> ((2 : Int32) &&& 31).toUInt32).toInt32) &&& (3 : Int32)) % (3 : Int32)), vi w152_0, vi (ia &&& (255 : Int32)), vi (((ia.toUInt32 >>> ((8 : Int32) &&& 31).toUInt32).toInt32) &&& (255 : Int32)), vi (((ia.toUInt32 >>> ((16 : Int32) &&& 31).toUInt32).toInt32) &&& (255 : Int32)), vi (((ia.toUInt32 >>> ((24 : Int32) &&& 31).toUInt32).toInt32) &&& (255 : Int32)), vi w154_0, vi w156_0, vi w158_0, vi w160_0, vi w162_0, .unset, .unset, .unset, .unset, .unset, .unset, .unset] [(.int (0 : Int32))]))
                exact jn164 T162 ((0 : Int32)) X162 e162  (Or.inl ⟨hc604, rfl⟩)
              · refine Go.by' (fun t k => (XS.ifNo X162.here hx rfl (hb hby at_181) rfl ((if0 _ _).trans (feq hc604).1) (XS.iconst X162.here hx rfl (hb hby at_184) (XS.goto X162.here hx rfl (pc0 := 185) (pc' := 189) rfl (hb hby at_185) (by decide) (by decide) k)))) ?_
                show Go p.tables e below Pf (T162.setTop (mkF m 189 #[vi is, vi ia, vi ib, vi ((is &&& (3 : Int32)) % (3 : Int32)), vi ((((is.toUInt32 >>> ((2 : Int32) &&& 31).toUInt32).toInt32) &&& (3 : Int32)) % (3 : Int32)), vi w152_0, vi (ia &&& (255 : Int32)), vi (((ia.toUInt32 >>> ((8 : Int32) &&& 31).toUInt32).toInt32) &&& (255 : Int32)), vi (((ia.toUInt32 >>> ((16 : Int32) &&& 31).toUInt32).toInt32) &&& (255 : Int32)), vi (((ia.toUInt32 >>> ((24 : Int32) &&& 31).toUInt32).toInt32) &&& (255 : Int32)), vi w154_0, vi w156_0, vi w158_0, vi w160_0, vi w162_0, .unset, .unset, .unset, .unset, .unset, .unset, .unset] [(.int (1 : Int32))]))
                exact jn164 T162 ((1 : Int32)) X162 e162  (Or.inr ⟨hc604, rfl⟩)
            by_cases hc605 : (((is.toUInt32 >>> ((9 : Int32) &&& 31).toUInt32).toInt32) &&& (1 : Int32)) = (0 : Int32)
            · refine Go.by' (fun t k => (XS.ifYes X160.here hx rfl (pc0 := 165) (pc' := 172) rfl (hb hby at_165) rfl ((if0 _ _).trans (teq hc605).1) (by decide) (by decide) (XS.iconst X160.here hx rfl (hb hby at_172) k))) ?_
              show Go p.tables e below Pf (T160.setTop (mkF m 173 #[vi is, vi ia, vi ib, vi ((is &&& (3 : Int32)) % (3 : Int32)), vi ((((is.toUInt32 >>> ((2 : Int32) &&& 31).toUInt32).toInt32) &&& (3 : Int32)) % (3 : Int32)), vi w152_0, vi (ia &&& (255 : Int32)), vi (((ia.toUInt32 >>> ((8 : Int32) &&& 31).toUInt32).toInt32) &&& (255 : Int32)), vi (((ia.toUInt32 >>> ((16 : Int32) &&& 31).toUInt32).toInt32) &&& (255 : Int32)), vi (((ia.toUInt32 >>> ((24 : Int32) &&& 31).toUInt32).toInt32) &&& (255 : Int32)), vi w154_0, vi w156_0, vi w158_0, vi w160_0, .unset, .unset, .unset, .unset, .unset, .unset, .unset, .unset] [(.int (0 : Int32))]))
              exact jn162 T160 ((0 : Int32)) X160 e160  (Or.inl ⟨hc605, rfl⟩)
            · refine Go.by' (fun t k => (XS.ifNo X160.here hx rfl (hb hby at_165) rfl ((if0 _ _).trans (feq hc605).1) (XS.iconst X160.here hx rfl (hb hby at_168) (XS.goto X160.here hx rfl (pc0 := 169) (pc' := 173) rfl (hb hby at_169) (by decide) (by decide) k)))) ?_
              show Go p.tables e below Pf (T160.setTop (mkF m 173 #[vi is, vi ia, vi ib, vi ((is &&& (3 : Int32)) % (3 : Int32)), vi ((((is.toUInt32 >>> ((2 : Int32) &&& 31).toUInt32).toInt32) &&& (3 : Int32)) % (3 : Int32)), vi w152_0, vi (ia &&& (255 : Int32)), vi (((ia.toUInt32 >>> ((8 : Int32) &&& 31).toUInt32).toInt32) &&& (255 : Int32)), vi (((ia.toUInt32 >>> ((16 : Int32) &&& 31).toUInt32).toInt32) &&& (255 : Int32)), vi (((ia.toUInt32 >>> ((24 : Int32) &&& 31).toUInt32).toInt32) &&& (255 : Int32)), vi w154_0, vi w156_0, vi w158_0, vi w160_0, .unset, .unset, .unset, .unset, .unset, .unset, .unset, .unset] [(.int (1 : Int32))]))
              exact jn162 T160 ((1 : Int32)) X160 e160  (Or.inr ⟨hc605, rfl⟩)
          by_cases hc606 : (((is.toUInt32 >>> ((8 : Int32) &&& 31).toUInt32).toInt32) &&& (1 : Int32)) = (0 : Int32)
          · refine Go.by' (fun t k => (XS.ifYes X158.here hx rfl (pc0 := 141) (pc' := 149) rfl (hb hby at_141) rfl ((if0 _ _).trans (teq hc606).1) (by decide) (by decide) (XS.iloadN X158.here hx rfl (hb hby at_149) rfl (XS.bipush X158.here hx rfl (hb hby at_150) (XS.iushr X158.here hx rfl (hb hby at_152) rfl (XS.sipush X158.here hx rfl (hb hby at_153) (XS.iand X158.here hx rfl (hb hby at_156) rfl k))))))) ?_
            show Go p.tables e below Pf (T158.setTop (mkF m 157 #[vi is, vi ia, vi ib, vi ((is &&& (3 : Int32)) % (3 : Int32)), vi ((((is.toUInt32 >>> ((2 : Int32) &&& 31).toUInt32).toInt32) &&& (3 : Int32)) % (3 : Int32)), vi w152_0, vi (ia &&& (255 : Int32)), vi (((ia.toUInt32 >>> ((8 : Int32) &&& 31).toUInt32).toInt32) &&& (255 : Int32)), vi (((ia.toUInt32 >>> ((16 : Int32) &&& 31).toUInt32).toInt32) &&& (255 : Int32)), vi (((ia.toUInt32 >>> ((24 : Int32) &&& 31).toUInt32).toInt32) &&& (255 : Int32)), vi w154_0, vi w156_0, vi w158_0, .unset, .unset, .unset, .unset, .unset, .unset, .unset, .unset, .unset] [(.int (((ib.toUInt32 >>> ((24 : Int32) &&& 31).toUInt32).toInt32) &&& (255 : Int32)))]))
            exact jn160 T158 ((((ib.toUInt32 >>> ((24 : Int32) &&& 31).toUInt32).toInt32) &&& (255 : Int32))) X158 e158  (Or.inl ⟨hc606, rfl⟩)
          · refine Go.by' (fun t k => (XS.ifNo X158.here hx rfl (hb hby at_141) rfl ((if0 _ _).trans (feq hc606).1) (XS.iload X158.here hx rfl (hb hby at_144) rfl (XS.goto X158.here hx rfl (pc0 := 146) (pc' := 157) rfl (hb hby at_146) (by decide) (by decide) k)))) ?_
            show Go p.tables e below Pf (T158.setTop (mkF m 157 #[vi is, vi ia, vi ib, vi ((is &&& (3 : Int32)) % (3 : Int32)), vi ((((is.toUInt32 >>> ((2 : Int32) &&& 31).toUInt32).toInt32) &&& (3 : Int32)) % (3 : Int32)), vi w152_0, vi (ia &&& (255 : Int32)), vi (((ia.toUInt32 >>> ((8 : Int32) &&& 31).toUInt32).toInt32) &&& (255 : Int32)), vi (((ia.toUInt32 >>> ((16 : Int32) &&& 31).toUInt32).toInt32) &&& (255 : Int32)), vi (((ia.toUInt32 >>> ((24 : Int32) &&& 31).toUInt32).toInt32) &&& (255 : Int32)), vi w154_0, vi w156_0, vi w158_0, .unset, .unset, .unset, .unset, .unset, .unset, .unset, .unset, .unset] [(.int (((ia.toUInt32 >>> ((24 : Int32) &&& 31).toUInt32).toInt32) &&& (255 : Int32)))]))
            exact jn160 T158 ((((ia.toUInt32 >>> ((24 : Int32) &&& 31).toUInt32).toInt32) &&& (255 : Int32))) X158 e158  (Or.inr ⟨hc606, rfl⟩)
        by_cases hc607 : (((is.toUInt32 >>> ((7 : Int32) &&& 31).toUInt32).toInt32) &&& (1 : Int32)) = (0 : Int32)
        · refine Go.by' (fun t k => (XS.ifYes X156.here hx rfl (pc0 := 117) (pc' := 125) rfl (hb hby at_117) rfl ((if0 _ _).trans (teq hc607).1) (by decide) (by decide) (XS.iloadN X156.here hx rfl (hb hby at_125) rfl (XS.bipush X156.here hx rfl (hb hby at_126) (XS.iushr X156.here hx rfl (hb hby at_128) rfl (XS.sipush X156.here hx rfl (hb hby at_129) (XS.iand X156.here hx rfl (hb hby at_132) rfl k))))))) ?_
          show Go p.tables e below Pf (T156.setTop (mkF m 133 #[vi is, vi ia, vi ib, vi ((is &&& (3 : Int32)) % (3 : Int32)), vi ((((is.toUInt32 >>> ((2 : Int32) &&& 31).toUInt32).toInt32) &&& (3 : Int32)) % (3 : Int32)), vi w152_0, vi (ia &&& (255 : Int32)), vi (((ia.toUInt32 >>> ((8 : Int32) &&& 31).toUInt32).toInt32) &&& (255 : Int32)), vi (((ia.toUInt32 >>> ((16 : Int32) &&& 31).toUInt32).toInt32) &&& (255 : Int32)), vi (((ia.toUInt32 >>> ((24 : Int32) &&& 31).toUInt32).toInt32) &&& (255 : Int32)), vi w154_0, vi w156_0, .unset, .unset, .unset, .unset, .unset, .unset, .unset, .unset, .unset, .unset] [(.int (((ib.toUInt32 >>> ((16 : Int32) &&& 31).toUInt32).toInt32) &&& (255 : Int32)))]))
          exact jn158 T156 ((((ib.toUInt32 >>> ((16 : Int32) &&& 31).toUInt32).toInt32) &&& (255 : Int32))) X156 e156  (Or.inl ⟨hc607, rfl⟩)
        · refine Go.by' (fun t k => (XS.ifNo X156.here hx rfl (hb hby at_117) rfl ((if0 _ _).trans (feq hc607).1) (XS.iload X156.here hx rfl (hb hby at_120) rfl (XS.goto X156.here hx rfl (pc0 := 122) (pc' := 133) rfl (hb hby at_122) (by decide) (by decide) k)))) ?_
          show Go p.tables e below Pf (T156.setTop (mkF m 133 #[vi is, vi ia, vi ib, vi ((is &&& (3 : Int32)) % (3 : Int32)), vi ((((is.toUInt32 >>> ((2 : Int32) &&& 31).toUInt32).toInt32) &&& (3 : Int32)) % (3 : Int32)), vi w152_0, vi (ia &&& (255 : Int32)), vi (((ia.toUInt32 >>> ((8 : Int32) &&& 31).toUInt32).toInt32) &&& (255 : Int32)), vi (((ia.toUInt32 >>> ((16 : Int32) &&& 31).toUInt32).toInt32) &&& (255 : Int32)), vi (((ia.toUInt32 >>> ((24 : Int32) &&& 31).toUInt32).toInt32) &&& (255 : Int32)), vi w154_0, vi w156_0, .unset, .unset, .unset, .unset, .unset, .unset, .unset, .unset, .unset, .unset] [(.int (((ia.toUInt32 >>> ((16 : Int32) &&& 31).toUInt32).toInt32) &&& (255 : Int32)))]))
          exact jn158 T156 ((((ia.toUInt32 >>> ((16 : Int32) &&& 31).toUInt32).toInt32) &&& (255 : Int32))) X156 e156  (Or.inr ⟨hc607, rfl⟩)
      by_cases hc608 : (((is.toUInt32 >>> ((6 : Int32) &&& 31).toUInt32).toInt32) &&& (1 : Int32)) = (0 : Int32)
      · refine Go.by' (fun t k => (XS.ifYes X154.here hx rfl (pc0 := 93) (pc' := 101) rfl (hb hby at_93) rfl ((if0 _ _).trans (teq hc608).1) (by decide) (by decide) (XS.iloadN X154.here hx rfl (hb hby at_101) rfl (XS.bipush X154.here hx rfl (hb hby at_102) (XS.iushr X154.here hx rfl (hb hby at_104) rfl (XS.sipush X154.here hx rfl (hb hby at_105) (XS.iand X154.here hx rfl (hb hby at_108) rfl k))))))) ?_
        show Go p.tables e below Pf (T154.setTop (mkF m 109 #[vi is, vi ia, vi ib, vi ((is &&& (3 : Int32)) % (3 : Int32)), vi ((((is.toUInt32 >>> ((2 : Int32) &&& 31).toUInt32).toInt32) &&& (3 : Int32)) % (3 : Int32)), vi w152_0, vi (ia &&& (255 : Int32)), vi (((ia.toUInt32 >>> ((8 : Int32) &&& 31).toUInt32).toInt32) &&& (255 : Int32)), vi (((ia.toUInt32 >>> ((16 : Int32) &&& 31).toUInt32).toInt32) &&& (255 : Int32)), vi (((ia.toUInt32 >>> ((24 : Int32) &&& 31).toUInt32).toInt32) &&& (255 : Int32)), vi w154_0, .unset, .unset, .unset, .unset, .unset, .unset, .unset, .unset, .unset, .unset, .unset] [(.int (((ib.toUInt32 >>> ((8 : Int32) &&& 31).toUInt32).toInt32) &&& (255 : Int32)))]))
        exact jn156 T154 ((((ib.toUInt32 >>> ((8 : Int32) &&& 31).toUInt32).toInt32) &&& (255 : Int32))) X154 e154  (Or.inl ⟨hc608, rfl⟩)
      · refine Go.by' (fun t k => (XS.ifNo X154.here hx rfl (hb hby at_93) rfl ((if0 _ _).trans (feq hc608).1) (XS.iload X154.here hx rfl (hb hby at_96) rfl (XS.goto X154.here hx rfl (pc0 := 98) (pc' := 109) rfl (hb hby at_98) (by decide) (by decide) k)))) ?_
        show Go p.tables e below Pf (T154.setTop (mkF m 109 #[vi is, vi ia, vi ib, vi ((is &&& (3 : Int32)) % (3 : Int32)), vi ((((is.toUInt32 >>> ((2 : Int32) &&& 31).toUInt32).toInt32) &&& (3 : Int32)) % (3 : Int32)), vi w152_0, vi (ia &&& (255 : Int32)), vi (((ia.toUInt32 >>> ((8 : Int32) &&& 31).toUInt32).toInt32) &&& (255 : Int32)), vi (((ia.toUInt32 >>> ((16 : Int32) &&& 31).toUInt32).toInt32) &&& (255 : Int32)), vi (((ia.toUInt32 >>> ((24 : Int32) &&& 31).toUInt32).toInt32) &&& (255 : Int32)), vi w154_0, .unset, .unset, .unset, .unset, .unset, .unset, .unset, .unset, .unset, .unset, .unset] [(.int (((ia.toUInt32 >>> ((8 : Int32) &&& 31).toUInt32).toInt32) &&& (255 : Int32)))]))
        exact jn156 T154 ((((ia.toUInt32 >>> ((8 : Int32) &&& 31).toUInt32).toInt32) &&& (255 : Int32))) X154 e154  (Or.inr ⟨hc608, rfl⟩)
    by_cases hc609 : (((is.toUInt32 >>> ((5 : Int32) &&& 31).toUInt32).toInt32) &&& (1 : Int32)) = (0 : Int32)
    · refine Go.by' (fun t k => (XS.ifYes X152.here hx rfl (pc0 := 72) (pc' := 80) rfl (hb hby at_72) rfl ((if0 _ _).trans (teq hc609).1) (by decide) (by decide) (XS.iloadN X152.here hx rfl (hb hby at_80) rfl (XS.sipush X152.here hx rfl (hb hby at_81) (XS.iand X152.here hx rfl (hb hby at_84) rfl k))))) ?_
      show Go p.tables e below Pf (T152.setTop (mkF m 85 #[vi is, vi ia, vi ib, vi ((is &&& (3 : Int32)) % (3 : Int32)), vi ((((is.toUInt32 >>> ((2 : Int32) &&& 31).toUInt32).toInt32) &&& (3 : Int32)) % (3 : Int32)), vi w152_0, vi (ia &&& (255 : Int32)), vi (((ia.toUInt32 >>> ((8 : Int32) &&& 31).toUInt32).toInt32) &&& (255 : Int32)), vi (((ia.toUInt32 >>> ((16 : Int32) &&& 31).toUInt32).toInt32) &&& (255 : Int32)), vi (((ia.toUInt32 >>> ((24 : Int32) &&& 31).toUInt32).toInt32) &&& (255 : Int32)), .unset, .unset, .unset, .unset, .unset, .unset, .unset, .unset, .unset, .unset, .unset, .unset] [(.int (ib &&& (255 : Int32)))]))
      exact jn154 T152 ((ib &&& (255 : Int32))) X152 e152  (Or.inl ⟨hc609, rfl⟩)
    · refine Go.by' (fun t k => (XS.ifNo X152.here hx rfl (hb hby at_72) rfl ((if0 _ _).trans (feq hc609).1) (XS.iload X152.here hx rfl (hb hby at_75) rfl (XS.goto X152.here hx rfl (pc0 := 77) (pc' := 85) rfl (hb hby at_77) (by decide) (by decide) k)))) ?_
      show Go p.tables e below Pf (T152.setTop (mkF m 85 #[vi is, vi ia, vi ib, vi ((is &&& (3 : Int32)) % (3 : Int32)), vi ((((is.toUInt32 >>> ((2 : Int32) &&& 31).toUInt32).toInt32) &&& (3 : Int32)) % (3 : Int32)), vi w152_0, vi (ia &&& (255 : Int32)), vi (((ia.toUInt32 >>> ((8 : Int32) &&& 31).toUInt32).toInt32) &&& (255 : Int32)), vi (((ia.toUInt32 >>> ((16 : Int32) &&& 31).toUInt32).toInt32) &&& (255 : Int32)), vi (((ia.toUInt32 >>> ((24 : Int32) &&& 31).toUInt32).toInt32) &&& (255 : Int32)), .unset, .unset, .unset, .unset, .unset, .unset, .unset, .unset, .unset, .unset, .unset, .unset] [(.int (ia &&& (255 : Int32)))]))
      exact jn154 T152 ((ia &&& (255 : Int32))) X152 e152  (Or.inr ⟨hc609, rfl⟩)
  by_cases hc610 : (((is.toUInt32 >>> ((4 : Int32) &&& 31).toUInt32).toInt32) &&& (1 : Int32)) = (0 : Int32)
  · refine Go.by' (fun t k => (XS.ifYes X0.here hx rfl (pc0 := 20) (pc' := 27) rfl (hb hby at_20) rfl ((if0 _ _).trans (teq hc610).1) (by decide) (by decide) (XS.iconst X0.here hx rfl (hb hby at_27) k))) ?_
    show Go p.tables e below Pf (s₁.setTop (mkF m 28 #[vi is, vi ia, vi ib, vi ((is &&& (3 : Int32)) % (3 : Int32)), vi ((((is.toUInt32 >>> ((2 : Int32) &&& 31).toUInt32).toInt32) &&& (3 : Int32)) % (3 : Int32)), .unset, .unset, .unset, .unset, .unset, .unset, .unset, .unset, .unset, .unset, .unset, .unset, .unset, .unset, .unset, .unset, .unset] [(.int (0 : Int32))]))
    exact jn152 s₁ ((0 : Int32)) X0 e0  (Or.inl ⟨hc610, rfl⟩)
  · refine Go.by' (fun t k => (XS.ifNo X0.here hx rfl (hb hby at_20) rfl ((if0 _ _).trans (feq hc610).1) (XS.iconst X0.here hx rfl (hb hby at_23) (XS.goto X0.here hx rfl (pc0 := 24) (pc' := 28) rfl (hb hby at_24) (by decide) (by decide) k)))) ?_
    show Go p.tables e below Pf (s₁.setTop (mkF m 28 #[vi is, vi ia, vi ib, vi ((is &&& (3 : Int32)) % (3 : Int32)), vi ((((is.toUInt32 >>> ((2 : Int32) &&& 31).toUInt32).toInt32) &&& (3 : Int32)) % (3 : Int32)), .unset, .unset, .unset, .unset, .unset, .unset, .unset, .unset, .unset, .unset, .unset, .unset, .unset, .unset, .unset, .unset, .unset] [(.int (1 : Int32))]))
    exact jn152 s₁ ((1 : Int32)) X0 e0  (Or.inr ⟨hc610, rfl⟩)
set_option maxRecDepth 65536 in
set_option maxHeartbeats 40000000 in
theorem comes_1 {Post : Tables → Env → Array Value → State → Outcome → State → Prop} (hpost : ∀ tb e args s v u, (limb_1_1.after args s (.returned v) u = true ∧ limb_1_2.after args s (.returned v) u = true ∧ True) → FrameEnd s (.returned v) u (Jvm.fieldLocs frame_1_writes args s ++ Jvm.arrayLocs frame_1_arrays args s ++ Jvm.staticLocs frame_1_statics s) 72 256 → Post tb e args s (.returned v) u) :
    ArmFor flags0 classFile x code maxLocals ret World_1 tables_1 room_1 Calls_1 rest_1 Pre_1 Post := by
  intro l hfl _ _ p e ha hc hk s m args below hf hA hF happ hP
  obtain ⟨hcalls, hrest, hpre⟩ := hP
  obtain ⟨-, -, -, hnamed, -, -, -, hat⟩ := (Spec.applies_iff hf).mp happ
  obtain ⟨hg, hn⟩ := and_e (Cond.before_iff.mp (show (Jvm.Cond.and given_1 narrow_1).before args s = true from hpre))
  obtain ⟨ga1, gb1⟩ := and_e hg
  obtain ⟨ga2, gb2⟩ := and_e gb1
  obtain ⟨ga3, gb3⟩ := and_e gb2
  obtain ⟨w0, w1, w2, rfl⟩ : ∃ w0 w1 w2 : Value, args = #[w0, w1, w2] := by
    have hs : args.size = 3 := by simpa [Cond.value, given_1] using ga1
    obtain ⟨L⟩ := args
    match L, hs with
    | [w0, w1, w2], _ => exact ⟨w0, w1, w2, rfl⟩
  have hw := fun d (hd : d ∈ tables_1) => atoms_spec (ws := Jvm.Cond.code x code maxLocals ret :: tables_1) hat d (List.mem_cons_of_mem _ hd)
  have hfit : Fit s := fun {y c} hc i hi => by
    obtain ⟨ha, rfl⟩ := Array.getElem?_eq_some_iff.mp hc
    have q := List.all_eq_true.mp ((Array.all_eq_true_iff_forall_mem.mp hF) _ (Array.getElem_mem ha)) i (List.mem_range.mpr hi)
    simpa [Array.getElem?_eq_getElem hi] using q
  obtain ⟨hsets, hown0⟩ := atoms_of _ (rest_1_c_eq ▸ (show rest_1_c.before _ s = true from hrest))
  obtain ⟨is, ei0⟩ := is_v ga2
  obtain rfl : w0 = (.int is) := Option.some.inj ei0
  obtain ⟨ia, ei1⟩ := is_v ga3
  obtain rfl : w1 = (.int ia) := Option.some.inj ei1
  obtain ⟨ib, ei2⟩ := is_v gb3
  obtain rfl : w2 = (.int ib) := Option.some.inj ei2
  obtain ⟨wD, evwD⟩ := exa_v (Cond.before_iff.mp (hsets _ (List.mem_of_getElem? (i := 7) rfl)))
  have SwD := Sta.start evwD (Or.inr ⟨(hw _ (List.mem_of_getElem? (i := 2) rfl)), (hsets _ (List.mem_of_getElem? (i := 2) rfl))⟩)
  have AwD := Exa.start evwD (Cond.before_iff.mp (hsets _ (List.mem_of_getElem? (i := 7) rfl)))
  obtain ⟨cD, ArD⟩ := Arr.start evwD (Cond.before_iff.mp (hsets _ (List.mem_of_getElem? (i := 6) rfl)))
  obtain ⟨zD, lD⟩ := own_len evwD ArD (eqv_i (Term.int_eval _) (Cond.before_iff.mp (hsets _ (List.mem_of_getElem? (i := 8) rfl))))
  have VD : Arv s s.heap wD cD.cls (.object "java/lang/Object") (0 : Int32) [] Value.null := Arv.start hfit ArD zD lD (by decide) rfl trivial
  obtain ⟨kD, hkD⟩ : ∃ k, k = cD.cls := ⟨_, rfl⟩
  rw [← hkD] at VD
  obtain ⟨vcs, evcs⟩ := is_v (Cond.before_iff.mp (hsets _ (List.mem_of_getElem? (i := 10) rfl)))
  have Scs := Sta.start evcs (Or.inl (hsets _ (List.mem_of_getElem? (i := 9) rfl)))
  have Ncs : ¬ (vcs = (0 : Int32)) := gotF (Cond.eq_ints evcs (Term.int_eval _)) (not_v (Cond.before_iff.mp (hsets _ (List.mem_of_getElem? (i := 11) rfl))))
  have G : Gh s wD kD vcs := ⟨SwD, AwD, VD, Scs, Ncs⟩
  obtain ⟨n, o, h1, h2, h3, _, L, rfl, hQ, hq⟩ := rm0 l s _ hw tables_1 wD kD vcs G is ia ib s.heap s.heap.size (Old.start s)  p e ha hc hk s m _ below hf ((Spec.applies_iff_loose hf).mp happ).1 ⟨rfl, State.Warmed39.refl s, rfl⟩ trivial
  obtain ⟨rfl, N, -⟩ := hQ
  refine ⟨n, _, h1, h2, h3, hpost _ _ _ _ _ _ ⟨Cond.after_iff.mpr rfl, Cond.after_iff.mpr (eq_i res_at (Term.int_eval (1)) rfl), trivial⟩ ⟨hq.1, hq.2.1, (hq.2.2.sift fun y hy => Or.inr (N y hy)).mono (by decide) (by decide)⟩⟩
theorem main_1_1 : Claimed_1_1 := comes_1 fun _ _ _ _ _ _ h hF => ⟨h.1, hF⟩
theorem main_1_2 : Claimed_1_2 := comes_1 fun _ _ _ _ _ _ h hF => ⟨h.2.1, hF⟩
end Jvm.Pilot.@@N@@
namespace Jvm.Pilot.@@N@@
open Jvm Jvm.ClassFile Sem Op Lib Jvm.Free Jvm.Stand Jvm.Pilot.@@N@@.Jvm.D
/-! MADE BY PROGRAM (witnessworld.py) out of the Statement's table words and the real class files: 32 classes; the members and pool entries that the words name. The judged class is class 1, her method 2. -/
namespace start1
open Jvm.ClassFile
def u (s : String) : CpInfo := .utf8 (stringToUtf16 s)
/-- a pool by its gaps: so many unusable entries, then the entry; so many at the end -/
def gap : Nat → List CpInfo → List CpInfo
  | 0, r => r
  | n + 1, r => .unusable :: gap n r
def poolList (es : List (Nat × CpInfo)) (last : Nat) : List CpInfo := es.foldr (fun e r => gap e.1 (e.2 :: r)) (gap last [])
def pool (es : List (Nat × CpInfo)) (last : Nat) : Array CpInfo := ⟨poolList es last⟩
def fileOf (pool : Array CpInfo) (this : Nat) (attrs : Array Attribute := #[]) (ms : Array MethodInfo := #[]) (fl : Nat := 33) (sup : Nat := 0) (ifs : Array Nat := #[]) (fds : Array FieldInfo := #[]) : ClassFile where
  minorVersion := 0
  majorVersion := 65
  constantPool := pool
  accessFlags := fl
  thisClass := this
  superClass := sup
  interfaces := ifs
  fields := fds
  methods := ms
  attributes := attrs
def plain (name : String) (sup : Option ClassId) : Class where
  name := name
  kind := .ordinary
  loader := none
  accessFlags := 33
  super := sup
  interfaces := #[]
  cf := none
  fields := #[]
  methods := #[]
  instanceTypes := #[]
  staticTypes := #[]
  resolved := #[]
  callSites := []
  init := .initialized
  statics := none
  mirror := none

def pool0 : Array CpInfo := pool [(5, u "<init>"), (0, u "()V"), (1, .class_ 10), (1, u "java/lang/Object")] 113

def k0c0 : Code := { maxStack := 0, maxLocals := 1, code := object_method_1_code, exceptionTable := #[], attributes := #[] }
def k0m0 : Method := { name := "<init>", desc := "()V", sig := { parameters := [], returnType := none }, accessFlags := 1, code := some k0c0 }
/-- java/lang/Object -/
def k0 : Class := { plain "java/lang/Object" none with
  accessFlags := 33
  interfaces := #[]
  cf := some (fileOf pool0 8 #[] #[{ accessFlags := 1, nameIndex := 5, descriptorIndex := 6, attributes := #[] }] 33 0 #[] #[])
  fields := #[]
  methods := #[k0m0]
  instanceTypes := #[]
  staticTypes := #[]
  resolved := Array.replicate 124 none
  statics := none }

def pool1 : Array CpInfo := pool [(2, .class_ 4), (0, .nameAndType 5 6), (0, u "java/lang/Object"), (0, u "<init>"), (0, u "()V"), (0, .class_ 8), (0, u "java/lang/String"), (0, .methodref 7 10), (0, .nameAndType 5 11), (0, u "([C)V"), (0, .class_ 13), (0, u "java/util/ArrayList"), (0, .methodref 12 3), (0, .class_ 16), (0, u "com/example/slatewipe/slatewipe/vendors/mariadb/Columns$Column"), (0, .methodref 18 19), (0, .class_ 20), (0, .nameAndType 21 22), (0, u "com/example/slatewipe/slatewipe/vendors/mariadb/ColumnSameTypesPinLaw"), (0, u "str"), (0, u "(I)Ljava/lang/String;"), (0, .methodref 15 24), (0, .nameAndType 5 25), (0, u "(Ljava/lang/String;Ljava/lang/String;Z)V"), (0, .interfaceMethodref 27 28), (0, .class_ 29), (0, .nameAndType 30 31), (0, u "java/util/List"), (0, u "add"), (0, u "(Ljava/lang/Object;)Z"), (0, .methodref 15 33), (0, .nameAndType 34 35), (0, u "sameTypes"), (0, u "(Ljava/util/List;Ljava/util/List;)Z"), (2, u "law"), (0, u "(III)Z")] 7

def k1m0 : Method := { name := "<init>", desc := "()V", sig := { parameters := [], returnType := none }, accessFlags := 2, code := none }
def k1c1 : Code := { maxStack := 6, maxLocals := 1, code := method_2_code, exceptionTable := #[], attributes := #[] }
def k1m1 : Method := { name := "str", desc := "(I)Ljava/lang/String;", sig := { parameters := [.int], returnType := some (.object "java/lang/String") }, accessFlags := 10, code := some k1c1 }
def k1c2 : Code := { maxStack := 6, maxLocals := 22, code := code, exceptionTable := #[], attributes := #[] }
def k1m2 : Method := { name := "law", desc := "(III)Z", sig := { parameters := [.int, .int, .int], returnType := some .boolean }, accessFlags := 9, code := some k1c2 }
/-- com/example/slatewipe/slatewipe/vendors/mariadb/ColumnSameTypesPinLaw -/
def k1 : Class := { plain "com/example/slatewipe/slatewipe/vendors/mariadb/ColumnSameTypesPinLaw" (some 0) with
  accessFlags := 49
  interfaces := #[]
  cf := some (fileOf pool1 18 #[] #[{ accessFlags := 2, nameIndex := 5, descriptorIndex := 6, attributes := #[] }, { accessFlags := 10, nameIndex := 21, descriptorIndex := 22, attributes := #[] }, { accessFlags := 9, nameIndex := 38, descriptorIndex := 39, attributes := #[] }] 49 2 #[] #[])
  fields := #[]
  methods := #[k1m0, k1m1, k1m2]
  instanceTypes := #[]
  staticTypes := #[]
  resolved := Array.replicate 47 none
  statics := none }

def pool2 : Array CpInfo := pool [(8, .class_ 10), (1, u "java/lang/Iterable"), (24, .class_ 36), (0, u "java/lang/Object")] 25

/-- java/lang/Iterable -/
def k2 : Class := { plain "java/lang/Iterable" (some 0) with
  accessFlags := 1537
  interfaces := #[]
  cf := some (fileOf pool2 8 #[] #[] 1537 35 #[] #[])
  fields := #[]
  methods := #[]
  instanceTypes := #[]
  staticTypes := #[]
  resolved := Array.replicate 62 none
  statics := none }

def pool3 : Array CpInfo := pool [(10, .class_ 12), (1, u "java/util/Collection"), (47, .class_ 61), (0, u "java/lang/Object"), (0, .class_ 63), (0, u "java/lang/Iterable")] 51

/-- java/util/Collection -/
def k3 : Class := { plain "java/util/Collection" (some 0) with
  accessFlags := 1537
  interfaces := #[2]
  cf := some (fileOf pool3 10 #[] #[] 1537 60 #[62] #[])
  fields := #[]
  methods := #[]
  instanceTypes := #[]
  staticTypes := #[]
  resolved := Array.replicate 115 none
  statics := none }

def pool4 : Array CpInfo := pool [(1, .methodref 2 3), (0, .class_ 4), (0, .nameAndType 5 6), (0, u "java/lang/Object"), (0, u "<init>"), (0, u "()V"), (1, .class_ 10), (1, u "java/util/AbstractCollection"), (66, .class_ 78), (0, u "java/util/Collection")] 81

def k4c0 : Code := { maxStack := 1, maxLocals := 1, code := jdk_22_method_1_code, exceptionTable := #[], attributes := #[] }
def k4m0 : Method := { name := "<init>", desc := "()V", sig := { parameters := [], returnType := none }, accessFlags := 4, code := some k4c0 }
/-- java/util/AbstractCollection -/
def k4 : Class := { plain "java/util/AbstractCollection" (some 0) with
  accessFlags := 1057
  interfaces := #[3]
  cf := some (fileOf pool4 8 #[] #[{ accessFlags := 4, nameIndex := 5, descriptorIndex := 6, attributes := #[] }] 1057 2 #[77] #[])
  fields := #[]
  methods := #[k4m0]
  instanceTypes := #[]
  staticTypes := #[]
  resolved := Array.replicate 160 none
  statics := none }

def pool5 : Array CpInfo := pool [(8, .class_ 10), (1, u "java/util/SequencedCollection"), (15, .class_ 27), (0, u "java/lang/Object"), (0, .class_ 29), (0, u "java/util/Collection")] 27

/-- java/util/SequencedCollection -/
def k5 : Class := { plain "java/util/SequencedCollection" (some 0) with
  accessFlags := 1537
  interfaces := #[3]
  cf := some (fileOf pool5 8 #[] #[] 1537 26 #[28] #[])
  fields := #[]
  methods := #[]
  instanceTypes := #[]
  staticTypes := #[]
  resolved := Array.replicate 57 none
  statics := none }

def pool6 : Array CpInfo := pool [(8, .class_ 10), (1, u "java/util/List"), (49, u "add"), (3, u "(Ljava/lang/Object;)Z"), (10, u "get"), (0, u "(I)Ljava/lang/Object;"), (2, u "size"), (0, u "()I"), (22, .class_ 104), (0, u "java/lang/Object"), (15, .class_ 121), (0, u "java/util/SequencedCollection")] 129

def k6m0 : Method := { name := "size", desc := "()I", sig := { parameters := [], returnType := some .int }, accessFlags := 1025, code := none }
def k6m1 : Method := { name := "add", desc := "(Ljava/lang/Object;)Z", sig := { parameters := [(.object "java/lang/Object")], returnType := some .boolean }, accessFlags := 1025, code := none }
def k6m2 : Method := { name := "get", desc := "(I)Ljava/lang/Object;", sig := { parameters := [.int], returnType := some (.object "java/lang/Object") }, accessFlags := 1025, code := none }
/-- java/util/List -/
def k6 : Class := { plain "java/util/List" (some 0) with
  accessFlags := 1537
  interfaces := #[5]
  cf := some (fileOf pool6 8 #[] #[{ accessFlags := 1025, nameIndex := 79, descriptorIndex := 80, attributes := #[] }, { accessFlags := 1025, nameIndex := 60, descriptorIndex := 64, attributes := #[] }, { accessFlags := 1025, nameIndex := 75, descriptorIndex := 76, attributes := #[] }] 1537 103 #[120] #[])
  fields := #[]
  methods := #[k6m0, k6m1, k6m2]
  instanceTypes := #[]
  staticTypes := #[]
  resolved := Array.replicate 251 none
  statics := none }

def pool7 : Array CpInfo := pool [(1, .methodref 2 3), (0, .class_ 4), (0, .nameAndType 5 6), (0, u "java/util/AbstractCollection"), (0, u "<init>"), (0, u "()V"), (0, .fieldref 8 9), (0, .class_ 10), (0, .nameAndType 11 12), (0, u "java/util/AbstractList"), (0, u "modCount"), (0, u "I"), (64, .class_ 78), (0, u "java/util/AbstractList$Itr"), (3, .class_ 83), (0, u "java/util/AbstractList$ListItr"), (9, .class_ 94), (0, u "java/util/AbstractList$RandomAccessSubList"), (3, .class_ 99), (0, u "java/util/AbstractList$SubList"), (33, .class_ 134), (0, u "java/util/List"), (73, .class_ 209), (0, u "java/util/AbstractList$SubList$1"), (0, .class_ 211), (0, u "java/util/AbstractList$RandomAccessSpliterator")] 6

def k7c0 : Code := { maxStack := 2, maxLocals := 1, code := jdk_39_method_1_code, exceptionTable := #[], attributes := #[] }
def k7m0 : Method := { name := "<init>", desc := "()V", sig := { parameters := [], returnType := none }, accessFlags := 4, code := some k7c0 }
/-- java/util/AbstractList -/
def k7 : Class := { plain "java/util/AbstractList" (some 4) with
  accessFlags := 1057
  interfaces := #[6]
  cf := some (fileOf pool7 8 #[.nestMembers #[93, 98, 208, 210, 82, 77]] #[{ accessFlags := 4, nameIndex := 5, descriptorIndex := 6, attributes := #[] }] 1057 2 #[133] #[{ accessFlags := 132, nameIndex := 11, descriptorIndex := 12, attributes := #[] }])
  fields := #[{ name := "modCount", type := .int, accessFlags := 132, slot := 0, constantValue := 0 }]
  methods := #[k7m0]
  instanceTypes := #[.int]
  staticTypes := #[]
  resolved := Array.replicate 218 none
  statics := none }

def pool8 : Array CpInfo := pool [(1, .class_ 2), (0, u "java/util/RandomAccess"), (0, .class_ 4), (0, u "java/lang/Object")] 2

/-- java/util/RandomAccess -/
def k8 : Class := { plain "java/util/RandomAccess" (some 0) with
  accessFlags := 1537
  interfaces := #[]
  cf := some (fileOf pool8 1 #[] #[] 1537 3 #[] #[])
  fields := #[]
  methods := #[]
  instanceTypes := #[]
  staticTypes := #[]
  resolved := Array.replicate 7 none
  statics := none }

def pool9 : Array CpInfo := pool [(1, .class_ 2), (0, u "java/lang/Cloneable"), (0, .class_ 4), (0, u "java/lang/Object")] 2

/-- java/lang/Cloneable -/
def k9 : Class := { plain "java/lang/Cloneable" (some 0) with
  accessFlags := 1537
  interfaces := #[]
  cf := some (fileOf pool9 1 #[] #[] 1537 3 #[] #[])
  fields := #[]
  methods := #[]
  instanceTypes := #[]
  staticTypes := #[]
  resolved := Array.replicate 7 none
  statics := none }

def pool10 : Array CpInfo := pool [(1, .class_ 2), (0, u "java/io/Serializable"), (0, .class_ 4), (0, u "java/lang/Object")] 2

/-- java/io/Serializable -/
def k10 : Class := { plain "java/io/Serializable" (some 0) with
  accessFlags := 1537
  interfaces := #[]
  cf := some (fileOf pool10 1 #[] #[] 1537 3 #[] #[])
  fields := #[]
  methods := #[]
  instanceTypes := #[]
  staticTypes := #[]
  resolved := Array.replicate 7 none
  statics := none }

def pool11 : Array CpInfo := pool [(1, .methodref 2 3), (0, .class_ 4), (0, .nameAndType 5 6), (0, u "java/util/AbstractList"), (0, u "<init>"), (0, u "()V"), (0, .class_ 8), (0, u "java/lang/Object"), (0, .fieldref 10 11), (0, .class_ 12), (0, .nameAndType 13 14), (0, u "java/util/ArrayList"), (0, u "elementData"), (0, u "[Ljava/lang/Object;"), (2, u "EMPTY_ELEMENTDATA"), (21, .fieldref 10 40), (0, .nameAndType 41 14), (0, u "DEFAULTCAPACITY_EMPTY_ELEMENTDATA"), (5, u "()[Ljava/lang/Object;"), (0, .fieldref 10 49), (0, .nameAndType 50 51), (0, u "size"), (0, u "I"), (11, .fieldref 10 64), (0, .nameAndType 65 51), (0, u "modCount"), (3, .methodref 10 70), (0, .nameAndType 71 72), (0, u "grow"), (0, u "(I)[Ljava/lang/Object;"), (6, .methodref 80 81), (0, .class_ 82), (0, .nameAndType 83 84), (0, u "java/lang/Math"), (0, u "max"), (0, u "(II)I"), (11, u "(Ljava/lang/Object;)Z"), (21, .methodref 119 120), (0, .class_ 121), (0, .nameAndType 122 84), (0, u "java/util/Objects"), (0, u "checkIndex"), (0, .methodref 10 124), (0, .nameAndType 13 125), (0, u "(I)Ljava/lang/Object;"), (3, .methodref 10 130), (0, .nameAndType 71 47), (0, .methodref 10 132), (0, .nameAndType 133 134), (0, u "add"), (0, u "(Ljava/lang/Object;[Ljava/lang/Object;I)V"), (13, .class_ 149), (0, u "java/util/List"), (36, u "()I"), (75, .class_ 263), (0, u "java/util/ArrayList$ListItr"), (3, .class_ 268), (0, u "java/util/ArrayList$Itr"), (7, .class_ 277), (0, u "java/util/ArrayList$SubList"), (12, .class_ 291), (0, u "java/util/ArrayList$ArrayListSpliterator"), (37, .class_ 330), (0, u "java/util/RandomAccess"), (0, .class_ 332), (0, u "java/lang/Cloneable"), (0, .class_ 334), (0, u "java/io/Serializable"), (0, u "serialVersionUID"), (0, u "J"), (3, u "DEFAULT_CAPACITY"), (40, u "get"), (118, .class_ 501), (0, u "java/util/ArrayList$SubList$2"), (0, .class_ 503), (0, u "java/util/ArrayList$SubList$1")] 5

def k11c0 : Code := { maxStack := 2, maxLocals := 1, code := jdk_38_method_2_code, exceptionTable := #[], attributes := #[] }
def k11m0 : Method := { name := "<init>", desc := "()V", sig := { parameters := [], returnType := none }, accessFlags := 1, code := some k11c0 }
def k11c1 : Code := { maxStack := 4, maxLocals := 4, code := jdk_38_method_6_code, exceptionTable := #[], attributes := #[] }
def k11m1 : Method := { name := "grow", desc := "(I)[Ljava/lang/Object;", sig := { parameters := [.int], returnType := some (.array (.object "java/lang/Object")) }, accessFlags := 2, code := some k11c1 }
def k11c2 : Code := { maxStack := 3, maxLocals := 1, code := jdk_38_method_7_code, exceptionTable := #[], attributes := #[] }
def k11m2 : Method := { name := "grow", desc := "()[Ljava/lang/Object;", sig := { parameters := [], returnType := some (.array (.object "java/lang/Object")) }, accessFlags := 2, code := some k11c2 }
def k11c3 : Code := { maxStack := 1, maxLocals := 1, code := jdk_38_method_8_code, exceptionTable := #[], attributes := #[] }
def k11m3 : Method := { name := "size", desc := "()I", sig := { parameters := [], returnType := some .int }, accessFlags := 1, code := some k11c3 }
def k11c4 : Code := { maxStack := 2, maxLocals := 2, code := jdk_38_method_18_code, exceptionTable := #[], attributes := #[] }
def k11m4 : Method := { name := "elementData", desc := "(I)Ljava/lang/Object;", sig := { parameters := [.int], returnType := some (.object "java/lang/Object") }, accessFlags := 0, code := some k11c4 }
def k11c5 : Code := { maxStack := 2, maxLocals := 2, code := jdk_38_method_20_code, exceptionTable := #[], attributes := #[] }
def k11m5 : Method := { name := "get", desc := "(I)Ljava/lang/Object;", sig := { parameters := [.int], returnType := some (.object "java/lang/Object") }, accessFlags := 1, code := some k11c5 }
def k11c6 : Code := { maxStack := 3, maxLocals := 4, code := jdk_38_method_24_code, exceptionTable := #[], attributes := #[] }
def k11m6 : Method := { name := "add", desc := "(Ljava/lang/Object;[Ljava/lang/Object;I)V", sig := { parameters := [(.object "java/lang/Object"), (.array (.object "java/lang/Object")), .int], returnType := none }, accessFlags := 2, code := some k11c6 }
def k11c7 : Code := { maxStack := 4, maxLocals := 2, code := jdk_38_method_25_code, exceptionTable := #[], attributes := #[] }
def k11m7 : Method := { name := "add", desc := "(Ljava/lang/Object;)Z", sig := { parameters := [(.object "java/lang/Object")], returnType := some .boolean }, accessFlags := 1, code := some k11c7 }
/-- java/util/ArrayList -/
def k11 : Class := { plain "java/util/ArrayList" (some 7) with
  accessFlags := 33
  interfaces := #[6, 8, 9, 10]
  cf := some (fileOf pool11 10 #[.nestMembers #[290, 276, 500, 502, 262, 267]] #[{ accessFlags := 1, nameIndex := 5, descriptorIndex := 6, attributes := #[] }, { accessFlags := 2, nameIndex := 71, descriptorIndex := 72, attributes := #[] }, { accessFlags := 2, nameIndex := 71, descriptorIndex := 47, attributes := #[] }, { accessFlags := 1, nameIndex := 50, descriptorIndex := 186, attributes := #[] }, { accessFlags := 0, nameIndex := 13, descriptorIndex := 125, attributes := #[] }, { accessFlags := 1, nameIndex := 381, descriptorIndex := 125, attributes := #[] }, { accessFlags := 2, nameIndex := 133, descriptorIndex := 134, attributes := #[] }, { accessFlags := 1, nameIndex := 133, descriptorIndex := 96, attributes := #[] }] 33 2 #[148, 329, 331, 333] #[{ accessFlags := 26, nameIndex := 335, descriptorIndex := 336, attributes := #[] }, { accessFlags := 26, nameIndex := 340, descriptorIndex := 51, attributes := #[] }, { accessFlags := 26, nameIndex := 17, descriptorIndex := 14, attributes := #[] }, { accessFlags := 26, nameIndex := 41, descriptorIndex := 14, attributes := #[] }, { accessFlags := 128, nameIndex := 13, descriptorIndex := 14, attributes := #[] }, { accessFlags := 2, nameIndex := 50, descriptorIndex := 51, attributes := #[] }])
  fields := #[{ name := "serialVersionUID", type := .long, accessFlags := 26, slot := 0, constantValue := 0 }, { name := "DEFAULT_CAPACITY", type := .int, accessFlags := 26, slot := 1, constantValue := 0 }, { name := "EMPTY_ELEMENTDATA", type := (.array (.object "java/lang/Object")), accessFlags := 26, slot := 2, constantValue := 0 }, { name := "DEFAULTCAPACITY_EMPTY_ELEMENTDATA", type := (.array (.object "java/lang/Object")), accessFlags := 26, slot := 3, constantValue := 0 }, { name := "elementData", type := (.array (.object "java/lang/Object")), accessFlags := 128, slot := 1, constantValue := 0 }, { name := "size", type := .int, accessFlags := 2, slot := 2, constantValue := 0 }]
  methods := #[k11m0, k11m1, k11m2, k11m3, k11m4, k11m5, k11m6, k11m7]
  instanceTypes := #[.int, (.array (.object "java/lang/Object")), .int]
  staticTypes := #[.long, .int, (.array (.object "java/lang/Object")), (.array (.object "java/lang/Object"))]
  resolved := Array.replicate 509 none
  statics := some 0 }

def pool12 : Array CpInfo := pool [(1, .methodref 2 3), (0, .class_ 4), (0, .nameAndType 5 6), (0, u "java/lang/Object"), (0, u "<init>"), (0, u "()V"), (0, .class_ 8), (0, u "java/lang/Record")] 13

def k12c0 : Code := { maxStack := 1, maxLocals := 1, code := jdk_30_method_1_code, exceptionTable := #[], attributes := #[] }
def k12m0 : Method := { name := "<init>", desc := "()V", sig := { parameters := [], returnType := none }, accessFlags := 4, code := some k12c0 }
/-- java/lang/Record -/
def k12 : Class := { plain "java/lang/Record" (some 0) with
  accessFlags := 1057
  interfaces := #[]
  cf := some (fileOf pool12 7 #[] #[{ accessFlags := 4, nameIndex := 5, descriptorIndex := 6, attributes := #[] }] 1057 2 #[] #[])
  fields := #[]
  methods := #[k12m0]
  instanceTypes := #[]
  staticTypes := #[]
  resolved := Array.replicate 22 none
  statics := none }

def pool13 : Array CpInfo := pool [(1, .methodref 2 3), (0, .class_ 4), (0, .nameAndType 5 6), (0, u "java/lang/Record"), (0, u "<init>"), (0, u "()V"), (0, .fieldref 8 9), (0, .class_ 10), (0, .nameAndType 11 12), (0, u "com/example/slatewipe/slatewipe/vendors/mariadb/Columns$Column"), (0, u "name"), (0, u "Ljava/lang/String;"), (0, .fieldref 8 14), (0, .nameAndType 15 12), (0, u "type"), (0, .fieldref 8 17), (0, .nameAndType 18 19), (0, u "nullable"), (0, u "Z"), (0, .interfaceMethodref 21 22), (0, .class_ 23), (0, .nameAndType 24 25), (0, u "java/util/List"), (0, u "size"), (0, u "()I"), (0, .interfaceMethodref 21 27), (0, .nameAndType 28 29), (0, u "get"), (0, u "(I)Ljava/lang/Object;"), (0, .methodref 31 32), (0, .class_ 33), (0, .nameAndType 34 35), (0, u "java/lang/String"), (0, u "equals"), (0, u "(Ljava/lang/Object;)Z"), (11, u "(Ljava/lang/String;Ljava/lang/String;Z)V"), (3, u "sameTypes"), (0, u "(Ljava/util/List;Ljava/util/List;)Z"), (8, .class_ 62), (0, u "com/example/slatewipe/slatewipe/vendors/mariadb/Columns")] 21

def k13c0 : Code := { maxStack := 2, maxLocals := 4, code := prog_46_method_1_code, exceptionTable := #[], attributes := #[] }
def k13m0 : Method := { name := "<init>", desc := "(Ljava/lang/String;Ljava/lang/String;Z)V", sig := { parameters := [(.object "java/lang/String"), (.object "java/lang/String"), .boolean], returnType := none }, accessFlags := 0, code := some k13c0 }
def k13c1 : Code := { maxStack := 2, maxLocals := 5, code := prog_46_method_2_code, exceptionTable := #[], attributes := #[] }
def k13m1 : Method := { name := "sameTypes", desc := "(Ljava/util/List;Ljava/util/List;)Z", sig := { parameters := [(.object "java/util/List"), (.object "java/util/List")], returnType := some .boolean }, accessFlags := 8, code := some k13c1 }
/-- com/example/slatewipe/slatewipe/vendors/mariadb/Columns$Column -/
def k13 : Class := { plain "com/example/slatewipe/slatewipe/vendors/mariadb/Columns$Column" (some 12) with
  accessFlags := 48
  interfaces := #[]
  cf := some (fileOf pool13 8 #[.nestHost 61] #[{ accessFlags := 0, nameIndex := 5, descriptorIndex := 47, attributes := #[] }, { accessFlags := 8, nameIndex := 51, descriptorIndex := 52, attributes := #[] }] 48 2 #[] #[{ accessFlags := 18, nameIndex := 11, descriptorIndex := 12, attributes := #[] }, { accessFlags := 18, nameIndex := 15, descriptorIndex := 12, attributes := #[] }, { accessFlags := 18, nameIndex := 18, descriptorIndex := 19, attributes := #[] }])
  fields := #[{ name := "name", type := (.object "java/lang/String"), accessFlags := 18, slot := 0, constantValue := 0 }, { name := "type", type := (.object "java/lang/String"), accessFlags := 18, slot := 1, constantValue := 0 }, { name := "nullable", type := .boolean, accessFlags := 18, slot := 2, constantValue := 0 }]
  methods := #[k13m0, k13m1]
  instanceTypes := #[(.object "java/lang/String"), (.object "java/lang/String"), .boolean]
  staticTypes := #[]
  resolved := Array.replicate 84 none
  statics := none }

def pool14 : Array CpInfo := pool [(1, .class_ 2), (0, u "java/lang/Comparable"), (0, .class_ 4), (0, u "java/lang/Object")] 7

/-- java/lang/Comparable -/
def k14 : Class := { plain "java/lang/Comparable" (some 0) with
  accessFlags := 1537
  interfaces := #[]
  cf := some (fileOf pool14 1 #[] #[] 1537 3 #[] #[])
  fields := #[]
  methods := #[]
  instanceTypes := #[]
  staticTypes := #[]
  resolved := Array.replicate 12 none
  statics := none }

def pool15 : Array CpInfo := pool [(2, .class_ 4), (1, u "java/lang/CharSequence"), (42, .class_ 48), (0, u "java/lang/CharSequence$1CodePointIterator"), (10, .class_ 60), (0, u "java/lang/CharSequence$1CharIterator"), (5, .class_ 67), (0, u "java/lang/Object")] 63

/-- java/lang/CharSequence -/
def k15 : Class := { plain "java/lang/CharSequence" (some 0) with
  accessFlags := 1537
  interfaces := #[]
  cf := some (fileOf pool15 2 #[.nestMembers #[47, 59]] #[] 1537 66 #[] #[])
  fields := #[]
  methods := #[]
  instanceTypes := #[]
  staticTypes := #[]
  resolved := Array.replicate 131 none
  statics := none }

def pool16 : Array CpInfo := pool [(1, .class_ 2), (0, u "java/lang/constant/Constable"), (0, .class_ 4), (0, u "java/lang/Object")] 6

/-- java/lang/constant/Constable -/
def k16 : Class := { plain "java/lang/constant/Constable" (some 0) with
  accessFlags := 1537
  interfaces := #[]
  cf := some (fileOf pool16 1 #[] #[] 1537 3 #[] #[])
  fields := #[]
  methods := #[]
  instanceTypes := #[]
  staticTypes := #[]
  resolved := Array.replicate 11 none
  statics := none }

def pool17 : Array CpInfo := pool [(1, .class_ 2), (0, u "java/lang/constant/ConstantDesc"), (0, .class_ 4), (0, u "java/lang/Object")] 32

/-- java/lang/constant/ConstantDesc -/
def k17 : Class := { plain "java/lang/constant/ConstantDesc" (some 0) with
  accessFlags := 1537
  interfaces := #[]
  cf := some (fileOf pool17 1 #[] #[] 1537 3 #[] #[])
  fields := #[]
  methods := #[]
  instanceTypes := #[]
  staticTypes := #[]
  resolved := Array.replicate 37 none
  statics := none }

def pool18 : Array CpInfo := pool [(1, .methodref 2 3), (0, .class_ 4), (0, .nameAndType 5 6), (0, u "java/lang/Object"), (0, u "<init>"), (0, u "()V"), (2, .fieldref 10 11), (0, .class_ 12), (0, .nameAndType 13 14), (0, u "java/lang/String"), (0, u "value"), (0, u "[B"), (0, .fieldref 10 16), (0, .nameAndType 17 18), (0, u "coder"), (0, u "B"), (2, u "hash"), (0, u "I"), (2, u "hashIsZero"), (0, u "Z"), (0, .methodref 10 28), (0, .nameAndType 5 29), (0, u "([CIILjava/lang/Void;)V"), (8, .fieldref 10 39), (0, .nameAndType 40 26), (0, u "COMPACT_STRINGS"), (1, .class_ 44), (1, u "java/lang/StringUTF16"), (0, u "compress"), (1, .methodref 42 48), (0, .nameAndType 49 50), (0, u "coderFromArrayLen"), (0, u "([BI)B"), (56, .class_ 109), (1, u "java/lang/StringLatin1"), (67, .methodref 42 178), (0, .nameAndType 45 179), (0, u "([CII)[B"), (361, .methodref 107 542), (0, .nameAndType 543 544), (0, u "equals"), (0, u "([B[B)Z"), (28, u "(Ljava/lang/Object;)Z"), (1, .class_ 576), (0, u "java/lang/CharSequence"), (22, u "CASE_INSENSITIVE_ORDER"), (0, u "Ljava/util/Comparator;"), (409, u "([C)V"), (90, u "serialPersistentFields"), (0, u "[Ljava/io/ObjectStreamField;"), (0, .class_ 1104), (0, u "java/lang/String$CaseInsensitiveComparator"), (1, .class_ 1107), (0, u "java/io/Serializable"), (0, .class_ 1109), (0, u "java/lang/Comparable"), (0, .class_ 1111), (0, u "java/lang/constant/Constable"), (0, .class_ 1113), (0, u "java/lang/constant/ConstantDesc"), (2, u "serialVersionUID"), (0, u "J"), (3, u "REPL"), (0, u "C"), (2, u "LATIN1"), (1, u "UTF16")] 323

def k18m0 : Method := { name := "<init>", desc := "()V", sig := { parameters := [], returnType := none }, accessFlags := 1, code := none }
def k18c1 : Code := { maxStack := 5, maxLocals := 2, code := jdk_42_method_3_code, exceptionTable := #[], attributes := #[] }
def k18m1 : Method := { name := "<init>", desc := "([C)V", sig := { parameters := [(.array .char)], returnType := none }, accessFlags := 1, code := some k18c1 }
def k18c2 : Code := { maxStack := 2, maxLocals := 3, code := jdk_42_method_66_code, exceptionTable := #[], attributes := #[] }
def k18m2 : Method := { name := "equals", desc := "(Ljava/lang/Object;)Z", sig := { parameters := [(.object "java/lang/Object")], returnType := some .boolean }, accessFlags := 1, code := some k18c2 }
def k18c3 : Code := { maxStack := 4, maxLocals := 6, code := jdk_42_method_149_code, exceptionTable := #[], attributes := #[] }
def k18m3 : Method := { name := "<init>", desc := "([CIILjava/lang/Void;)V", sig := { parameters := [(.array .char), .int, .int, (.object "java/lang/Void")], returnType := none }, accessFlags := 2, code := some k18c3 }
/-- java/lang/String -/
def k18 : Class := { plain "java/lang/String" (some 0) with
  accessFlags := 49
  interfaces := #[10, 14, 15, 16, 17]
  cf := some (fileOf pool18 10 #[.nestMembers #[1103]] #[{ accessFlags := 1, nameIndex := 5, descriptorIndex := 6, attributes := #[] }, { accessFlags := 1, nameIndex := 5, descriptorIndex := 1010, attributes := #[] }, { accessFlags := 1, nameIndex := 543, descriptorIndex := 573, attributes := #[] }, { accessFlags := 2, nameIndex := 5, descriptorIndex := 29, attributes := #[] }] 49 2 #[1106, 1108, 575, 1110, 1112] #[{ accessFlags := 18, nameIndex := 13, descriptorIndex := 14, attributes := #[] }, { accessFlags := 18, nameIndex := 17, descriptorIndex := 18, attributes := #[] }, { accessFlags := 2, nameIndex := 21, descriptorIndex := 22, attributes := #[] }, { accessFlags := 2, nameIndex := 25, descriptorIndex := 26, attributes := #[] }, { accessFlags := 26, nameIndex := 1116, descriptorIndex := 1117, attributes := #[] }, { accessFlags := 24, nameIndex := 40, descriptorIndex := 26, attributes := #[] }, { accessFlags := 26, nameIndex := 1101, descriptorIndex := 1102, attributes := #[] }, { accessFlags := 26, nameIndex := 1121, descriptorIndex := 1122, attributes := #[] }, { accessFlags := 25, nameIndex := 599, descriptorIndex := 600, attributes := #[] }, { accessFlags := 24, nameIndex := 1125, descriptorIndex := 18, attributes := #[] }, { accessFlags := 24, nameIndex := 1127, descriptorIndex := 18, attributes := #[] }])
  fields := #[{ name := "value", type := (.array .byte), accessFlags := 18, slot := 0, constantValue := 0 }, { name := "coder", type := .byte, accessFlags := 18, slot := 1, constantValue := 0 }, { name := "hash", type := .int, accessFlags := 2, slot := 2, constantValue := 0 }, { name := "hashIsZero", type := .boolean, accessFlags := 2, slot := 3, constantValue := 0 }, { name := "serialVersionUID", type := .long, accessFlags := 26, slot := 0, constantValue := 0 }, { name := "COMPACT_STRINGS", type := .boolean, accessFlags := 24, slot := 1, constantValue := 0 }, { name := "serialPersistentFields", type := (.array (.object "java/io/ObjectStreamField")), accessFlags := 26, slot := 2, constantValue := 0 }, { name := "REPL", type := .char, accessFlags := 26, slot := 3, constantValue := 0 }, { name := "CASE_INSENSITIVE_ORDER", type := (.object "java/util/Comparator"), accessFlags := 25, slot := 4, constantValue := 0 }, { name := "LATIN1", type := .byte, accessFlags := 24, slot := 5, constantValue := 0 }, { name := "UTF16", type := .byte, accessFlags := 24, slot := 6, constantValue := 0 }]
  methods := #[k18m0, k18m1, k18m2, k18m3]
  instanceTypes := #[(.array .byte), .byte, .int, .boolean]
  staticTypes := #[.long, .boolean, (.array (.object "java/io/ObjectStreamField")), .char, (.object "java/util/Comparator"), .byte, .byte]
  resolved := Array.replicate 1451 none
  statics := some 1 }

def pool19 : Array CpInfo := pool [(6, .class_ 8), (1, u "java/lang/Object"), (0, u "<init>"), (0, u "()V"), (1, .class_ 14), (1, u "java/lang/StringUTF16"), (31, u "$assertionsDisabled"), (0, u "Z"), (13, u "HI_BYTE_SHIFT"), (0, u "I"), (2, u "LO_BYTE_SHIFT"), (49, .methodref 12 116), (0, .nameAndType 117 118), (0, u "compress"), (0, u "([CI[BII)I"), (3, u "([CII)[B"), (138, u "coderFromArrayLen"), (0, u "([BI)B"), (106, .class_ 371), (1, u "java/lang/StringUTF16$LinesSpliterator"), (58, u "MAX_LENGTH"), (196, .class_ 628), (0, u "java/lang/StringUTF16$CodePointsSpliterator"), (0, .class_ 630), (0, u "java/lang/StringUTF16$CharsSpliterator")] 4

def k19m0 : Method := { name := "<init>", desc := "()V", sig := { parameters := [], returnType := none }, accessFlags := 0, code := none }
def k19c1 : Code := { maxStack := 2, maxLocals := 2, code := jdk_52_method_15_code, exceptionTable := #[], attributes := #[] }
def k19m1 : Method := { name := "coderFromArrayLen", desc := "([BI)B", sig := { parameters := [(.array .byte), .int], returnType := some .byte }, accessFlags := 8, code := some k19c1 }
def k19c2 : Code := { maxStack := 5, maxLocals := 6, code := jdk_52_method_16_code, exceptionTable := #[], attributes := #[] }
def k19m2 : Method := { name := "compress", desc := "([CII)[B", sig := { parameters := [(.array .char), .int, .int], returnType := some (.array .byte) }, accessFlags := 9, code := some k19c2 }
def k19c3 : Code := { maxStack := 3, maxLocals := 7, code := jdk_52_method_21_code, exceptionTable := #[], attributes := #[] }
def k19m3 : Method := { name := "compress", desc := "([CI[BII)I", sig := { parameters := [(.array .char), .int, (.array .byte), .int, .int], returnType := some .int }, accessFlags := 9, code := some k19c3 }
/-- java/lang/StringUTF16 -/
def k19 : Class := { plain "java/lang/StringUTF16" (some 0) with
  accessFlags := 48
  interfaces := #[]
  cf := some (fileOf pool19 12 #[.nestMembers #[627, 629, 369]] #[{ accessFlags := 0, nameIndex := 9, descriptorIndex := 10, attributes := #[] }, { accessFlags := 8, nameIndex := 261, descriptorIndex := 262, attributes := #[] }, { accessFlags := 9, nameIndex := 117, descriptorIndex := 122, attributes := #[] }, { accessFlags := 9, nameIndex := 117, descriptorIndex := 118, attributes := #[] }] 48 6 #[] #[{ accessFlags := 26, nameIndex := 61, descriptorIndex := 62, attributes := #[] }, { accessFlags := 26, nameIndex := 65, descriptorIndex := 62, attributes := #[] }, { accessFlags := 24, nameIndex := 430, descriptorIndex := 62, attributes := #[] }, { accessFlags := 4120, nameIndex := 46, descriptorIndex := 47, attributes := #[] }])
  fields := #[{ name := "HI_BYTE_SHIFT", type := .int, accessFlags := 26, slot := 0, constantValue := 0 }, { name := "LO_BYTE_SHIFT", type := .int, accessFlags := 26, slot := 1, constantValue := 0 }, { name := "MAX_LENGTH", type := .int, accessFlags := 24, slot := 2, constantValue := 0 }, { name := "$assertionsDisabled", type := .boolean, accessFlags := 4120, slot := 3, constantValue := 0 }]
  methods := #[k19m0, k19m1, k19m2, k19m3]
  instanceTypes := #[]
  staticTypes := #[.int, .int, .int, .boolean]
  resolved := Array.replicate 635 none
  statics := none }

def pool20 : Array CpInfo := pool [(1, .class_ 2), (0, u "java/lang/Math"), (1, .class_ 6), (1, u "java/lang/Object"), (0, u "<init>"), (0, u "()V"), (89, .class_ 100), (1, u "java/lang/Math$RandomNumberGeneratorHolder"), (71, u "negativeZeroFloatBits"), (0, u "J"), (2, u "negativeZeroDoubleBits"), (21, u "max"), (46, u "$assertionsDisabled"), (0, u "Z"), (88, u "(II)I"), (2, u "twoToTheDoubleScaleDown"), (0, u "D"), (4, u "twoToTheDoubleScaleUp"), (9, u "E"), (3, u "PI"), (2, u "TAU"), (2, u "DEGREES_TO_RADIANS"), (0, u "RADIANS_TO_DEGREES")] 94

def k20m0 : Method := { name := "<init>", desc := "()V", sig := { parameters := [], returnType := none }, accessFlags := 2, code := none }
def k20c1 : Code := { maxStack := 2, maxLocals := 2, code := jdk_29_method_65_code, exceptionTable := #[], attributes := #[] }
def k20m1 : Method := { name := "max", desc := "(II)I", sig := { parameters := [.int, .int], returnType := some .int }, accessFlags := 9, code := some k20c1 }
/-- java/lang/Math -/
def k20 : Class := { plain "java/lang/Math" (some 0) with
  accessFlags := 49
  interfaces := #[]
  cf := some (fileOf pool20 1 #[.nestMembers #[98]] #[{ accessFlags := 2, nameIndex := 7, descriptorIndex := 8, attributes := #[] }, { accessFlags := 9, nameIndex := 198, descriptorIndex := 335, attributes := #[] }] 49 4 #[] #[{ accessFlags := 25, nameIndex := 354, descriptorIndex := 339, attributes := #[] }, { accessFlags := 25, nameIndex := 358, descriptorIndex := 339, attributes := #[] }, { accessFlags := 25, nameIndex := 361, descriptorIndex := 339, attributes := #[] }, { accessFlags := 26, nameIndex := 364, descriptorIndex := 339, attributes := #[] }, { accessFlags := 26, nameIndex := 365, descriptorIndex := 339, attributes := #[] }, { accessFlags := 26, nameIndex := 172, descriptorIndex := 173, attributes := #[] }, { accessFlags := 26, nameIndex := 176, descriptorIndex := 173, attributes := #[] }, { accessFlags := 8, nameIndex := 344, descriptorIndex := 339, attributes := #[] }, { accessFlags := 8, nameIndex := 338, descriptorIndex := 339, attributes := #[] }, { accessFlags := 4120, nameIndex := 245, descriptorIndex := 246, attributes := #[] }])
  fields := #[{ name := "E", type := .double, accessFlags := 25, slot := 0, constantValue := 0 }, { name := "PI", type := .double, accessFlags := 25, slot := 1, constantValue := 0 }, { name := "TAU", type := .double, accessFlags := 25, slot := 2, constantValue := 0 }, { name := "DEGREES_TO_RADIANS", type := .double, accessFlags := 26, slot := 3, constantValue := 0 }, { name := "RADIANS_TO_DEGREES", type := .double, accessFlags := 26, slot := 4, constantValue := 0 }, { name := "negativeZeroFloatBits", type := .long, accessFlags := 26, slot := 5, constantValue := 0 }, { name := "negativeZeroDoubleBits", type := .long, accessFlags := 26, slot := 6, constantValue := 0 }, { name := "twoToTheDoubleScaleUp", type := .double, accessFlags := 8, slot := 7, constantValue := 0 }, { name := "twoToTheDoubleScaleDown", type := .double, accessFlags := 8, slot := 8, constantValue := 0 }, { name := "$assertionsDisabled", type := .boolean, accessFlags := 4120, slot := 9, constantValue := 0 }]
  methods := #[k20m0, k20m1]
  instanceTypes := #[]
  staticTypes := #[.double, .double, .double, .double, .double, .long, .long, .double, .double, .boolean]
  resolved := Array.replicate 460 none
  statics := none }

def pool21 : Array CpInfo := pool [(2, .class_ 4), (1, u "java/lang/Object"), (0, u "<init>"), (0, u "()V"), (35, .class_ 44), (1, u "java/util/Objects"), (60, .methodref 106 107), (0, .class_ 108), (0, .nameAndType 109 110), (0, u "jdk/internal/util/Preconditions"), (0, u "checkIndex"), (0, u "(IILjava/util/function/BiFunction;)I"), (60, u "(II)I")] 12

def k21m0 : Method := { name := "<init>", desc := "()V", sig := { parameters := [], returnType := none }, accessFlags := 2, code := none }
def k21c1 : Code := { maxStack := 3, maxLocals := 2, code := jdk_31_method_17_code, exceptionTable := #[], attributes := #[] }
def k21m1 : Method := { name := "checkIndex", desc := "(II)I", sig := { parameters := [.int, .int], returnType := some .int }, accessFlags := 9, code := some k21c1 }
/-- java/util/Objects -/
def k21 : Class := { plain "java/util/Objects" (some 0) with
  accessFlags := 49
  interfaces := #[]
  cf := some (fileOf pool21 42 #[] #[{ accessFlags := 2, nameIndex := 5, descriptorIndex := 6, attributes := #[] }, { accessFlags := 9, nameIndex := 109, descriptorIndex := 171, attributes := #[] }] 49 2 #[] #[])
  fields := #[]
  methods := #[k21m0, k21m1]
  instanceTypes := #[]
  staticTypes := #[]
  resolved := Array.replicate 184 none
  statics := none }

def pool22 : Array CpInfo := pool [(2, .class_ 4), (1, u "java/lang/Object"), (0, u "<init>"), (0, u "()V"), (17, .class_ 26), (1, u "jdk/internal/util/Preconditions"), (6, u "checkIndex"), (21, .class_ 56), (0, u "jdk/internal/util/Preconditions$4"), (57, .class_ 115), (0, u "jdk/internal/util/Preconditions$1"), (7, u "SIOOBE_FORMATTER"), (0, u "Ljava/util/function/BiFunction;"), (0, .class_ 126), (0, u "jdk/internal/util/Preconditions$2"), (3, u "AIOOBE_FORMATTER"), (0, .class_ 132), (0, u "jdk/internal/util/Preconditions$3"), (3, u "IOOBE_FORMATTER"), (41, u "(IILjava/util/function/BiFunction;)I")] 15

def k22m0 : Method := { name := "<init>", desc := "()V", sig := { parameters := [], returnType := none }, accessFlags := 1, code := none }
def k22c1 : Code := { maxStack := 3, maxLocals := 3, code := jdk_41_method_11_code, exceptionTable := #[], attributes := #[] }
def k22m1 : Method := { name := "checkIndex", desc := "(IILjava/util/function/BiFunction;)I", sig := { parameters := [.int, .int, (.object "java/util/function/BiFunction")], returnType := some .int }, accessFlags := 9, code := some k22c1 }
/-- jdk/internal/util/Preconditions -/
def k22 : Class := { plain "jdk/internal/util/Preconditions" (some 0) with
  accessFlags := 33
  interfaces := #[]
  cf := some (fileOf pool22 24 #[.nestMembers #[55, 131, 125, 114]] #[{ accessFlags := 1, nameIndex := 5, descriptorIndex := 6, attributes := #[] }, { accessFlags := 9, nameIndex := 33, descriptorIndex := 178, attributes := #[] }] 33 2 #[] #[{ accessFlags := 25, nameIndex := 123, descriptorIndex := 124, attributes := #[] }, { accessFlags := 25, nameIndex := 130, descriptorIndex := 124, attributes := #[] }, { accessFlags := 25, nameIndex := 136, descriptorIndex := 124, attributes := #[] }])
  fields := #[{ name := "SIOOBE_FORMATTER", type := (.object "java/util/function/BiFunction"), accessFlags := 25, slot := 0, constantValue := 0 }, { name := "AIOOBE_FORMATTER", type := (.object "java/util/function/BiFunction"), accessFlags := 25, slot := 1, constantValue := 0 }, { name := "IOOBE_FORMATTER", type := (.object "java/util/function/BiFunction"), accessFlags := 25, slot := 2, constantValue := 0 }]
  methods := #[k22m0, k22m1]
  instanceTypes := #[]
  staticTypes := #[(.object "java/util/function/BiFunction"), (.object "java/util/function/BiFunction"), (.object "java/util/function/BiFunction")]
  resolved := Array.replicate 194 none
  statics := some 2 }

def pool23 : Array CpInfo := pool [(4, .class_ 6), (1, u "java/lang/Object"), (0, u "<init>"), (0, u "()V"), (5, .class_ 16), (1, u "java/lang/StringLatin1"), (104, u "$assertionsDisabled"), (0, u "Z"), (98, .class_ 223), (1, u "java/lang/StringLatin1$LinesSpliterator"), (57, u "equals"), (0, u "([B[B)Z"), (107, .class_ 391), (0, u "java/lang/StringLatin1$CharsSpliterator")] 3

def k23m0 : Method := { name := "<init>", desc := "()V", sig := { parameters := [], returnType := none }, accessFlags := 0, code := none }
def k23c1 : Code := { maxStack := 3, maxLocals := 3, code := jdk_43_method_13_code, exceptionTable := #[], attributes := #[] }
def k23m1 : Method := { name := "equals", desc := "([B[B)Z", sig := { parameters := [(.array .byte), (.array .byte)], returnType := some .boolean }, accessFlags := 9, code := some k23c1 }
/-- java/lang/StringLatin1 -/
def k23 : Class := { plain "java/lang/StringLatin1" (some 0) with
  accessFlags := 48
  interfaces := #[]
  cf := some (fileOf pool23 14 #[.nestMembers #[390, 221]] #[{ accessFlags := 0, nameIndex := 7, descriptorIndex := 8, attributes := #[] }, { accessFlags := 9, nameIndex := 281, descriptorIndex := 282, attributes := #[] }] 48 4 #[] #[{ accessFlags := 4120, nameIndex := 121, descriptorIndex := 122, attributes := #[] }])
  fields := #[{ name := "$assertionsDisabled", type := .boolean, accessFlags := 4120, slot := 0, constantValue := 0 }]
  methods := #[k23m0, k23m1]
  instanceTypes := #[]
  staticTypes := #[.boolean]
  resolved := Array.replicate 395 none
  statics := none }

def pool24 : Array CpInfo := pool [(9, u "<init>"), (6, .class_ 18), (1, u "java/lang/Object"), (0, u "()V"), (1, .class_ 23), (1, u "jdk/internal/util/ArraysSupport"), (0, u "LOG2_ARRAY_LONG_INDEX_SCALE"), (0, u "I"), (2, u "U"), (0, u "Ljdk/internal/misc/Unsafe;"), (8, u "BIG_ENDIAN"), (0, u "Z"), (8, u "LOG2_BYTE_BIT_SIZE"), (4, u "LOG2_ARRAY_INT_INDEX_SCALE"), (54, u "JLA"), (0, u "Ljdk/internal/access/JavaLangAccess;"), (11, u "LOG2_ARRAY_BOOLEAN_INDEX_SCALE"), (9, u "LOG2_ARRAY_BYTE_INDEX_SCALE"), (5, u "LOG2_ARRAY_CHAR_INDEX_SCALE"), (5, u "LOG2_ARRAY_SHORT_INDEX_SCALE"), (18, u "LOG2_ARRAY_FLOAT_INDEX_SCALE"), (24, u "LOG2_ARRAY_DOUBLE_INDEX_SCALE"), (89, u "T_BOOLEAN"), (2, u "T_CHAR"), (1, u "T_FLOAT"), (1, u "T_DOUBLE"), (1, u "T_BYTE"), (1, u "T_SHORT"), (1, u "T_INT"), (1, u "T_LONG"), (1, u "SOFT_MAX_ARRAY_LENGTH")] 83

def k24m0 : Method := { name := "<init>", desc := "()V", sig := { parameters := [], returnType := none }, accessFlags := 2, code := none }
/-- jdk/internal/util/ArraysSupport -/
def k24 : Class := { plain "jdk/internal/util/ArraysSupport" (some 0) with
  accessFlags := 33
  interfaces := #[]
  cf := some (fileOf pool24 21 #[] #[{ accessFlags := 2, nameIndex := 9, descriptorIndex := 19, attributes := #[] }] 33 16 #[] #[{ accessFlags := 24, nameIndex := 28, descriptorIndex := 29, attributes := #[] }, { accessFlags := 26, nameIndex := 38, descriptorIndex := 39, attributes := #[] }, { accessFlags := 25, nameIndex := 121, descriptorIndex := 25, attributes := #[] }, { accessFlags := 25, nameIndex := 131, descriptorIndex := 25, attributes := #[] }, { accessFlags := 25, nameIndex := 137, descriptorIndex := 25, attributes := #[] }, { accessFlags := 25, nameIndex := 143, descriptorIndex := 25, attributes := #[] }, { accessFlags := 25, nameIndex := 53, descriptorIndex := 25, attributes := #[] }, { accessFlags := 25, nameIndex := 24, descriptorIndex := 25, attributes := #[] }, { accessFlags := 25, nameIndex := 162, descriptorIndex := 25, attributes := #[] }, { accessFlags := 25, nameIndex := 187, descriptorIndex := 25, attributes := #[] }, { accessFlags := 26, nameIndex := 48, descriptorIndex := 25, attributes := #[] }, { accessFlags := 25, nameIndex := 277, descriptorIndex := 25, attributes := #[] }, { accessFlags := 25, nameIndex := 280, descriptorIndex := 25, attributes := #[] }, { accessFlags := 25, nameIndex := 282, descriptorIndex := 25, attributes := #[] }, { accessFlags := 25, nameIndex := 284, descriptorIndex := 25, attributes := #[] }, { accessFlags := 25, nameIndex := 286, descriptorIndex := 25, attributes := #[] }, { accessFlags := 25, nameIndex := 288, descriptorIndex := 25, attributes := #[] }, { accessFlags := 25, nameIndex := 290, descriptorIndex := 25, attributes := #[] }, { accessFlags := 25, nameIndex := 292, descriptorIndex := 25, attributes := #[] }, { accessFlags := 26, nameIndex := 108, descriptorIndex := 109, attributes := #[] }, { accessFlags := 25, nameIndex := 294, descriptorIndex := 25, attributes := #[] }])
  fields := #[{ name := "U", type := (.object "jdk/internal/misc/Unsafe"), accessFlags := 24, slot := 0, constantValue := 0 }, { name := "BIG_ENDIAN", type := .boolean, accessFlags := 26, slot := 1, constantValue := 0 }, { name := "LOG2_ARRAY_BOOLEAN_INDEX_SCALE", type := .int, accessFlags := 25, slot := 2, constantValue := 0 }, { name := "LOG2_ARRAY_BYTE_INDEX_SCALE", type := .int, accessFlags := 25, slot := 3, constantValue := 0 }, { name := "LOG2_ARRAY_CHAR_INDEX_SCALE", type := .int, accessFlags := 25, slot := 4, constantValue := 0 }, { name := "LOG2_ARRAY_SHORT_INDEX_SCALE", type := .int, accessFlags := 25, slot := 5, constantValue := 0 }, { name := "LOG2_ARRAY_INT_INDEX_SCALE", type := .int, accessFlags := 25, slot := 6, constantValue := 0 }, { name := "LOG2_ARRAY_LONG_INDEX_SCALE", type := .int, accessFlags := 25, slot := 7, constantValue := 0 }, { name := "LOG2_ARRAY_FLOAT_INDEX_SCALE", type := .int, accessFlags := 25, slot := 8, constantValue := 0 }, { name := "LOG2_ARRAY_DOUBLE_INDEX_SCALE", type := .int, accessFlags := 25, slot := 9, constantValue := 0 }, { name := "LOG2_BYTE_BIT_SIZE", type := .int, accessFlags := 26, slot := 10, constantValue := 0 }, { name := "T_BOOLEAN", type := .int, accessFlags := 25, slot := 11, constantValue := 0 }, { name := "T_CHAR", type := .int, accessFlags := 25, slot := 12, constantValue := 0 }, { name := "T_FLOAT", type := .int, accessFlags := 25, slot := 13, constantValue := 0 }, { name := "T_DOUBLE", type := .int, accessFlags := 25, slot := 14, constantValue := 0 }, { name := "T_BYTE", type := .int, accessFlags := 25, slot := 15, constantValue := 0 }, { name := "T_SHORT", type := .int, accessFlags := 25, slot := 16, constantValue := 0 }, { name := "T_INT", type := .int, accessFlags := 25, slot := 17, constantValue := 0 }, { name := "T_LONG", type := .int, accessFlags := 25, slot := 18, constantValue := 0 }, { name := "JLA", type := (.object "jdk/internal/access/JavaLangAccess"), accessFlags := 26, slot := 19, constantValue := 0 }, { name := "SOFT_MAX_ARRAY_LENGTH", type := .int, accessFlags := 25, slot := 20, constantValue := 0 }]
  methods := #[k24m0]
  instanceTypes := #[]
  staticTypes := #[(.object "jdk/internal/misc/Unsafe"), .boolean, .int, .int, .int, .int, .int, .int, .int, .int, .int, .int, .int, .int, .int, .int, .int, .int, .int, (.object "jdk/internal/access/JavaLangAccess"), .int]
  resolved := Array.replicate 378 none
  statics := none }

/-- the primitive byte -/
def k25 : Class := { plain "byte" none with kind := .primitive 'B', accessFlags := 0x411 }
/-- [B -/
def k26 : Class := { plain "[B" (some 0) with kind := .array 25 .byte, interfaces := #[9, 10], accessFlags := 1041 }

/-- the primitive char -/
def k27 : Class := { plain "char" none with kind := .primitive 'C', accessFlags := 0x411 }
/-- [C -/
def k28 : Class := { plain "[C" (some 0) with kind := .array 27 .char, interfaces := #[9, 10], accessFlags := 1041 }

/-- the primitive int -/
def k29 : Class := { plain "int" none with kind := .primitive 'I', accessFlags := 0x411 }
/-- [I -/
def k30 : Class := { plain "[I" (some 0) with kind := .array 29 .int, interfaces := #[9, 10], accessFlags := 1041 }

/-- [Ljava/lang/Object; -/
def k31 : Class := { plain "[Ljava/lang/Object;" (some 0) with kind := .array 0 (.object "java/lang/Object"), interfaces := #[9, 10], accessFlags := 1041 }

def heap : Heap := #[{ cls := 11, slots := #[.long 0, .int 0, .ref 3, .ref 4], vm := .statics 11 },
  { cls := 18, slots := #[.long 0, .int 1, .null, .int 0, .null, .int 0, .int 0], vm := .statics 18 },
  { cls := 22, slots := #[.null, .null, .null], vm := .statics 22 },
  { cls := 31, slots := #[], vm := .none },
  { cls := 31, slots := #[], vm := .none }]
def classes : Array Class := #[k0, k1, k2, k3, k4, k5, k6, k7, k8, k9, k10, k11, k12, k13, k14, k15, k16, k17, k18, k19, k20, k21, k22, k23, k24, k25, k26, k27, k28, k29, k30, k31]
def interned : List (Array UInt16 × Addr) := []
def slotsUsed : Nat := 14
def theMethod : MethodId := ⟨1, 2⟩
def args0 : Array Value := #[.int 5, .int 6, .int 7]
def aboutOver (below : List Frame) : State where
  vm := { classes := classes, interned := interned.toArray }
  heap := heap
  slotsUsed := slotsUsed
  threads := #[{ frames := .invoking theMethod args0 :: below }]
def below0 : List Frame := [.native { method := ⟨0, 0⟩, args := #[] }]
def about1 : State := aboutOver below0
def p0 : Program := .bare "" "" ""
def e0 : Env := launch0.env 0 0 0
theorem w_frames : about1.frames = Frame.invoking theMethod args0 :: below0 := rfl
set_option maxRecDepth 65536 in
theorem w_args : argsFit about1.vm theMethod args0 = true := by decide +kernel
set_option maxRecDepth 65536 in
theorem w_heap : heapFits about1 = true := by decide +kernel
set_option maxRecDepth 65536 in
theorem w_runnable : about1.curStatus? = some .runnable := by decide +kernel
set_option maxRecDepth 65536 in
theorem w_alone : about1.alone = true := by decide +kernel
set_option maxRecDepth 65536 in
theorem w_named : about1.methodNamed? x = some theMethod := by decide +kernel
set_option maxRecDepth 65536 in
theorem w_hears : about1.hears theMethod below0 = true := by decide +kernel
set_option maxRecDepth 65536 in
theorem w_ripe : about1.ripe theMethod args0 below0 = true := by decide +kernel
theorem w_running : about1.status = .running := rfl
set_option maxRecDepth 65536 in
theorem w_room : about1.hasRoom e0.platform room_1 = true :=
  launch0.hasRoom_least _ room_1 (by decide +kernel) (by decide +kernel) (by decide +kernel) (by decide +kernel) (by decide +kernel) (by decide +kernel)
theorem allAtoms_all (ts : List Jvm.Cond) (a : Array Jvm.Value) (st : Jvm.State) : (allAtoms ts).before a st = ts.all (fun c => c.before a st) := by
  induction ts with
  | nil => rfl
  | cons c t ih =>
    show (Jvm.Cond.and c (allAtoms t)).before a st = _
    rw [Jvm.Cond.before_and, ih, List.all_cons]
def words1 : List Jvm.Cond := Jvm.Cond.code x code maxLocals ret :: tables_1
/-- a 'code' word, met by the world's own term for the bytes: nothing is compared byte by byte -/
theorem code_word {y : MethodName} {bytes : ByteArray} {mx : Nat} {rt : Option FieldType} {a : Array Value} {s : State} {m : MethodId} {meth : Method} {c : Code} (h1 : s.methodNamed? y = some m) (h2 : s.vm.method? m = some meth) (h3 : meth.code = some c) (h4 : c.code = bytes)
    (h5 : (c.maxLocals == mx && c.exceptionTable.isEmpty && decide (c.maxStack ≤ mostOperands) && decide (meth.sig.returnType = rt) && !meth.locks && decide (parseMethodDescriptor y.desc = some meth.sig)) = true) : (Jvm.Cond.code y bytes mx rt).before a s = true := by
  simp only [Bool.and_eq_true, beq_iff_eq, Bool.not_eq_true', decide_eq_true_eq] at h5
  obtain ⟨⟨⟨⟨⟨g1, g2⟩, g3⟩, g4⟩, g5⟩, g6⟩ := h5
  simp [Cond.before, Cond.holds, Cond.value, h1, h2, h3, h4, g1, g2, g3, g4, g5, g6]
def isCode : Jvm.Cond → Bool
  | .code _ _ _ _ => true
  | _ => false
theorem all_split {L : List Jvm.Cond} {P : Jvm.Cond → Bool} (h1 : L.all (fun c => isCode c || P c) = true) (h2 : ∀ c ∈ L.filter isCode, P c = true) : L.all P = true := by
  refine List.all_eq_true.mpr fun c hc => ?_
  have h := List.all_eq_true.mp h1 c hc
  rcases Bool.eq_false_or_eq_true (isCode c) with hi | hi
  · exact h2 c (List.mem_filter.mpr ⟨hc, hi⟩)
  · simpa [hi] using h
set_option maxRecDepth 65536 in
theorem w_c0 : (Jvm.Cond.code x code maxLocals ret).before args0 about1 = true := code_word (m := ⟨1, 2⟩) (meth := k1m2) (c := k1c2) (by decide +kernel) rfl rfl rfl (by decide +kernel)
set_option maxRecDepth 65536 in
theorem w_c1 : (Jvm.Cond.code ({ cls := "java/util/ArrayList", name := "<init>", desc := "()V" } : Jvm.MethodName) jdk_38_method_2_code (1 : Nat) (Option.none : Option Jvm.ClassFile.FieldType)).before args0 about1 = true := code_word (m := ⟨11, 0⟩) (meth := k11m0) (c := k11c0) (by decide +kernel) rfl rfl rfl (by decide +kernel)
set_option maxRecDepth 65536 in
theorem w_c2 : (Jvm.Cond.code ({ cls := "java/util/AbstractList", name := "<init>", desc := "()V" } : Jvm.MethodName) jdk_39_method_1_code (1 : Nat) (Option.none : Option Jvm.ClassFile.FieldType)).before args0 about1 = true := code_word (m := ⟨7, 0⟩) (meth := k7m0) (c := k7c0) (by decide +kernel) rfl rfl rfl (by decide +kernel)
set_option maxRecDepth 65536 in
theorem w_c3 : (Jvm.Cond.code ({ cls := "java/util/AbstractCollection", name := "<init>", desc := "()V" } : Jvm.MethodName) jdk_22_method_1_code (1 : Nat) (Option.none : Option Jvm.ClassFile.FieldType)).before args0 about1 = true := code_word (m := ⟨4, 0⟩) (meth := k4m0) (c := k4c0) (by decide +kernel) rfl rfl rfl (by decide +kernel)
set_option maxRecDepth 65536 in
theorem w_c4 : (Jvm.Cond.code ({ cls := "java/lang/Object", name := "<init>", desc := "()V" } : Jvm.MethodName) object_method_1_code (1 : Nat) (Option.none : Option Jvm.ClassFile.FieldType)).before args0 about1 = true := code_word (m := ⟨0, 0⟩) (meth := k0m0) (c := k0c0) (by decide +kernel) rfl rfl rfl (by decide +kernel)
set_option maxRecDepth 65536 in
theorem w_c5 : (Jvm.Cond.code ({ cls := "com/example/slatewipe/slatewipe/vendors/mariadb/Columns$Column", name := "sameTypes", desc := "(Ljava/util/List;Ljava/util/List;)Z" } : Jvm.MethodName) prog_46_method_2_code (5 : Nat) (Option.some Jvm.ClassFile.FieldType.boolean)).before args0 about1 = true := code_word (m := ⟨13, 1⟩) (meth := k13m1) (c := k13c1) (by decide +kernel) rfl rfl rfl (by decide +kernel)
set_option maxRecDepth 65536 in
theorem w_c6 : (Jvm.Cond.code ({ cls := "java/util/ArrayList", name := "size", desc := "()I" } : Jvm.MethodName) jdk_38_method_8_code (1 : Nat) (Option.some Jvm.ClassFile.FieldType.int)).before args0 about1 = true := code_word (m := ⟨11, 3⟩) (meth := k11m3) (c := k11c3) (by decide +kernel) rfl rfl rfl (by decide +kernel)
set_option maxRecDepth 65536 in
theorem w_c7 : (Jvm.Cond.code ({ cls := "com/example/slatewipe/slatewipe/vendors/mariadb/ColumnSameTypesPinLaw", name := "str", desc := "(I)Ljava/lang/String;" } : Jvm.MethodName) method_2_code (1 : Nat) (Option.some (Jvm.ClassFile.FieldType.object "java/lang/String"))).before args0 about1 = true := code_word (m := ⟨1, 1⟩) (meth := k1m1) (c := k1c1) (by decide +kernel) rfl rfl rfl (by decide +kernel)
set_option maxRecDepth 65536 in
theorem w_c8 : (Jvm.Cond.code ({ cls := "java/lang/String", name := "<init>", desc := "([C)V" } : Jvm.MethodName) jdk_42_method_3_code (2 : Nat) (Option.none : Option Jvm.ClassFile.FieldType)).before args0 about1 = true := code_word (m := ⟨18, 1⟩) (meth := k18m1) (c := k18c1) (by decide +kernel) rfl rfl rfl (by decide +kernel)
set_option maxRecDepth 65536 in
theorem w_c9 : (Jvm.Cond.code ({ cls := "java/lang/String", name := "<init>", desc := "([CIILjava/lang/Void;)V" } : Jvm.MethodName) jdk_42_method_149_code (6 : Nat) (Option.none : Option Jvm.ClassFile.FieldType)).before args0 about1 = true := code_word (m := ⟨18, 3⟩) (meth := k18m3) (c := k18c3) (by decide +kernel) rfl rfl rfl (by decide +kernel)
set_option maxRecDepth 65536 in
theorem w_c10 : (Jvm.Cond.code ({ cls := "java/lang/StringUTF16", name := "compress", desc := "([CII)[B" } : Jvm.MethodName) jdk_52_method_16_code (6 : Nat) (Option.some (Jvm.ClassFile.FieldType.array Jvm.ClassFile.FieldType.byte))).before args0 about1 = true := code_word (m := ⟨19, 2⟩) (meth := k19m2) (c := k19c2) (by decide +kernel) rfl rfl rfl (by decide +kernel)
set_option maxRecDepth 65536 in
theorem w_c11 : (Jvm.Cond.code ({ cls := "java/lang/StringUTF16", name := "compress", desc := "([CI[BII)I" } : Jvm.MethodName) jdk_52_method_21_code (7 : Nat) (Option.some Jvm.ClassFile.FieldType.int)).before args0 about1 = true := code_word (m := ⟨19, 3⟩) (meth := k19m3) (c := k19c3) (by decide +kernel) rfl rfl rfl (by decide +kernel)
set_option maxRecDepth 65536 in
theorem w_c12 : (Jvm.Cond.code ({ cls := "java/lang/StringUTF16", name := "coderFromArrayLen", desc := "([BI)B" } : Jvm.MethodName) jdk_52_method_15_code (2 : Nat) (Option.some Jvm.ClassFile.FieldType.byte)).before args0 about1 = true := code_word (m := ⟨19, 1⟩) (meth := k19m1) (c := k19c1) (by decide +kernel) rfl rfl rfl (by decide +kernel)
set_option maxRecDepth 65536 in
theorem w_c13 : (Jvm.Cond.code ({ cls := "com/example/slatewipe/slatewipe/vendors/mariadb/Columns$Column", name := "<init>", desc := "(Ljava/lang/String;Ljava/lang/String;Z)V" } : Jvm.MethodName) prog_46_method_1_code (4 : Nat) (Option.none : Option Jvm.ClassFile.FieldType)).before args0 about1 = true := code_word (m := ⟨13, 0⟩) (meth := k13m0) (c := k13c0) (by decide +kernel) rfl rfl rfl (by decide +kernel)
set_option maxRecDepth 65536 in
theorem w_c14 : (Jvm.Cond.code ({ cls := "java/lang/Record", name := "<init>", desc := "()V" } : Jvm.MethodName) jdk_30_method_1_code (1 : Nat) (Option.none : Option Jvm.ClassFile.FieldType)).before args0 about1 = true := code_word (m := ⟨12, 0⟩) (meth := k12m0) (c := k12c0) (by decide +kernel) rfl rfl rfl (by decide +kernel)
set_option maxRecDepth 65536 in
theorem w_c15 : (Jvm.Cond.code ({ cls := "java/util/ArrayList", name := "add", desc := "(Ljava/lang/Object;)Z" } : Jvm.MethodName) jdk_38_method_25_code (2 : Nat) (Option.some Jvm.ClassFile.FieldType.boolean)).before args0 about1 = true := code_word (m := ⟨11, 7⟩) (meth := k11m7) (c := k11c7) (by decide +kernel) rfl rfl rfl (by decide +kernel)
set_option maxRecDepth 65536 in
theorem w_c16 : (Jvm.Cond.code ({ cls := "java/util/ArrayList", name := "add", desc := "(Ljava/lang/Object;[Ljava/lang/Object;I)V" } : Jvm.MethodName) jdk_38_method_24_code (4 : Nat) (Option.none : Option Jvm.ClassFile.FieldType)).before args0 about1 = true := code_word (m := ⟨11, 6⟩) (meth := k11m6) (c := k11c6) (by decide +kernel) rfl rfl rfl (by decide +kernel)
set_option maxRecDepth 65536 in
theorem w_c17 : (Jvm.Cond.code ({ cls := "java/util/ArrayList", name := "grow", desc := "()[Ljava/lang/Object;" } : Jvm.MethodName) jdk_38_method_7_code (1 : Nat) (Option.some (Jvm.ClassFile.FieldType.array (Jvm.ClassFile.FieldType.object "java/lang/Object")))).before args0 about1 = true := code_word (m := ⟨11, 2⟩) (meth := k11m2) (c := k11c2) (by decide +kernel) rfl rfl rfl (by decide +kernel)
set_option maxRecDepth 65536 in
theorem w_c18 : (Jvm.Cond.code ({ cls := "java/util/ArrayList", name := "grow", desc := "(I)[Ljava/lang/Object;" } : Jvm.MethodName) jdk_38_method_6_code (4 : Nat) (Option.some (Jvm.ClassFile.FieldType.array (Jvm.ClassFile.FieldType.object "java/lang/Object")))).before args0 about1 = true := code_word (m := ⟨11, 1⟩) (meth := k11m1) (c := k11c1) (by decide +kernel) rfl rfl rfl (by decide +kernel)
set_option maxRecDepth 65536 in
theorem w_c19 : (Jvm.Cond.code ({ cls := "java/lang/Math", name := "max", desc := "(II)I" } : Jvm.MethodName) jdk_29_method_65_code (2 : Nat) (Option.some Jvm.ClassFile.FieldType.int)).before args0 about1 = true := code_word (m := ⟨20, 1⟩) (meth := k20m1) (c := k20c1) (by decide +kernel) rfl rfl rfl (by decide +kernel)
set_option maxRecDepth 65536 in
theorem w_c20 : (Jvm.Cond.code ({ cls := "java/util/ArrayList", name := "get", desc := "(I)Ljava/lang/Object;" } : Jvm.MethodName) jdk_38_method_20_code (2 : Nat) (Option.some (Jvm.ClassFile.FieldType.object "java/lang/Object"))).before args0 about1 = true := code_word (m := ⟨11, 5⟩) (meth := k11m5) (c := k11c5) (by decide +kernel) rfl rfl rfl (by decide +kernel)
set_option maxRecDepth 65536 in
theorem w_c21 : (Jvm.Cond.code ({ cls := "java/util/Objects", name := "checkIndex", desc := "(II)I" } : Jvm.MethodName) jdk_31_method_17_code (2 : Nat) (Option.some Jvm.ClassFile.FieldType.int)).before args0 about1 = true := code_word (m := ⟨21, 1⟩) (meth := k21m1) (c := k21c1) (by decide +kernel) rfl rfl rfl (by decide +kernel)
set_option maxRecDepth 65536 in
theorem w_c22 : (Jvm.Cond.code ({ cls := "jdk/internal/util/Preconditions", name := "checkIndex", desc := "(IILjava/util/function/BiFunction;)I" } : Jvm.MethodName) jdk_41_method_11_code (3 : Nat) (Option.some Jvm.ClassFile.FieldType.int)).before args0 about1 = true := code_word (m := ⟨22, 1⟩) (meth := k22m1) (c := k22c1) (by decide +kernel) rfl rfl rfl (by decide +kernel)
set_option maxRecDepth 65536 in
theorem w_c23 : (Jvm.Cond.code ({ cls := "java/util/ArrayList", name := "elementData", desc := "(I)Ljava/lang/Object;" } : Jvm.MethodName) jdk_38_method_18_code (2 : Nat) (Option.some (Jvm.ClassFile.FieldType.object "java/lang/Object"))).before args0 about1 = true := code_word (m := ⟨11, 4⟩) (meth := k11m4) (c := k11c4) (by decide +kernel) rfl rfl rfl (by decide +kernel)
set_option maxRecDepth 65536 in
theorem w_c24 : (Jvm.Cond.code ({ cls := "java/lang/String", name := "equals", desc := "(Ljava/lang/Object;)Z" } : Jvm.MethodName) jdk_42_method_66_code (3 : Nat) (Option.some Jvm.ClassFile.FieldType.boolean)).before args0 about1 = true := code_word (m := ⟨18, 2⟩) (meth := k18m2) (c := k18c2) (by decide +kernel) rfl rfl rfl (by decide +kernel)
set_option maxRecDepth 65536 in
theorem w_c25 : (Jvm.Cond.code ({ cls := "java/lang/StringLatin1", name := "equals", desc := "([B[B)Z" } : Jvm.MethodName) jdk_43_method_13_code (3 : Nat) (Option.some Jvm.ClassFile.FieldType.boolean)).before args0 about1 = true := code_word (m := ⟨23, 1⟩) (meth := k23m1) (c := k23c1) (by decide +kernel) rfl rfl rfl (by decide +kernel)
def codes1 : List Jvm.Cond := [Jvm.Cond.code x code maxLocals ret, Jvm.Cond.code ({ cls := "java/util/ArrayList", name := "<init>", desc := "()V" } : Jvm.MethodName) jdk_38_method_2_code (1 : Nat) (Option.none : Option Jvm.ClassFile.FieldType), Jvm.Cond.code ({ cls := "java/util/AbstractList", name := "<init>", desc := "()V" } : Jvm.MethodName) jdk_39_method_1_code (1 : Nat) (Option.none : Option Jvm.ClassFile.FieldType), Jvm.Cond.code ({ cls := "java/util/AbstractCollection", name := "<init>", desc := "()V" } : Jvm.MethodName) jdk_22_method_1_code (1 : Nat) (Option.none : Option Jvm.ClassFile.FieldType), Jvm.Cond.code ({ cls := "java/lang/Object", name := "<init>", desc := "()V" } : Jvm.MethodName) object_method_1_code (1 : Nat) (Option.none : Option Jvm.ClassFile.FieldType), Jvm.Cond.code ({ cls := "com/example/slatewipe/slatewipe/vendors/mariadb/Columns$Column", name := "sameTypes", desc := "(Ljava/util/List;Ljava/util/List;)Z" } : Jvm.MethodName) prog_46_method_2_code (5 : Nat) (Option.some Jvm.ClassFile.FieldType.boolean), Jvm.Cond.code ({ cls := "java/util/ArrayList", name := "size", desc := "()I" } : Jvm.MethodName) jdk_38_method_8_code (1 : Nat) (Option.some Jvm.ClassFile.FieldType.int), Jvm.Cond.code ({ cls := "com/example/slatewipe/slatewipe/vendors/mariadb/ColumnSameTypesPinLaw", name := "str", desc := "(I)Ljava/lang/String;" } : Jvm.MethodName) method_2_code (1 : Nat) (Option.some (Jvm.ClassFile.FieldType.object "java/lang/String")), Jvm.Cond.code ({ cls := "java/lang/String", name := "<init>", desc := "([C)V" } : Jvm.MethodName) jdk_42_method_3_code (2 : Nat) (Option.none : Option Jvm.ClassFile.FieldType), Jvm.Cond.code ({ cls := "java/lang/String", name := "<init>", desc := "([CIILjava/lang/Void;)V" } : Jvm.MethodName) jdk_42_method_149_code (6 : Nat) (Option.none : Option Jvm.ClassFile.FieldType), Jvm.Cond.code ({ cls := "java/lang/StringUTF16", name := "compress", desc := "([CII)[B" } : Jvm.MethodName) jdk_52_method_16_code (6 : Nat) (Option.some (Jvm.ClassFile.FieldType.array Jvm.ClassFile.FieldType.byte)), Jvm.Cond.code ({ cls := "java/lang/StringUTF16", name := "compress", desc := "([CI[BII)I" } : Jvm.MethodName) jdk_52_method_21_code (7 : Nat) (Option.some Jvm.ClassFile.FieldType.int), Jvm.Cond.code ({ cls := "java/lang/StringUTF16", name := "coderFromArrayLen", desc := "([BI)B" } : Jvm.MethodName) jdk_52_method_15_code (2 : Nat) (Option.some Jvm.ClassFile.FieldType.byte), Jvm.Cond.code ({ cls := "com/example/slatewipe/slatewipe/vendors/mariadb/Columns$Column", name := "<init>", desc := "(Ljava/lang/String;Ljava/lang/String;Z)V" } : Jvm.MethodName) prog_46_method_1_code (4 : Nat) (Option.none : Option Jvm.ClassFile.FieldType), Jvm.Cond.code ({ cls := "java/lang/Record", name := "<init>", desc := "()V" } : Jvm.MethodName) jdk_30_method_1_code (1 : Nat) (Option.none : Option Jvm.ClassFile.FieldType), Jvm.Cond.code ({ cls := "java/util/ArrayList", name := "add", desc := "(Ljava/lang/Object;)Z" } : Jvm.MethodName) jdk_38_method_25_code (2 : Nat) (Option.some Jvm.ClassFile.FieldType.boolean), Jvm.Cond.code ({ cls := "java/util/ArrayList", name := "add", desc := "(Ljava/lang/Object;[Ljava/lang/Object;I)V" } : Jvm.MethodName) jdk_38_method_24_code (4 : Nat) (Option.none : Option Jvm.ClassFile.FieldType), Jvm.Cond.code ({ cls := "java/util/ArrayList", name := "grow", desc := "()[Ljava/lang/Object;" } : Jvm.MethodName) jdk_38_method_7_code (1 : Nat) (Option.some (Jvm.ClassFile.FieldType.array (Jvm.ClassFile.FieldType.object "java/lang/Object"))), Jvm.Cond.code ({ cls := "java/util/ArrayList", name := "grow", desc := "(I)[Ljava/lang/Object;" } : Jvm.MethodName) jdk_38_method_6_code (4 : Nat) (Option.some (Jvm.ClassFile.FieldType.array (Jvm.ClassFile.FieldType.object "java/lang/Object"))), Jvm.Cond.code ({ cls := "java/lang/Math", name := "max", desc := "(II)I" } : Jvm.MethodName) jdk_29_method_65_code (2 : Nat) (Option.some Jvm.ClassFile.FieldType.int), Jvm.Cond.code ({ cls := "java/util/ArrayList", name := "get", desc := "(I)Ljava/lang/Object;" } : Jvm.MethodName) jdk_38_method_20_code (2 : Nat) (Option.some (Jvm.ClassFile.FieldType.object "java/lang/Object")), Jvm.Cond.code ({ cls := "java/util/Objects", name := "checkIndex", desc := "(II)I" } : Jvm.MethodName) jdk_31_method_17_code (2 : Nat) (Option.some Jvm.ClassFile.FieldType.int), Jvm.Cond.code ({ cls := "jdk/internal/util/Preconditions", name := "checkIndex", desc := "(IILjava/util/function/BiFunction;)I" } : Jvm.MethodName) jdk_41_method_11_code (3 : Nat) (Option.some Jvm.ClassFile.FieldType.int), Jvm.Cond.code ({ cls := "java/util/ArrayList", name := "elementData", desc := "(I)Ljava/lang/Object;" } : Jvm.MethodName) jdk_38_method_18_code (2 : Nat) (Option.some (Jvm.ClassFile.FieldType.object "java/lang/Object")), Jvm.Cond.code ({ cls := "java/lang/String", name := "equals", desc := "(Ljava/lang/Object;)Z" } : Jvm.MethodName) jdk_42_method_66_code (3 : Nat) (Option.some Jvm.ClassFile.FieldType.boolean), Jvm.Cond.code ({ cls := "java/lang/StringLatin1", name := "equals", desc := "([B[B)Z" } : Jvm.MethodName) jdk_43_method_13_code (3 : Nat) (Option.some Jvm.ClassFile.FieldType.boolean)]
set_option maxRecDepth 65536 in
theorem codes_eq : words1.filter isCode = codes1 := rfl
theorem w_codes : ∀ c ∈ words1.filter isCode, c.before args0 about1 = true := by
  rw [codes_eq]
  intro c hc
  simp only [codes1, List.mem_cons, List.not_mem_nil, or_false] at hc
  rcases hc with rfl | rfl | rfl | rfl | rfl | rfl | rfl | rfl | rfl | rfl | rfl | rfl | rfl | rfl | rfl | rfl | rfl | rfl | rfl | rfl | rfl | rfl | rfl | rfl | rfl | rfl
  · exact w_c0
  · exact w_c1
  · exact w_c2
  · exact w_c3
  · exact w_c4
  · exact w_c5
  · exact w_c6
  · exact w_c7
  · exact w_c8
  · exact w_c9
  · exact w_c10
  · exact w_c11
  · exact w_c12
  · exact w_c13
  · exact w_c14
  · exact w_c15
  · exact w_c16
  · exact w_c17
  · exact w_c18
  · exact w_c19
  · exact w_c20
  · exact w_c21
  · exact w_c22
  · exact w_c23
  · exact w_c24
  · exact w_c25
set_option maxRecDepth 65536 in
theorem w_t1 : (words1.take 24).all (fun c => isCode c || c.before args0 about1) = true := by decide +kernel
set_option maxRecDepth 65536 in
theorem w_t2 : ((words1.drop 24).take 24).all (fun c => isCode c || c.before args0 about1) = true := by decide +kernel
set_option maxRecDepth 65536 in
theorem w_t3 : (((words1.drop 24).drop 24).take 24).all (fun c => isCode c || c.before args0 about1) = true := by decide +kernel
set_option maxRecDepth 65536 in
theorem w_t4 : ((((words1.drop 24).drop 24).drop 24).take 24).all (fun c => isCode c || c.before args0 about1) = true := by decide +kernel
set_option maxRecDepth 65536 in
theorem w_t5 : (((((words1.drop 24).drop 24).drop 24).drop 24).take 24).all (fun c => isCode c || c.before args0 about1) = true := by decide +kernel
set_option maxRecDepth 65536 in
theorem w_t6 : ((((((words1.drop 24).drop 24).drop 24).drop 24).drop 24).take 24).all (fun c => isCode c || c.before args0 about1) = true := by decide +kernel
set_option maxRecDepth 65536 in
theorem w_t7 : ((((((words1.drop 24).drop 24).drop 24).drop 24).drop 24).drop 24).all (fun c => isCode c || c.before args0 about1) = true := by decide +kernel
theorem w_tables : (allAtoms (Jvm.Cond.code x code maxLocals ret :: tables_1)).before args0 about1 = true := by
  rw [allAtoms_all]
  show words1.all (fun c => c.before args0 about1) = true
  refine all_split ?_ w_codes
  rw [← List.take_append_drop 24 words1, List.all_append, w_t1, ← List.take_append_drop 24 (words1.drop 24), List.all_append, w_t2, ← List.take_append_drop 24 ((words1.drop 24).drop 24), List.all_append, w_t3, ← List.take_append_drop 24 (((words1.drop 24).drop 24).drop 24), List.all_append, w_t4, ← List.take_append_drop 24 ((((words1.drop 24).drop 24).drop 24).drop 24), List.all_append, w_t5, ← List.take_append_drop 24 (((((words1.drop 24).drop 24).drop 24).drop 24).drop 24), List.all_append, w_t6, w_t7]
  rfl
set_option maxRecDepth 65536 in
theorem w_rest : rest_1_c.before args0 about1 = true := by decide +kernel
set_option maxRecDepth 65536 in
theorem w_case : (Jvm.Cond.and given_1 narrow_1).before args0 about1 = true := by decide +kernel
theorem w_applies : (headSpec (Jvm.Cond.code x code maxLocals ret :: tables_1) room_1).applies x e0.platform about1 = true :=
  (Spec.applies_iff w_frames).mpr ⟨w_running, w_runnable, w_alone, w_named, w_hears, w_ripe, w_room, w_tables⟩
theorem atStart : AtStart classFile x code maxLocals ret World_1 tables_1 room_1 Calls_1 rest_1 Pre_1 launch0 p0 e0 about1 theMethod args0 below0 :=
  ⟨lists_1, trivial, launch0.admits_env _ _ _, launch0.least_env, fairChoices_fair.cas, fairChoices_fair.clock, w_frames, w_args, w_heap, w_applies, trivial, w_rest, w_case⟩
end start1
theorem witness_1 : WitnessClaimed_1 := ⟨start1.p0, start1.e0, start1.about1, start1.theMethod, start1.args0, start1.below0, start1.atStart⟩
end Jvm.Pilot.@@N@@
