import JvmDerived
import JvmDerived.Pilot.@@N@@Statement
import JvmDerived.Pilot.@@N@@Code
set_option linter.unusedVariables false
set_option linter.unusedSimpArgs false
namespace Jvm.Pilot.@@N@@
open Jvm Jvm.ClassFile Sem Op Lib Jvm.Free Jvm.Stand Jvm.LawKit Jvm.RoadKit Bundle Jvm.Pilot.@@N@@.Jvm.D
/-! my own words: Go (the run comes from T to a state with P), a step, a return -/
def Go (tb : Tables) (e : Env) (below : List Frame) (P : State → Prop) (T : State) : Prop := ∃ u, P u ∧ ∀ t, Steps tb e below u t → Steps tb e below T t
theorem Go.by' {tb : Tables} {e : Env} {below : List Frame} {P : State → Prop} {T T' : State} (h : ∀ t, Steps tb e below T' t → Steps tb e below T t) (k : Go tb e below P T') : Go tb e below P T :=
  k.elim fun u q => ⟨u, q.1, fun t z => h t (q.2 t z)⟩
theorem Go.cast {tb : Tables} {e : Env} {below : List Frame} {P : State → Prop} {T : State} {g g' : JFrame} (q : g = g') (k : Go tb e below P (T.setTop g')) : Go tb e below P (T.setTop g) := q ▸ k
theorem Go.castF {tb : Tables} {e : Env} {below : List Frame} {P : State → Prop} {T : State} {α : Type} (F : α → JFrame) {a b : α} (q : a = b) (k : Go tb e below P (T.setTop (F b))) : Go tb e below P (T.setTop (F a)) := q ▸ k
def Fin' (s : State) (below : List Frame) (ce sl : Nat) (Q : Option Value → Heap → List Loc → Prop) (u : State) : Prop := u.status = .running ∧ ∃ o, Ended u below o ∧ ∃ v L, o = .returned v ∧ Q v u.heap L ∧ FrameEnd s o u L ce sl
theorem Go.body {tb : Tables} {e : Env} {below : List Frame} {s : State} {ce sl : Nat} {Q : Option Value → Heap → List Loc → Prop} {T : State} (h : Go tb e below (Fin' s below ce sl Q) T) :
    ∃ s₂ o, Steps tb e below T s₂ ∧ s₂.status = .running ∧ Ended s₂ below o ∧ ∃ v L, o = .returned v ∧ Q v s₂.heap L ∧ FrameEnd s o s₂ L ce sl := by
  obtain ⟨u, ⟨h1, o, h2, h3⟩, h4⟩ := h
  exact ⟨u, o, h4 u (Steps.refl _), h1, h2, h3⟩
section OwnStand
variable {p : Program} {l : Launch} {e : Env} {R : Room} {s : State} {m : MethodId} {args : Array Value} {below : List Frame} {meth : Method} {c : Code} {T : State} {locs : List Loc} {cells slots : Nat}
def Like (X : Stand p l e R s m args below meth c T locs cells slots) (T' : State) : Prop := Stand p l e R s m args below meth c T' locs cells slots
theorem Go.out (X : Stand p l e R s m args below meth c T locs cells slots) {v : Option Value} (hv : meth.sig.returnType = none → v = none) (hlocks : meth.locks = false) {g : JFrame} {ce sl : Nat} {Q : Option Value → Heap → List Loc → Prop}
    (st : ∀ fs : List Frame, (∀ (f : JFrame) (acts : List Action), f.method = m → f.locked = none → f.entered = [] → (doReturn e (T.setTop f) acts v).1 = T.setFrames fs) → Steps p.tables e below (T.setTop g) (T.setFrames fs))
    (hc : cells ≤ ce) (hs : slots ≤ sl) (q : Q v T.heap locs) : Go p.tables e below (Fin' s below ce sl Q) (T.setTop g) := by
  obtain ⟨fs, hr, hrun, hended, hW, hsame⟩ := X.leave (v := v) hv hlocks
  exact ⟨T.setFrames fs, ⟨hrun, _, hended, v, locs, rfl, q, ⟨_, rfl⟩, hW, hsame.mono hc hs⟩, fun t k => (st fs hr).trans k⟩
theorem Go.retI' (X : Stand p l e R s m args below meth c T locs cells slots) (hx : p.tables.exec = Jvm.exec) {pc : Nat} {Ls : Array Slot} {z : Int32} {rest : List Value} {t : FieldType} (hret : meth.sig.returnType = some t) (hlocks : meth.locks = false)
    (ht : t = .int ∨ t = .boolean ∨ t = .byte ∨ t = .char ∨ t = .short) (hn : narrow t (.int z) = .int z) (hd : decode c.code pc = .ok (.ireturn, 1)) {ce sl : Nat} {Q : Option Value → Heap → List Loc → Prop} (hc : cells ≤ ce) (hs : slots ≤ sl) (q : Q (some (.int z)) T.heap locs) :
    Go p.tables e below (Fin' s below ce sl Q) (T.setTop (mkF m pc Ls (.int z :: rest))) :=
  Go.out X (fun h => by rw [hret] at h; cases h) hlocks (fun _ hl => retOut X hx hret hn (Or.inl ⟨rfl, ht, z, rfl⟩) hd hl) hc hs q
theorem Go.retA' (X : Stand p l e R s m args below meth c T locs cells slots) (hx : p.tables.exec = Jvm.exec) {pc : Nat} {Ls : Array Slot} {w : Value} {rest : List Value} {t : FieldType} (hret : meth.sig.returnType = some t) (hlocks : meth.locks = false)
    (ht : t.isReference = true) (hw : w.isRef = true) (hd : decode c.code pc = .ok (.areturn, 1)) {ce sl : Nat} {Q : Option Value → Heap → List Loc → Prop} (hc : cells ≤ ce) (hs : slots ≤ sl) (q : Q (some w) T.heap locs) :
    Go p.tables e below (Fin' s below ce sl Q) (T.setTop (mkF m pc Ls (w :: rest))) :=
  Go.out X (fun h => by rw [hret] at h; cases h) hlocks (fun _ hl => retOut X hx hret (by cases t <;> first | (cases ht; done) | (rcases ref_cases hw with rfl | ⟨z, rfl⟩ <;> rfl)) (Or.inr (Or.inr (Or.inr (Or.inr ⟨rfl, ht, hw⟩)))) hd hl) hc hs q
theorem Go.retD' (X : Stand p l e R s m args below meth c T locs cells slots) (hx : p.tables.exec = Jvm.exec) {pc : Nat} {Ls : Array Slot} {z : UInt64} {rest : List Value} (hret : meth.sig.returnType = some .double) (hlocks : meth.locks = false)
    (hd : decode c.code pc = .ok (.dreturn, 1)) {ce sl : Nat} {Q : Option Value → Heap → List Loc → Prop} (hc : cells ≤ ce) (hs : slots ≤ sl) (q : Q (some (.double z)) T.heap locs) :
    Go p.tables e below (Fin' s below ce sl Q) (T.setTop (mkF m pc Ls (.double z :: rest))) :=
  Go.out X (fun h => by rw [hret] at h; cases h) hlocks (fun _ hl => retOut X hx hret rfl (Or.inr (Or.inr (Or.inl ⟨rfl, rfl, z, rfl⟩))) hd hl) hc hs q
theorem Go.retV' (X : Stand p l e R s m args below meth c T locs cells slots) (hx : p.tables.exec = Jvm.exec) {pc : Nat} {Ls : Array Slot} (hret : meth.sig.returnType = none) (hlocks : meth.locks = false)
    (hd : decode c.code pc = .ok (.return_, 1)) {ce sl : Nat} {Q : Option Value → Heap → List Loc → Prop} (hc : cells ≤ ce) (hs : slots ≤ sl) (q : Q none T.heap locs) :
    Go p.tables e below (Fin' s below ce sl Q) (T.setTop (mkF m pc Ls [])) :=
  Go.out X (fun _ => rfl) hlocks (fun _ hl => X.returnOut hx hret hd hl) hc hs q
theorem own_nil (X : Stand p l e R s m args below meth c T (locs ++ []) cells slots) : Stand p l e R s m args below meth c T locs cells slots := by rw [List.append_nil] at X; exact X
theorem own_pack {k : Nat} (X : Stand p l e R s m args below meth c T locs cells slots) (N : Fr k locs) : ∃ ll, Stand p l e R s m args below meth c T ll cells slots ∧ Fr k ll := ⟨_, X, N⟩
end OwnStand
theorem own_nb {z : Int32} (h : z = 0 ∨ z = 1) : narrow .boolean (.int z) = .int z := by rcases h with rfl | rfl <;> rfl
theorem own_fb {z : Int32} (h : z = 0 ∨ z = 1) : fits .boolean (.int z) = true := by rcases h with rfl | rfl <;> rfl
theorem own_bb {x : Int32} : nar .byte (x.toInt8.toInt32) = x.toInt8.toInt32 := by show x.toInt8.toInt32.toInt8.toInt32 = x.toInt8.toInt32; simp
theorem own_nm (x : Int32) : nar .char (x &&& (255 : Int32)) = (x &&& (255 : Int32)) := i2c_mask x
theorem own_i2c {x : Int32} (h0 : ¬ x < (0 : Int32)) (h1 : ¬ (255 : Int32) < x) : x.toUInt32.toUInt16.toUInt32.toInt32 = x := by
  have a := c_i2c x
  have z0 : (0 : Int32).toInt = 0 := rfl
  have z1 : (255 : Int32).toInt = 255 := rfl
  rw [Int32.lt_iff_toInt_lt] at h0 h1
  rw [← Int32.toInt_inj]; omega
theorem own_nc {x : Int32} (h0 : ¬ x < (0 : Int32)) (h1 : ¬ (255 : Int32) < x) : nar .char x = x := own_i2c h0 h1
theorem own_b8 {x y : Int32} (h0 : ¬ x < (0 : Int32)) (h1 : ¬ (255 : Int32) < x) (h2 : ¬ y < (0 : Int32)) (h3 : ¬ (255 : Int32) < y) : (x.toInt8.toInt32) = (y.toInt8.toInt32) ↔ x = y := by
  have a := c_i2b x
  have b := c_i2b y
  have z0 : (0 : Int32).toInt = 0 := rfl
  have z1 : (255 : Int32).toInt = 255 := rfl
  rw [Int32.lt_iff_toInt_lt] at h0 h1 h2 h3
  rw [← Int32.toInt_inj, ← Int32.toInt_inj]; omega
theorem own_m (x : Int32) : ¬ (x &&& (255 : Int32)) < (0 : Int32) ∧ ¬ (255 : Int32) < (x &&& (255 : Int32)) := by
  have h := c_mask x 255 8 (by decide) (by decide)
  have z0 : (0 : Int32).toInt = 0 := rfl
  have z1 : (255 : Int32).toInt = 255 := rfl
  rw [Int32.lt_iff_toInt_lt, Int32.lt_iff_toInt_lt]; omega
theorem own_le {Z : State} {n0 : Nat} {h : Heap} (X : Old Z n0 h) : n0 ≤ h.size := X.1 ▸ X.2.1
theorem own_len {Z : State} {args : Array Value} {t : Term} {a : Addr} {cl : Cell} {ty : FieldType} {z : Int32} (ht : t.eval args Z none [] Z = some (.ref a)) (A : Arr Z Z.heap a cl ty) (h : (Term.length t).eval args Z none [] Z = some (.int z)) : cl.slots.size < 2 ^ 31 ∧ cl.slots.size.toInt32 = z := by
  have ha := Arr.fin (Vm.Alike.refl _) A
  by_cases q : cl.slots.size < 2 ^ 31
  · exact ⟨q, Value.int.inj (Option.some.inj ((len_f ht ha q).symm.trans h))⟩
  · exfalso; simp [Term.eval, ht, ha] at h; exact q (by omega)
theorem own_eqr {Z : State} {args : Array Value} {X F : Term} {a : Addr} (hF : F.eval args Z none [] Z = some (.ref a)) (h : (Cond.eq X F).value args Z none Z [] = some true) : X.eval args Z none [] Z = some (.ref a) := by
  obtain ⟨x, y', e1, e2, k1, k2⟩ := cmp_v (Or.inl h)
  cases hF.symm.trans e2
  have hx : x.isRef = true := k2.2
  have := gotT (eq_R e1 hF hx rfl) h
  rw [e1, this]
def Gh (Z : State) (vcs : Int32) : Prop := (Sta Z Z.heap "java/lang/String" "COMPACT_STRINGS" "Z" (.int vcs)) ∧ (¬ (vcs = (0 : Int32)))
/-! walks that may load String constants: what a walk bears besides its Stand -/
def Sb (Z : State) (EL : List (String × Nat)) (own : String) (cls : ClassId) (s : State) (vm0 : Vm) (h0 H : Heap) : Prop :=
  ∃ k0, s.Since vm0 k0 ∧ k0 ≤ H.size ∧ Z.Warmed39 vm0 ∧ vm0.findClass own = some cls ∧ CHr Z EL s.vm h0 vm0 H
section OwnS
variable {Z s : State} {EL : List (String × Nat)} {own : String} {cls : ClassId} {vm0 : Vm} {h0 H H' : Heap} {a0 : Array Value}
theorem Sb.start (hZ : Z.Warmed39 s.vm) (ho : s.vm.findClass own = some cls) (hC : CHv Z EL s.vm h0) : Sb Z EL own cls s s.vm h0 h0 := ⟨0, (State.WarmedH.refl s).since 0, Nat.zero_le _, hZ, ho, CHr.refl hC⟩
theorem Sb.hZ (b : Sb Z EL own cls s vm0 h0 H) : Z.Warmed39 (s.setVm vm0).vm := b.elim fun _ q => q.2.2.1
theorem Sb.hO (b : Sb Z EL own cls s vm0 h0 H) : (s.setVm vm0).vm.findClass own = some cls := b.elim fun _ q => q.2.2.2.1
theorem Sb.ch (b : Sb Z EL own cls s vm0 h0 H) : CHv Z EL vm0 H := b.elim fun _ q => q.2.2.2.2.1
theorem Sb.ext (b : Sb Z EL own cls s vm0 h0 H) (E : Ext H H') : Sb Z EL own cls s vm0 h0 H' := by
  obtain ⟨k0, b1, b2, b3, b4, b5⟩ := b
  exact ⟨k0, b1, Nat.le_trans b2 E.1, b3, b4, b5.trans (CHr.ext E b5.1)⟩
theorem Sb.wr (b : Sb Z EL own cls s vm0 h0 H) {a : Addr} {sl : Nat} {v : Value} (W : Wr H H' a sl v) (S : Safe Z EL vm0 H a) : Sb Z EL own cls s vm0 h0 H' := by
  obtain ⟨k0, b1, b2, b3, b4, b5⟩ := b
  exact ⟨k0, b1, Nat.le_trans b2 (Nat.le_of_eq W.size.symm), b3, b4, b5.trans (CHr.wr W S b5.1)⟩
theorem Sb.keep (b : Sb Z EL own cls s vm0 h0 H) {ws : List Addr} (K : Keep H H' ws) (hs : ∀ x ∈ ws, Safe Z EL vm0 H x) : Sb Z EL own cls s vm0 h0 H' := by
  obtain ⟨k0, b1, b2, b3, b4, b5⟩ := b
  exact ⟨k0, b1, Nat.le_trans b2 K.1, b3, b4, b5.trans (CHr.keep K hs b5.1)⟩
theorem Sb.called (b : Sb Z EL own cls s vm0 h0 H) {vm1 : Vm} (h2 : (s.setVm vm0).Since vm1 H'.size) (g : H.size ≤ H'.size) (A : CHr Z EL vm0 H vm1 H') : Sb Z EL own cls s vm1 h0 H' := by
  obtain ⟨k0, b1, b2, b3, b4, b5⟩ := b
  exact ⟨H'.size, b1.trans h2 (Nat.le_trans b2 g), Nat.le_refl _, State.Warmed39.trans (t := s.setVm vm0) b3 h2.1, (h2.1.alike.findClass _ _).trans b4, b5.trans A⟩
variable {p : Program} {l : Launch} {e : Env} {R : Room} {m : MethodId} {args : Array Value} {below : List Frame} {meth : Method} {c : Code} {T : State} {locs : List Loc} {cells slots : Nat}
/-- ldc of a String constant of EL, its text read -/
theorem own_ldc (X : Stand p l e R (s.setVm vm0) m args below meth c T locs cells slots) (hx : p.tables.exec = Jvm.exec) (b : Sb Z EL own m.cls s vm0 h0 H) {index : Nat} {text : String} (w : (Cond.stringLink own index text).before a0 Z = true) (wS : ∀ a ∈ Bundle.stringAtoms, a.before a0 Z = true)
    (eT : T.heap = H) (hEL : EW Z a0 EL) (hmem : (own, index) ∈ EL) {vs : List Value} {z : Int32} (ht : (∀ c ∈ text.toList, c.toNat < 256) ∧ text.toList.map (fun c => Value.int (Jvm.Lit.byteI c.toNat.toUInt16)) = vs) (hz : ¬ z < 0) (hl : z.toNatClampNeg = vs.length)
    {g : JFrame} (hg : g.method = m) (hd : decode c.code g.pc = .ok (.ldc index, 2)) {n : Nat} (hn : 4 * text.toList.length ≤ n) (hbig : n ≤ 536870912) (hc : cells + 2 ≤ R.cells) (hl' : slots + (n + 4) ≤ R.slots) :
    ∃ (T' : State) (h' : Heap) (a : Addr) (bb : Addr) (k : ClassId), Stand p l e R (s.setVm T'.vm) m args below meth c T' locs (cells + 2) (slots + (n + 4)) ∧ T'.heap = h' ∧ Ext H h' ∧ Sb Z EL own m.cls s T'.vm h0 h' ∧ CHr Z EL vm0 H T'.vm h' ∧
      Exa Z h' a "java/lang/String" ∧ Fld Z h' a "java/lang/String" "coder" "B" (.int 0) ∧ Fld Z h' a "java/lang/String" "value" "[B" (.ref bb) ∧ Arv Z h' bb k .byte z vs (.int 0) ∧ (∀ x, Safe Z EL T'.vm h' x → x ≠ a ∧ x ≠ bb) ∧
      ∀ target, Steps p.tables e below (T'.setTop { g with pc := g.pc + 2, stack := .ref a :: g.stack }) target → Steps p.tables e below (T.setTop g) target := by
  obtain ⟨k0, b1, b2, b3, b4, b5⟩ := b
  obtain ⟨a, T', h', k1, bb, k, X', e', E, hS, hk, hZ', ho', hA, hC, hV, hB, -, -, A, -, hne, st⟩ := ldcCH X hx b3 b4 w wS eT b1 b2 hEL hmem b5.1 ht hz hl hg hd hn hbig hc hl'
  exact ⟨T', h', a, bb, k, X', e', E, ⟨k1, hS, hk, hZ', ho', b5.trans A⟩, A, hA, hC, hV, hB, hne, st⟩
def FinS (Z : State) (EL : List (String × Nat)) (s : State) (below : List Frame) (ce sl : Nat) (Q : Option Value → Heap → Vm → List Loc → Prop) (u : State) : Prop := u.status = .running ∧ ∃ o, Ended u below o ∧ ∃ v L, o = .returned v ∧ Q v u.heap u.vm L ∧ CHr Z EL s.vm s.heap u.vm u.heap ∧ ReturnedEndW s o u L ce sl
theorem Go.bodyS {tb : Tables} {ce sl : Nat} {Q : Option Value → Heap → Vm → List Loc → Prop} (h : Go tb e below (FinS Z EL s below ce sl Q) T) :
    ∃ s₂ o, Steps tb e below T s₂ ∧ s₂.status = .running ∧ Ended s₂ below o ∧ ∃ v L, o = .returned v ∧ Q v s₂.heap s₂.vm L ∧ CHr Z EL s.vm s.heap s₂.vm s₂.heap ∧ ReturnedEndW s o s₂ L ce sl := by
  obtain ⟨u, ⟨h1, o, h2, h3⟩, h4⟩ := h
  exact ⟨u, o, h4 u (Steps.refl _), h1, h2, h3⟩
theorem Go.outS (X : Stand p l e R (s.setVm vm0) m args below meth c T locs cells slots) (hEL : EW Z a0 EL) (b : Sb Z EL own m.cls s vm0 h0 H) (eT : T.heap = H) (es : s.heap = h0) {v : Option Value} (hv : meth.sig.returnType = none → v = none) (hlocks : meth.locks = false) {g : JFrame} {ce sl : Nat} {Q : Option Value → Heap → Vm → List Loc → Prop}
    (st : ∀ fs : List Frame, (∀ (f : JFrame) (acts : List Action), f.method = m → f.locked = none → f.entered = [] → (doReturn e (T.setTop f) acts v).1 = T.setFrames fs) → Steps p.tables e below (T.setTop g) (T.setFrames fs))
    (hc : cells ≤ ce) (hs : slots ≤ sl) (q : Q v T.heap T.vm locs) : Go p.tables e below (FinS Z EL s below ce sl Q) (T.setTop g) := by
  obtain ⟨k0, b1, b2, b3, b4, b5⟩ := b
  subst eT es
  have A := b5.trans (CHv.at X b3 hEL b5.1)
  obtain ⟨fs, hr, hrun, hended, h1, h2, h3, h4⟩ := X.leaveW b1 b2 hv hlocks
  exact ⟨T.setFrames fs, ⟨hrun, _, hended, v, locs, rfl, q, A, h1, h2, h3, h4.mono hc hs⟩, fun t k => (st fs hr).trans k⟩
theorem Go.retIS (X : Stand p l e R (s.setVm vm0) m args below meth c T locs cells slots) (hx : p.tables.exec = Jvm.exec) (hEL : EW Z a0 EL) (b : Sb Z EL own m.cls s vm0 h0 H) (eT : T.heap = H) (es : s.heap = h0) {pc : Nat} {Ls : Array Slot} {z : Int32} {rest : List Value} {t : FieldType} (hret : meth.sig.returnType = some t) (hlocks : meth.locks = false)
    (ht : t = .int ∨ t = .boolean ∨ t = .byte ∨ t = .char ∨ t = .short) (hn : narrow t (.int z) = .int z) (hd : decode c.code pc = .ok (.ireturn, 1)) {ce sl : Nat} {Q : Option Value → Heap → Vm → List Loc → Prop} (hc : cells ≤ ce) (hs : slots ≤ sl) (q : Q (some (.int z)) T.heap T.vm locs) :
    Go p.tables e below (FinS Z EL s below ce sl Q) (T.setTop (mkF m pc Ls (.int z :: rest))) :=
  Go.outS X hEL b eT es (fun h => by rw [hret] at h; cases h) hlocks (fun _ hl => retOut X hx hret hn (Or.inl ⟨rfl, ht, z, rfl⟩) hd hl) hc hs q
theorem Go.retAS (X : Stand p l e R (s.setVm vm0) m args below meth c T locs cells slots) (hx : p.tables.exec = Jvm.exec) (hEL : EW Z a0 EL) (b : Sb Z EL own m.cls s vm0 h0 H) (eT : T.heap = H) (es : s.heap = h0) {pc : Nat} {Ls : Array Slot} {w : Value} {rest : List Value} {t : FieldType} (hret : meth.sig.returnType = some t) (hlocks : meth.locks = false)
    (ht : t.isReference = true) (hw : w.isRef = true) (hd : decode c.code pc = .ok (.areturn, 1)) {ce sl : Nat} {Q : Option Value → Heap → Vm → List Loc → Prop} (hc : cells ≤ ce) (hs : slots ≤ sl) (q : Q (some w) T.heap T.vm locs) :
    Go p.tables e below (FinS Z EL s below ce sl Q) (T.setTop (mkF m pc Ls (w :: rest))) :=
  Go.outS X hEL b eT es (fun h => by rw [hret] at h; cases h) hlocks (fun _ hl => retOut X hx hret (by cases t <;> first | (cases ht; done) | (rcases ref_cases hw with rfl | ⟨z, rfl⟩ <;> rfl)) (Or.inr (Or.inr (Or.inr (Or.inr ⟨rfl, ht, hw⟩)))) hd hl) hc hs q
theorem Go.retVS (X : Stand p l e R (s.setVm vm0) m args below meth c T locs cells slots) (hx : p.tables.exec = Jvm.exec) (hEL : EW Z a0 EL) (b : Sb Z EL own m.cls s vm0 h0 H) (eT : T.heap = H) (es : s.heap = h0) {pc : Nat} {Ls : Array Slot} (hret : meth.sig.returnType = none) (hlocks : meth.locks = false)
    (hd : decode c.code pc = .ok (.return_, 1)) {ce sl : Nat} {Q : Option Value → Heap → Vm → List Loc → Prop} (hc : cells ≤ ce) (hs : slots ≤ sl) (q : Q none T.heap T.vm locs) :
    Go p.tables e below (FinS Z EL s below ce sl Q) (T.setTop (mkF m pc Ls [])) :=
  Go.outS X hEL b eT es (fun _ => rfl) hlocks (fun _ hl => X.returnOut hx hret hd hl) hc hs q
/-- a callee that may load constants, by its contract; sf: objects that no constant's cell is -/
theorem own_backS {y : MethodName} {bytes : ByteArray} {maxL : Nat} {ret : Option FieldType} {rm : Room} {len W : Nat} {as' : Array Value} {Q : Option Value → Heap → Vm → List Loc → Prop} {sf : List Addr}
    (hM : MetFree l y (head1 [Cond.code y bytes maxL ret] rm) (fun a U => a = as' ∧ Z.Warmed39 U.vm ∧ U.heap = H ∧ CHv Z EL U.vm H ∧ ∀ x ∈ sf, Safe Z EL U.vm H x) (fun _ _ _ _ _ => True) (fun _ U o U' => ∃ v L, o = .returned v ∧ Q v U'.heap U'.vm L ∧ CHr Z EL U.vm U.heap U'.vm U'.heap ∧ ReturnedEndW U o U' L rm.cells rm.slots))
    (b : Sb Z EL own cls s vm0 h0 H) (wc : (Cond.code y bytes maxL ret).before a0 Z = true) (wz : (Cond.initialized y.cls).before a0 Z = true) (hf : rm.frames + 1 ≤ R.frames) (hl : W + (maxL + 11) + rm.locals ≤ R.locals) (hEL : EW Z a0 EL) (hsf : ∀ x ∈ sf, x < H.size ∧ Safe Z EL vm0 H x) :
    BackS l R p e below (s.setVm vm0) args y len W (fun A a => a = as' ∧ A.U.heap = H ∧ A.cells + rm.cells ≤ R.cells ∧ A.slots + rm.slots ≤ R.slots)
      (fun A _ v B => ∃ L, Q v B.U.heap B.U.vm L ∧ B.locs = A.locs ++ L ∧ B.cells = A.cells + rm.cells ∧ B.slots = A.slots + rm.slots ∧ CHr Z EL vm0 H B.U.vm B.U.heap) := by
  have hZ := b.hZ
  have hC := b.ch
  exact BackS.of_freeW (bytes := bytes) (maxL := maxL) (ret := ret) (E := fun _ first o t L k n => k = rm.cells ∧ n = rm.slots ∧ (∃ v, o = .returned v ∧ Q v t.heap t.vm L) ∧ CHr Z EL first.vm first.heap t.vm t.heap) hM hf hl
    (fun m meth c A a Y hp => by
      have hU : Z.Warmed39 A.U.vm := wtrans (s := s.setVm vm0) hZ Y.warmed
      refine ⟨?_, mv hU wc, mv hU wz, hp.2.2.1, hp.2.2.2⟩
      show (Cond.and _ .tt).before a A.U = true
      rw [Cond.before_and, mv hU wc]; rfl)
    (fun m meth c A a g mk Y hp => by
      have q := CHv.at Y hZ hEL hC
      exact ⟨hp.1, wtrans (s := s.setVm vm0) hZ Y.warmed, hp.2.1, q.1, fun x hx => q.safe (hsf x hx).1 (hsf x hx).2⟩)
    (fun _ _ _ _ _ _ _ _ _ => trivial)
    (fun _ _ _ _ h => by obtain ⟨v, L, h1, h2, h3, h4⟩ := h; exact ⟨L, _, _, h4, rfl, rfl, ⟨v, h1, h2⟩, h3⟩)
    (fun m meth c A a g mk v t L k n Y hp _ _ h => by
      obtain ⟨e1, e2, ⟨v', e3, e4⟩, e5⟩ := h
      cases e3; subst e1 e2
      refine ⟨L, e4, rfl, rfl, rfl, (CHv.at Y hZ hEL hC).trans ?_⟩
      rw [← hp.2.1]; exact e5)
theorem own_reb {vm1 : Vm} (X : Stand p l e R ((s.setVm vm0).setVm vm1) m args below meth c T locs cells slots) : Stand p l e R (s.setVm vm1) m args below meth c T locs cells slots := X
end OwnS
theorem own_EW {Z : State} {a0 : Array Value} (hw : ∀ d ∈ tables_1, d.before a0 Z = true) : EW Z a0 consts_1 := (EW.cons (hw _ (List.mem_of_getElem? (i := 63) rfl)) (by decide +kernel) (EW.cons (hw _ (List.mem_of_getElem? (i := 68) rfl)) (by decide +kernel) (EW.cons (hw _ (List.mem_of_getElem? (i := 69) rfl)) (by decide +kernel) (EW.cons (hw _ (List.mem_of_getElem? (i := 70) rfl)) (by decide +kernel) (EW.cons (hw _ (List.mem_of_getElem? (i := 87) rfl)) (by decide +kernel) (EW.cons (hw _ (List.mem_of_getElem? (i := 18) rfl)) (by decide +kernel) EW.nil))))))
theorem own_SA {Z : State} {a0 : Array Value} (hw : ∀ d ∈ tables_1, d.before a0 Z = true) : ∀ d ∈ Bundle.stringAtoms, d.before a0 Z = true := fun d hd => by
  simp only [Bundle.stringAtoms, List.mem_cons, List.not_mem_nil, or_false] at hd
  rcases hd with rfl | rfl | rfl | rfl | rfl | rfl | rfl
  · exact (hw _ (List.mem_of_getElem? (i := 6) rfl))
  · exact (hw _ (List.mem_of_getElem? (i := 5) rfl))
  · exact (hw _ (List.mem_of_getElem? (i := 19) rfl))
  · exact (hw _ (List.mem_of_getElem? (i := 20) rfl))
  · exact (hw _ (List.mem_of_getElem? (i := 21) rfl))
  · exact (hw _ (List.mem_of_getElem? (i := 22) rfl))
  · exact (hw _ (List.mem_of_getElem? (i := 23) rfl))
def Knd (z : Int32) (vs : List Value) : Prop := (z = (0 : Int32) ∧ vs = []) ∨ (∃ x : Int32, z = (1 : Int32) ∧ vs = [(.int x)]) ∨ (∃ x y : Int32, z = (2 : Int32) ∧ vs = [(.int x), (.int y)])
theorem own_c42 (x : Int32) : ((x &&& (255 : Int32)).toInt8.toInt32) = (42 : Int32) ↔ (x &&& (255 : Int32)) = (42 : Int32) := by
  have h := own_b8 (own_m x).1 (own_m x).2 (y := 42) (by decide) (by decide)
  rw [show ((42 : Int32).toInt8.toInt32) = (42 : Int32) from by decide] at h
  exact h
theorem own_p0 {k c t : Int32} (h : k = (0 : Int32)) (ht : t ≠ 0) : (([] : List Value) = [(.int (42 : Int32))]) ↔ (k = t ∨ (k = (1 : Int32) ∧ c = (42 : Int32))) :=
  ⟨fun q => by simp at q, fun q => q.elim (fun z => absurd (h.symm.trans z) ht.symm) (fun z => absurd (h.symm.trans z.1) (by decide))⟩
theorem own_p1 {k x t : Int32} (h : k = (1 : Int32)) (ht : t ≠ 1) : ([Value.int ((x &&& (255 : Int32)).toInt8.toInt32)] = [(.int (42 : Int32))]) ↔ (k = t ∨ (k = (1 : Int32) ∧ (x &&& (255 : Int32)) = (42 : Int32))) := by
  rw [List.cons.injEq, Value.int.injEq, own_c42]
  exact ⟨fun q => Or.inr ⟨h, q.1⟩, fun q => q.elim (fun z => absurd (h.symm.trans z) ht.symm) (fun z => ⟨z.2, rfl⟩)⟩
theorem own_p2 {k c t : Int32} (h : k = t) : ([Value.int ((42 : Int32).toInt8.toInt32)] = [(.int (42 : Int32))]) ↔ (k = t ∨ (k = (1 : Int32) ∧ c = (42 : Int32))) := ⟨fun _ => Or.inl h, fun _ => by decide⟩
theorem own_p3 {k c t : Int32} {a b : Value} (h1 : ¬ (k = (1 : Int32))) (h2 : ¬ (k = t)) : ([a, b] = [(.int (42 : Int32))]) ↔ (k = t ∨ (k = (1 : Int32) ∧ c = (42 : Int32))) :=
  ⟨fun q => by simp at q, fun q => q.elim (fun z => absurd z h2) (fun z => absurd z.1 h1)⟩
theorem own_k3 {x : Int32} (h0 : ¬ ((x &&& (3 : Int32)) = (0 : Int32))) (h1 : ¬ ((x &&& (3 : Int32)) = (1 : Int32))) (h2 : ¬ ((x &&& (3 : Int32)) = (2 : Int32))) : (x &&& (3 : Int32)) = (3 : Int32) := by
  have h := c_mask x 3 2 (by decide) (by decide)
  have l0 : (0 : Int32).toInt = 0 := rfl
  have l1 : (1 : Int32).toInt = 1 := rfl
  have l2 : (2 : Int32).toInt = 2 := rfl
  have l3 : (3 : Int32).toInt = 3 := rfl
  simp only [← Int32.toInt_inj] at *
  omega
theorem d6_0 : decode jdk_52_method_21_code 0 = .ok (.iconst 0, 1) := by decide +kernel
theorem d6_1 : decode jdk_52_method_21_code 1 = .ok (.istore 5, 2) := by decide +kernel
theorem d6_3 : decode jdk_52_method_21_code 3 = .ok (.iload 5, 2) := by decide +kernel
theorem d6_5 : decode jdk_52_method_21_code 5 = .ok (.iload 4, 2) := by decide +kernel
theorem d6_7 : decode jdk_52_method_21_code 7 = .ok (.if_icmp .ge 37, 3) := by decide +kernel
theorem d6_10 : decode jdk_52_method_21_code 10 = .ok (.aload_n 0, 1) := by decide +kernel
theorem d6_11 : decode jdk_52_method_21_code 11 = .ok (.iload_n 1, 1) := by decide +kernel
theorem d6_12 : decode jdk_52_method_21_code 12 = .ok (.caload, 1) := by decide +kernel
theorem d6_13 : decode jdk_52_method_21_code 13 = .ok (.istore 6, 2) := by decide +kernel
theorem d6_15 : decode jdk_52_method_21_code 15 = .ok (.iload 6, 2) := by decide +kernel
theorem d6_17 : decode jdk_52_method_21_code 17 = .ok (.sipush 255, 3) := by decide +kernel
theorem d6_20 : decode jdk_52_method_21_code 20 = .ok (.if_icmp .le 6, 3) := by decide +kernel
theorem d6_26 : decode jdk_52_method_21_code 26 = .ok (.aload_n 2, 1) := by decide +kernel
theorem d6_27 : decode jdk_52_method_21_code 27 = .ok (.iload_n 3, 1) := by decide +kernel
theorem d6_28 : decode jdk_52_method_21_code 28 = .ok (.iload 6, 2) := by decide +kernel
theorem d6_30 : decode jdk_52_method_21_code 30 = .ok (.i2b, 1) := by decide +kernel
theorem d6_31 : decode jdk_52_method_21_code 31 = .ok (.bastore, 1) := by decide +kernel
theorem d6_32 : decode jdk_52_method_21_code 32 = .ok (.iinc 1 1, 3) := by decide +kernel
theorem d6_35 : decode jdk_52_method_21_code 35 = .ok (.iinc 3 1, 3) := by decide +kernel
theorem d6_38 : decode jdk_52_method_21_code 38 = .ok (.iinc 5 1, 3) := by decide +kernel
theorem d6_41 : decode jdk_52_method_21_code 41 = .ok (.goto (-38), 3) := by decide +kernel
theorem d6_44 : decode jdk_52_method_21_code 44 = .ok (.iload 4, 2) := by decide +kernel
theorem d6_46 : decode jdk_52_method_21_code 46 = .ok (.ireturn, 1) := by decide +kernel
theorem pn_6 : plainName "java/lang/StringUTF16" = true := by first | (simp [plainName, overriddenIn]; done) | decide +kernel
set_option maxHeartbeats 4000000 in
theorem ef_rmC5_1 (m : MethodId) {ca : Addr} {ba : Addr} : entryFrame m #[(.ref ca), (.int (0 : Int32)), (.ref ba), (.int (0 : Int32)), (.int (1 : Int32))] 7 = mkF m 0 #[.val (.ref ca), .val (.int (0 : Int32)), .val (.ref ba), .val (.int (0 : Int32)), .val (.int (1 : Int32)), .unset, .unset] [] := by first | (simp [entryFrame, mkF, argsToLocals, Value.category]; done) | rfl
def QrmC5_1 (Z : State) (vcs : Int32) (ca : Addr) (ba : Addr) (kc : ClassId) (kb : ClassId) (c0 : Int32) (h0 : Heap) (n0 : Nat) (v : Option Value) (h : Heap) (L : List Loc) : Prop := (v = some (.int (1 : Int32))) ∧ (Fr n0 L) ∧ (Keep h0 h [ba]) ∧ (Arv Z h ba kb .byte (1 : Int32) [(.int (c0.toInt8.toInt32))] (.int (0 : Int32)))
set_option maxRecDepth 65536 in
set_option maxHeartbeats 40000000 in
theorem rmC5_1 (l : Launch) (Z : State) (a0 : Array Value) (hw : ∀ d ∈ tables_1, d.before a0 Z = true) (ws : List Jvm.Cond) (vcs : Int32) (G : Gh Z vcs) (ca : Addr) (ba : Addr) (kc : ClassId) (kb : ClassId) (c0 : Int32) (h0 : Heap) (n0 : Nat) (O0 : Old Z n0 h0) (VC : Arv Z h0 ca kc .char (1 : Int32) [(.int c0)] (.int (0 : Int32))) (VB : Arv Z h0 ba kb .byte (1 : Int32) [(.int (0 : Int32))] (.int (0 : Int32))) (g_ba : n0 ≤ ba) (hne : ca ≠ ba) (hb0 : ¬ ((255 : Int32) < c0)) :
    MetFree l (⟨"java/lang/StringUTF16", "compress", "([CI[BII)I"⟩ : MethodName) (head1 (Jvm.Cond.code (⟨"java/lang/StringUTF16", "compress", "([CI[BII)I"⟩ : MethodName) jdk_52_method_21_code 7 (some .int) :: ws) ({ frames := 0, cells := 0, slots := 0, locals := 0 } : Room)) (fun aa' UU' => aa' = #[(.ref ca), (.int (0 : Int32)), (.ref ba), (.int (0 : Int32)), (.int (1 : Int32))] ∧ Z.Warmed39 UU'.vm ∧ UU'.heap = h0) (fun _ _ _ _ _ => True) (fun _ UU' oo' VV' => ∃ v' L', oo' = .returned v' ∧ QrmC5_1 Z vcs ca ba kc kb c0 h0 n0 v' VV'.heap L' ∧ FrameEnd UU' oo' VV' L' ({ frames := 0, cells := 0, slots := 0, locals := 0 } : Room).cells ({ frames := 0, cells := 0, slots := 0, locals := 0 } : Room).slots) := by
  refine MetFree.of_bodySF (plainFor_of_name pn_6) hisR ?_
  intro p e s m args below meth c s₁ Bd hml0 hP hK
  obtain ⟨rfl, hZ, hh⟩ := hP
  have hx := Bd.exec
  have hby := Bd.bytes
  have hlk := Bd.notSynchronized
  have hml : c.maxLocals = 7 := hml0
  have hown : s.vm.findClass "java/lang/StringUTF16" = some m.cls := findClass_of_methodNamed Bd.named
  have hnm := (name_of_methodNamed Bd.named Bd.method).1
  have hret := Bd.returns
  have X0 : Stand p l e ({ frames := 0, cells := 0, slots := 0, locals := 0 } : Room) s m #[(.ref ca), (.int (0 : Int32)), (.ref ba), (.int (0 : Int32)), (.int (1 : Int32))] below meth c s₁ [] 0 0 := Stand.of_body Bd
  have e0 : s₁.heap = h0 := by rw [← hh, Bd.state]; rfl
  have N0 := Fr.nil n0
  have KC0 : Keep h0 h0 [ba] := Keep.refl _ _
  refine Go.body ?_
  obtain ⟨Pf, hPf⟩ : ∃ P, P = Fin' s below ({ frames := 0, cells := 0, slots := 0, locals := 0 } : Room).cells ({ frames := 0, cells := 0, slots := 0, locals := 0 } : Room).slots (QrmC5_1 Z vcs ca ba kc kb c0 h0 n0) := ⟨_, rfl⟩
  rw [← hPf]
  refine Go.cast (ef_rmC5_1 m) ?_
  show Go p.tables e below Pf (s₁.setTop (mkF m 0 #[.val (.ref ca), .val (.int (0 : Int32)), .val (.ref ba), .val (.int (0 : Int32)), .val (.int (1 : Int32)), .unset, .unset] []))
  refine Go.by' (fun t k => (XS.iconst X0.here hx rfl (hb hby d6_0) (XS.istore X0.here hx rfl (hb hby d6_1) rfl (l' := #[.val (.ref ca), .val (.int (0 : Int32)), .val (.ref ba), .val (.int (0 : Int32)), .val (.int (1 : Int32)), .val (.int (0 : Int32)), .unset]) rfl (XS.iload X0.here hx rfl (hb hby d6_3) rfl (XS.iload X0.here hx rfl (hb hby d6_5) rfl (XS.icmpNo X0.here hx rfl (hb hby d6_7) rfl (tlt (by decide)).2.1 (XS.aloadN X0.here hx rfl (hb hby d6_10) rfl rfl k))))))) ?_
  show Go p.tables e below Pf (s₁.setTop (mkF m 11 #[.val (.ref ca), .val (.int (0 : Int32)), .val (.ref ba), .val (.int (0 : Int32)), .val (.int (1 : Int32)), .val (.int (0 : Int32)), .unset] [(.ref ca)]))
  refine Go.by' (fun t k => (XS.iloadN X0.here hx rfl (hb hby d6_11) rfl k)) ?_
  show Go p.tables e below Pf (s₁.setTop (mkF m 12 #[.val (.ref ca), .val (.int (0 : Int32)), .val (.ref ba), .val (.int (0 : Int32)), .val (.int (1 : Int32)), .val (.int (0 : Int32)), .unset] [(.int (0 : Int32)), (.ref ca)]))
  obtain ⟨cl1, Ar1, q1, S1, P1, H1, G1⟩ := (id VC)
  have hin1 : ¬ ((0 : Int32) < 0 ∨ cl1.slots.size ≤ ((0 : Int32)).toNatClampNeg) := inb_of S1 ⟨by decide, by decide⟩
  refine Go.by' (fun t k => (X0.caload hx (j := (0 : Int32)) (v := (.int c0)) (by rw [e0]; exact Ar1.1) (State.isArrayOf_alike hZ.alike Ar1.2.1) Ar1.2.2 hin1 (H1.at hin1 rfl) (g := (mkF m 12 #[.val (.ref ca), .val (.int (0 : Int32)), .val (.ref ba), .val (.int (0 : Int32)), .val (.int (1 : Int32)), .val (.int (0 : Int32)), .unset] [(.int (0 : Int32)), (.ref ca)])) rfl rfl (hb hby d6_12) t (XS.istore X0.here hx rfl (hb hby d6_13) rfl (l' := #[.val (.ref ca), .val (.int (0 : Int32)), .val (.ref ba), .val (.int (0 : Int32)), .val (.int (1 : Int32)), .val (.int (0 : Int32)), .val (.int c0)]) rfl (XS.iload X0.here hx rfl (hb hby d6_15) rfl (XS.sipush X0.here hx rfl (hb hby d6_17) (XS.icmpYes X0.here hx rfl (pc0 := 20) (pc' := 26) rfl (hb hby d6_20) rfl (flt hb0).2.2.2 (by decide) (by decide) (XS.aloadN X0.here hx rfl (hb hby d6_26) rfl rfl k))))))) ?_
  show Go p.tables e below Pf (s₁.setTop (mkF m 27 #[.val (.ref ca), .val (.int (0 : Int32)), .val (.ref ba), .val (.int (0 : Int32)), .val (.int (1 : Int32)), .val (.int (0 : Int32)), .val (.int c0)] [(.ref ba)]))
  refine Go.by' (fun t k => (XS.iloadN X0.here hx rfl (hb hby d6_27) rfl (XS.iload X0.here hx rfl (hb hby d6_28) rfl (XS.i2b X0.here hx rfl (hb hby d6_30) rfl k)))) ?_
  show Go p.tables e below Pf (s₁.setTop (mkF m 31 #[.val (.ref ca), .val (.int (0 : Int32)), .val (.ref ba), .val (.int (0 : Int32)), .val (.int (1 : Int32)), .val (.int (0 : Int32)), .val (.int c0)] [(.int (c0.toInt8.toInt32)), (.int (0 : Int32)), (.ref ba)]))
  obtain ⟨cl2, Ar2, q2, S2, P2, H2, G2⟩ := (id VB)
  have hin2 : ¬ ((0 : Int32) < 0 ∨ cl2.slots.size ≤ ((0 : Int32)).toNatClampNeg) := inb_of S2 ⟨by decide, by decide⟩
  obtain ⟨T3, h3, X3, e3, W3, st3⟩ := stB X0 hx hZ e0 Ar2 (j := (0 : Int32)) hin2 (g := (mkF m 31 #[.val (.ref ca), .val (.int (0 : Int32)), .val (.ref ba), .val (.int (0 : Int32)), .val (.int (1 : Int32)), .val (.int (0 : Int32)), .val (.int c0)] [(.int (c0.toInt8.toInt32)), (.int (0 : Int32)), (.ref ba)])) rfl rfl (hb hby d6_31)
  refine Go.by' st3 ?_
  rw [own_bb] at W3
  have V3 : Arv Z h3 ba kb .byte (1 : Int32) [(.int (c0.toInt8.toInt32))] (Value.int (0 : Int32)) := Arv.set Ar2 q2 S2 P2 H2 G2 (fits_nar_byte _) W3 0 rfl (Nat.le_of_ble_eq_true rfl)
  have N3 := Fr.snoc X3 N0 g_ba
  obtain ⟨lc3, X3, N3⟩ := own_pack X3 N3
  have O3 := O0.wr W3 g_ba
  have KC3 : Keep h0 h3 [ba] := KC0.wr W3 (Or.inl (List.mem_of_getElem? (i := 0) rfl))
  show Go p.tables e below Pf (T3.setTop (mkF m 32 #[.val (.ref ca), .val (.int (0 : Int32)), .val (.ref ba), .val (.int (0 : Int32)), .val (.int (1 : Int32)), .val (.int (0 : Int32)), .val (.int c0)] []))
  refine Go.by' (fun t k => (XS.iinc X3.here hx rfl (hb hby d6_32) rfl (l' := #[.val (.ref ca), .val (.int ((0 : Int32) + (1 : Int32))), .val (.ref ba), .val (.int (0 : Int32)), .val (.int (1 : Int32)), .val (.int (0 : Int32)), .val (.int c0)]) rfl k)) ?_
  show Go p.tables e below Pf (T3.setTop (mkF m 35 #[.val (.ref ca), .val (.int ((0 : Int32) + (1 : Int32))), .val (.ref ba), .val (.int (0 : Int32)), .val (.int (1 : Int32)), .val (.int (0 : Int32)), .val (.int c0)] []))
  refine Go.castF (a := ((0 : Int32) + (1 : Int32))) (b := (1 : Int32)) (fun z' : Int32 => mkF m 35 #[.val (.ref ca), .val (.int z'), .val (.ref ba), .val (.int (0 : Int32)), .val (.int (1 : Int32)), .val (.int (0 : Int32)), .val (.int c0)] []) (by decide) ?_
  show Go p.tables e below Pf (T3.setTop (mkF m 35 #[.val (.ref ca), .val (.int (1 : Int32)), .val (.ref ba), .val (.int (0 : Int32)), .val (.int (1 : Int32)), .val (.int (0 : Int32)), .val (.int c0)] []))
  refine Go.by' (fun t k => (XS.iinc X3.here hx rfl (hb hby d6_35) rfl (l' := #[.val (.ref ca), .val (.int (1 : Int32)), .val (.ref ba), .val (.int ((0 : Int32) + (1 : Int32))), .val (.int (1 : Int32)), .val (.int (0 : Int32)), .val (.int c0)]) rfl k)) ?_
  show Go p.tables e below Pf (T3.setTop (mkF m 38 #[.val (.ref ca), .val (.int (1 : Int32)), .val (.ref ba), .val (.int ((0 : Int32) + (1 : Int32))), .val (.int (1 : Int32)), .val (.int (0 : Int32)), .val (.int c0)] []))
  refine Go.castF (a := ((0 : Int32) + (1 : Int32))) (b := (1 : Int32)) (fun z' : Int32 => mkF m 38 #[.val (.ref ca), .val (.int (1 : Int32)), .val (.ref ba), .val (.int z'), .val (.int (1 : Int32)), .val (.int (0 : Int32)), .val (.int c0)] []) (by decide) ?_
  show Go p.tables e below Pf (T3.setTop (mkF m 38 #[.val (.ref ca), .val (.int (1 : Int32)), .val (.ref ba), .val (.int (1 : Int32)), .val (.int (1 : Int32)), .val (.int (0 : Int32)), .val (.int c0)] []))
  refine Go.by' (fun t k => (XS.iinc X3.here hx rfl (hb hby d6_38) rfl (l' := #[.val (.ref ca), .val (.int (1 : Int32)), .val (.ref ba), .val (.int (1 : Int32)), .val (.int (1 : Int32)), .val (.int ((0 : Int32) + (1 : Int32))), .val (.int c0)]) rfl k)) ?_
  show Go p.tables e below Pf (T3.setTop (mkF m 41 #[.val (.ref ca), .val (.int (1 : Int32)), .val (.ref ba), .val (.int (1 : Int32)), .val (.int (1 : Int32)), .val (.int ((0 : Int32) + (1 : Int32))), .val (.int c0)] []))
  refine Go.castF (a := ((0 : Int32) + (1 : Int32))) (b := (1 : Int32)) (fun z' : Int32 => mkF m 41 #[.val (.ref ca), .val (.int (1 : Int32)), .val (.ref ba), .val (.int (1 : Int32)), .val (.int (1 : Int32)), .val (.int z'), .val (.int c0)] []) (by decide) ?_
  show Go p.tables e below Pf (T3.setTop (mkF m 41 #[.val (.ref ca), .val (.int (1 : Int32)), .val (.ref ba), .val (.int (1 : Int32)), .val (.int (1 : Int32)), .val (.int (1 : Int32)), .val (.int c0)] []))
  refine Go.by' (fun t k => (XS.goto X3.here hx rfl (pc0 := 41) (pc' := 3) rfl (hb hby d6_41) (by decide) (by decide) (XS.iload X3.here hx rfl (hb hby d6_3) rfl (XS.iload X3.here hx rfl (hb hby d6_5) rfl (XS.icmpYes X3.here hx rfl (pc0 := 7) (pc' := 44) rfl (hb hby d6_7) rfl (flt (by decide)).2.1 (by decide) (by decide) (XS.iload X3.here hx rfl (hb hby d6_44) rfl k)))))) ?_
  show Go p.tables e below Pf (T3.setTop (mkF m 46 #[.val (.ref ca), .val (.int (1 : Int32)), .val (.ref ba), .val (.int (1 : Int32)), .val (.int (1 : Int32)), .val (.int (1 : Int32)), .val (.int c0)] [(.int (1 : Int32))]))
  rw [hPf]
  exact Go.retI' X3 hx hret hlk (by simp) rfl (hb hby d6_46) (by decide) (by decide) ⟨rfl, N3, (by rw [e3]; exact KC3), (by rw [e3]; exact V3)⟩
theorem d5_0 : decode jdk_52_method_16_code 0 = .ok (.iload_n 2, 1) := by decide +kernel
theorem d5_1 : decode jdk_52_method_16_code 1 = .ok (.newarray .byte, 2) := by decide +kernel
theorem d5_3 : decode jdk_52_method_16_code 3 = .ok (.astore_n 3, 1) := by decide +kernel
theorem d5_4 : decode jdk_52_method_16_code 4 = .ok (.aload_n 0, 1) := by decide +kernel
theorem d5_5 : decode jdk_52_method_16_code 5 = .ok (.iload_n 1, 1) := by decide +kernel
theorem d5_6 : decode jdk_52_method_16_code 6 = .ok (.aload_n 3, 1) := by decide +kernel
theorem d5_7 : decode jdk_52_method_16_code 7 = .ok (.iconst 0, 1) := by decide +kernel
theorem d5_8 : decode jdk_52_method_16_code 8 = .ok (.iload_n 2, 1) := by decide +kernel
theorem d5_9 : decode jdk_52_method_16_code 9 = .ok (.invokestatic 115, 3) := by decide +kernel
theorem pd_0 : parseMethodDescriptor "([CI[BII)I" = some ⟨[(.array .char), .int, (.array .byte), .int, .int], some .int⟩ := by decide +kernel
theorem d5_12 : decode jdk_52_method_16_code 12 = .ok (.istore 4, 2) := by decide +kernel
theorem d5_14 : decode jdk_52_method_16_code 14 = .ok (.iload 4, 2) := by decide +kernel
theorem d5_16 : decode jdk_52_method_16_code 16 = .ok (.iload_n 2, 1) := by decide +kernel
theorem d5_17 : decode jdk_52_method_16_code 17 = .ok (.if_icmp .eq 40, 3) := by decide +kernel
theorem d5_57 : decode jdk_52_method_16_code 57 = .ok (.aload_n 3, 1) := by decide +kernel
theorem d5_58 : decode jdk_52_method_16_code 58 = .ok (.areturn, 1) := by decide +kernel
theorem pn_5 : plainName "java/lang/StringUTF16" = true := by first | (simp [plainName, overriddenIn]; done) | decide +kernel
set_option maxHeartbeats 4000000 in
theorem ef_rmC3_1 (m : MethodId) {ca : Addr} : entryFrame m #[(.ref ca), (.int (0 : Int32)), (.int (1 : Int32))] 6 = mkF m 0 #[.val (.ref ca), .val (.int (0 : Int32)), .val (.int (1 : Int32)), .unset, .unset, .unset] [] := by first | (simp [entryFrame, mkF, argsToLocals, Value.category]; done) | rfl
def QrmC3_1 (Z : State) (vcs : Int32) (ca : Addr) (kc : ClassId) (c0 : Int32) (h0 : Heap) (n0 : Nat) (v : Option Value) (h : Heap) (L : List Loc) : Prop := ∃ (rb : Addr) (kb : ClassId), (v = some (.ref rb)) ∧ (Fr n0 L) ∧ (Keep h0 h []) ∧ (Arv Z h rb kb .byte (1 : Int32) [(.int (c0.toInt8.toInt32))] (.int (0 : Int32))) ∧ (h0.size ≤ rb)
set_option maxRecDepth 65536 in
set_option maxHeartbeats 40000000 in
theorem rmC3_1 (l : Launch) (Z : State) (a0 : Array Value) (hw : ∀ d ∈ tables_1, d.before a0 Z = true) (ws : List Jvm.Cond) (vcs : Int32) (G : Gh Z vcs) (ca : Addr) (kc : ClassId) (c0 : Int32) (h0 : Heap) (n0 : Nat) (O0 : Old Z n0 h0) (VC : Arv Z h0 ca kc .char (1 : Int32) [(.int c0)] (.int (0 : Int32))) (hb0 : ¬ ((255 : Int32) < c0)) :
    MetFree l (⟨"java/lang/StringUTF16", "compress", "([CII)[B"⟩ : MethodName) (head1 (Jvm.Cond.code (⟨"java/lang/StringUTF16", "compress", "([CII)[B"⟩ : MethodName) jdk_52_method_16_code 6 (some (.array .byte)) :: ws) ({ frames := 1, cells := 1, slots := 1, locals := 18 } : Room)) (fun aa' UU' => aa' = #[(.ref ca), (.int (0 : Int32)), (.int (1 : Int32))] ∧ Z.Warmed39 UU'.vm ∧ UU'.heap = h0) (fun _ _ _ _ _ => True) (fun _ UU' oo' VV' => ∃ v' L', oo' = .returned v' ∧ QrmC3_1 Z vcs ca kc c0 h0 n0 v' VV'.heap L' ∧ FrameEnd UU' oo' VV' L' ({ frames := 1, cells := 1, slots := 1, locals := 18 } : Room).cells ({ frames := 1, cells := 1, slots := 1, locals := 18 } : Room).slots) := by
  refine MetFree.of_bodySF (plainFor_of_name pn_5) hisR ?_
  intro p e s m args below meth c s₁ Bd hml0 hP hK
  obtain ⟨rfl, hZ, hh⟩ := hP
  have hx := Bd.exec
  have hby := Bd.bytes
  have hlk := Bd.notSynchronized
  have hml : c.maxLocals = 6 := hml0
  have hown : s.vm.findClass "java/lang/StringUTF16" = some m.cls := findClass_of_methodNamed Bd.named
  have hnm := (name_of_methodNamed Bd.named Bd.method).1
  have hret := Bd.returns
  have X0 : Stand p l e ({ frames := 1, cells := 1, slots := 1, locals := 18 } : Room) s m #[(.ref ca), (.int (0 : Int32)), (.int (1 : Int32))] below meth c s₁ [] 0 0 := Stand.of_body Bd
  have e0 : s₁.heap = h0 := by rw [← hh, Bd.state]; rfl
  have N0 := Fr.nil n0
  have KC0 : Keep h0 h0 [] := Keep.refl _ _
  refine Go.body ?_
  obtain ⟨Pf, hPf⟩ : ∃ P, P = Fin' s below ({ frames := 1, cells := 1, slots := 1, locals := 18 } : Room).cells ({ frames := 1, cells := 1, slots := 1, locals := 18 } : Room).slots (QrmC3_1 Z vcs ca kc c0 h0 n0) := ⟨_, rfl⟩
  rw [← hPf]
  refine Go.cast (ef_rmC3_1 m) ?_
  have hw19 := (hw _ (List.mem_of_getElem? (i := 19) rfl))
  have hw29 := (hw _ (List.mem_of_getElem? (i := 29) rfl))
  have hw31 := (hw _ (List.mem_of_getElem? (i := 31) rfl))
  have hw32 := (hw _ (List.mem_of_getElem? (i := 32) rfl))
  have hw33 := (hw _ (List.mem_of_getElem? (i := 33) rfl))
  show Go p.tables e below Pf (s₁.setTop (mkF m 0 #[.val (.ref ca), .val (.int (0 : Int32)), .val (.int (1 : Int32)), .unset, .unset, .unset] []))
  refine Go.by' (fun t k => (XS.iloadN X0.here hx rfl (hb hby d5_0) rfl k)) ?_
  show Go p.tables e below Pf (s₁.setTop (mkF m 1 #[.val (.ref ca), .val (.int (0 : Int32)), .val (.int (1 : Int32)), .unset, .unset, .unset] [(.int (1 : Int32))]))
  obtain ⟨T4, h4, k4, X4, e4, E4, A4, st4⟩ := newP (aty := .byte) X0 hx hZ hw19 e0 (g := (mkF m 1 #[.val (.ref ca), .val (.int (0 : Int32)), .val (.int (1 : Int32)), .unset, .unset, .unset] [(.int (1 : Int32))])) rfl (hb hby d5_1) rfl (by decide) (cap := 1) (by decide) (by decide) (by decide) (by decide)
  obtain ⟨b4, g4⟩ : ∃ z, z = h0.size := ⟨_, rfl⟩
  rw [← g4] at A4 st4
  refine Go.by' st4 ?_
  have g_b4 : n0 ≤ b4 := Nat.le_trans (own_le O0) (Nat.le_of_eq g4.symm)
  have sz_b4 : h0.size ≤ b4 := Nat.le_trans KC0.1 (Nat.le_of_eq g4.symm)
  have O4 := O0.ext E4
  have KC4 : Keep h0 h4 [] := KC0.ext E4
  have V4 : Arv Z h4 b4 k4 .byte (1 : Int32) [(.int (0 : Int32))] (Value.int (0 : Int32)) := (Arv.new A4 (by decide)).pad (pad_rep [] (Value.int (0 : Int32)) 1)
  show Go p.tables e below Pf (T4.setTop (mkF m 3 #[.val (.ref ca), .val (.int (0 : Int32)), .val (.int (1 : Int32)), .unset, .unset, .unset] [(.ref b4)]))
  refine Go.by' (fun t k => (XS.astoreN X4.here hx rfl (hb hby d5_3) rfl rfl (l' := #[.val (.ref ca), .val (.int (0 : Int32)), .val (.int (1 : Int32)), .val (.ref b4), .unset, .unset]) rfl (XS.aloadN X4.here hx rfl (hb hby d5_4) rfl rfl (XS.iloadN X4.here hx rfl (hb hby d5_5) rfl (XS.aloadN X4.here hx rfl (hb hby d5_6) rfl rfl (XS.iconst X4.here hx rfl (hb hby d5_7) (XS.iloadN X4.here hx rfl (hb hby d5_8) rfl k))))))) ?_
  show Go p.tables e below Pf (T4.setTop (mkF m 9 #[.val (.ref ca), .val (.int (0 : Int32)), .val (.int (1 : Int32)), .val (.ref b4), .unset, .unset] [(.int (1 : Int32)), (.int (0 : Int32)), (.ref b4), (.int (0 : Int32)), (.ref ca)]))
  obtain ⟨_, _, ⟨T5, L5, k5, n5⟩, -, X5, ⟨Lc5, hQ5, l5, y5, z5⟩, st5⟩ := Jvm.LawKit.callS X4 hx (y := (⟨"java/lang/StringUTF16", "compress", "([CI[BII)I"⟩ : MethodName)) hown (mvT hZ hw31) (mvT hZ hw32) (mvT hZ hw29) (mvT hZ hw33) (by decide) (backOf (W := 0) (rmC5_1 l Z a0 hw [] vcs G ca b4 kc k4 c0 h4 n0 O4 (VC.ext E4) V4 g_b4 (Nat.ne_of_lt (Nat.lt_of_lt_of_le VC.lt (Nat.le_of_eq g4.symm))) hb0) hZ hw33 hw29 (by decide) (by decide)) (g := (mkF m 9 #[.val (.ref ca), .val (.int (0 : Int32)), .val (.int (1 : Int32)), .val (.ref b4), .unset, .unset] [(.int (1 : Int32)), (.int (0 : Int32)), (.ref b4), (.int (0 : Int32)), (.ref ca)])) rfl (by rw [hml]; rfl) (argsL := [(.ref ca), (.int (0 : Int32)), (.ref b4), (.int (0 : Int32)), (.int (1 : Int32))]) (rest := []) (lenOf pd_0 rfl) rfl (by show 2 * 0 + _ ≤ _; exact Nat.le_of_eq rfl) (hb hby d5_9) (fun _ _ => ⟨rfl, e4, (by decide : 1 + 0 ≤ _), (by decide : 1 + 0 ≤ _)⟩)
  dsimp only [Pt.U, Pt.locs, Pt.cells, Pt.slots] at X5 l5 y5 z5 st5 hQ5
  subst l5 y5 z5
  obtain ⟨rfl, N5q, K5, f5_0⟩ := hQ5
  have N5 := Fr.app N0 N5q
  obtain ⟨lc5, X5, N5⟩ := own_pack X5 N5
  refine Go.by' st5 ?_
  have O5 := O4.keep K5 (allS g_b4 all0)
  have KC5 : Keep h0 T5.heap [] := KC4.trans K5 (allS (Or.inr sz_b4) all0)
  show Go p.tables e below Pf (T5.setTop (mkF m 12 #[.val (.ref ca), .val (.int (0 : Int32)), .val (.int (1 : Int32)), .val (.ref b4), .unset, .unset] [(.int (1 : Int32))]))
  refine Go.by' (fun t k => (XS.istore X5.here hx rfl (hb hby d5_12) rfl (l' := #[.val (.ref ca), .val (.int (0 : Int32)), .val (.int (1 : Int32)), .val (.ref b4), .val (.int (1 : Int32)), .unset]) rfl (XS.iload X5.here hx rfl (hb hby d5_14) rfl (XS.iloadN X5.here hx rfl (hb hby d5_16) rfl (XS.icmpYes X5.here hx rfl (pc0 := 17) (pc' := 57) rfl (hb hby d5_17) rfl (teq (by decide)).1 (by decide) (by decide) (XS.aloadN X5.here hx rfl (hb hby d5_57) rfl rfl k)))))) ?_
  show Go p.tables e below Pf (T5.setTop (mkF m 58 #[.val (.ref ca), .val (.int (0 : Int32)), .val (.int (1 : Int32)), .val (.ref b4), .val (.int (1 : Int32)), .unset] [(.ref b4)]))
  rw [hPf]
  exact Go.retA' X5 hx hret hlk rfl rfl (hb hby d5_58) (by decide) (by decide) ⟨b4, k4, rfl, N5, KC5, f5_0, sz_b4⟩
theorem d7_0 : decode jdk_52_method_15_code 0 = .ok (.iload_n 1, 1) := by decide +kernel
theorem d7_1 : decode jdk_52_method_15_code 1 = .ok (.aload_n 0, 1) := by decide +kernel
theorem d7_2 : decode jdk_52_method_15_code 2 = .ok (.arraylength, 1) := by decide +kernel
theorem d7_3 : decode jdk_52_method_15_code 3 = .ok (.isub, 1) := by decide +kernel
theorem d7_4 : decode jdk_52_method_15_code 4 = .ok (.bipush 31, 2) := by decide +kernel
theorem d7_6 : decode jdk_52_method_15_code 6 = .ok (.iushr, 1) := by decide +kernel
theorem d7_7 : decode jdk_52_method_15_code 7 = .ok (.i2b, 1) := by decide +kernel
theorem d7_8 : decode jdk_52_method_15_code 8 = .ok (.ireturn, 1) := by decide +kernel
theorem pn_7 : plainName "java/lang/StringUTF16" = true := by first | (simp [plainName, overriddenIn]; done) | decide +kernel
set_option maxHeartbeats 4000000 in
theorem ef_rmCL_1 (m : MethodId) {ba : Addr} : entryFrame m #[(.ref ba), (.int (1 : Int32))] 2 = mkF m 0 #[.val (.ref ba), .val (.int (1 : Int32))] [] := by first | (simp [entryFrame, mkF, argsToLocals, Value.category]; done) | rfl
def QrmCL_1 (Z : State) (vcs : Int32) (ba : Addr) (kb : ClassId) (x0 : Value) (h0 : Heap) (n0 : Nat) (v : Option Value) (h : Heap) (L : List Loc) : Prop := (v = some (.int (0 : Int32))) ∧ (L = []) ∧ (h = h0)
set_option maxRecDepth 65536 in
set_option maxHeartbeats 40000000 in
theorem rmCL_1 (l : Launch) (Z : State) (a0 : Array Value) (hw : ∀ d ∈ tables_1, d.before a0 Z = true) (ws : List Jvm.Cond) (vcs : Int32) (G : Gh Z vcs) (ba : Addr) (kb : ClassId) (x0 : Value) (h0 : Heap) (n0 : Nat) (O0 : Old Z n0 h0) (VB : Arv Z h0 ba kb .byte (1 : Int32) [x0] (.int (0 : Int32))) :
    MetFree l (⟨"java/lang/StringUTF16", "coderFromArrayLen", "([BI)B"⟩ : MethodName) (head1 (Jvm.Cond.code (⟨"java/lang/StringUTF16", "coderFromArrayLen", "([BI)B"⟩ : MethodName) jdk_52_method_15_code 2 (some .byte) :: ws) ({ frames := 0, cells := 0, slots := 0, locals := 0 } : Room)) (fun aa' UU' => aa' = #[(.ref ba), (.int (1 : Int32))] ∧ Z.Warmed39 UU'.vm ∧ UU'.heap = h0) (fun _ _ _ _ _ => True) (fun _ UU' oo' VV' => ∃ v' L', oo' = .returned v' ∧ QrmCL_1 Z vcs ba kb x0 h0 n0 v' VV'.heap L' ∧ FrameEnd UU' oo' VV' L' ({ frames := 0, cells := 0, slots := 0, locals := 0 } : Room).cells ({ frames := 0, cells := 0, slots := 0, locals := 0 } : Room).slots) := by
  refine MetFree.of_bodySF (plainFor_of_name pn_7) hisR ?_
  intro p e s m args below meth c s₁ Bd hml0 hP hK
  obtain ⟨rfl, hZ, hh⟩ := hP
  have hx := Bd.exec
  have hby := Bd.bytes
  have hlk := Bd.notSynchronized
  have hml : c.maxLocals = 2 := hml0
  have hown : s.vm.findClass "java/lang/StringUTF16" = some m.cls := findClass_of_methodNamed Bd.named
  have hnm := (name_of_methodNamed Bd.named Bd.method).1
  have hret := Bd.returns
  have X0 : Stand p l e ({ frames := 0, cells := 0, slots := 0, locals := 0 } : Room) s m #[(.ref ba), (.int (1 : Int32))] below meth c s₁ [] 0 0 := Stand.of_body Bd
  have e0 : s₁.heap = h0 := by rw [← hh, Bd.state]; rfl
  have N0 := Fr.nil n0
  refine Go.body ?_
  obtain ⟨Pf, hPf⟩ : ∃ P, P = Fin' s below ({ frames := 0, cells := 0, slots := 0, locals := 0 } : Room).cells ({ frames := 0, cells := 0, slots := 0, locals := 0 } : Room).slots (QrmCL_1 Z vcs ba kb x0 h0 n0) := ⟨_, rfl⟩
  rw [← hPf]
  refine Go.cast (ef_rmCL_1 m) ?_
  show Go p.tables e below Pf (s₁.setTop (mkF m 0 #[.val (.ref ba), .val (.int (1 : Int32))] []))
  refine Go.by' (fun t k => (XS.iloadN X0.here hx rfl (hb hby d7_0) rfl (XS.aloadN X0.here hx rfl (hb hby d7_1) rfl rfl k))) ?_
  show Go p.tables e below Pf (s₁.setTop (mkF m 2 #[.val (.ref ba), .val (.int (1 : Int32))] [(.ref ba), (.int (1 : Int32))]))
  obtain ⟨cl6, Ar6, -, S6, P6, -, -⟩ := (id VB)
  refine Go.by' (fun t k => (X0.arraylength hx (by rw [e0]; exact Ar6.1) (State.isArrayOf_alike hZ.alike Ar6.2.1) (g := (mkF m 2 #[.val (.ref ba), .val (.int (1 : Int32))] [(.ref ba), (.int (1 : Int32))])) rfl rfl (hb hby d7_2) t k)) ?_
  rw [len_of S6 P6]
  show Go p.tables e below Pf (s₁.setTop (mkF m 3 #[.val (.ref ba), .val (.int (1 : Int32))] [(.int (1 : Int32)), (.int (1 : Int32))]))
  refine Go.by' (fun t k => (XS.isub X0.here hx rfl (hb hby d7_3) rfl k)) ?_
  show Go p.tables e below Pf (s₁.setTop (mkF m 4 #[.val (.ref ba), .val (.int (1 : Int32))] [(.int ((1 : Int32) - (1 : Int32)))]))
  refine Go.castF (a := ((1 : Int32) - (1 : Int32))) (b := (0 : Int32)) (fun z' : Int32 => mkF m 4 #[.val (.ref ba), .val (.int (1 : Int32))] [(.int z')]) (by decide) ?_
  show Go p.tables e below Pf (s₁.setTop (mkF m 4 #[.val (.ref ba), .val (.int (1 : Int32))] [(.int (0 : Int32))]))
  refine Go.by' (fun t k => (XS.bipush X0.here hx rfl (hb hby d7_4) (XS.iushr X0.here hx rfl (hb hby d7_6) rfl k))) ?_
  show Go p.tables e below Pf (s₁.setTop (mkF m 7 #[.val (.ref ba), .val (.int (1 : Int32))] [(.int (((0 : Int32).toUInt32 >>> ((31 : Int32) &&& 31).toUInt32).toInt32))]))
  refine Go.castF (a := (((0 : Int32).toUInt32 >>> ((31 : Int32) &&& 31).toUInt32).toInt32)) (b := (0 : Int32)) (fun z' : Int32 => mkF m 7 #[.val (.ref ba), .val (.int (1 : Int32))] [(.int z')]) (by decide) ?_
  show Go p.tables e below Pf (s₁.setTop (mkF m 7 #[.val (.ref ba), .val (.int (1 : Int32))] [(.int (0 : Int32))]))
  refine Go.by' (fun t k => (XS.i2b X0.here hx rfl (hb hby d7_7) rfl k)) ?_
  show Go p.tables e below Pf (s₁.setTop (mkF m 8 #[.val (.ref ba), .val (.int (1 : Int32))] [(.int ((0 : Int32).toInt8.toInt32))]))
  refine Go.castF (a := ((0 : Int32).toInt8.toInt32)) (b := (0 : Int32)) (fun z' : Int32 => mkF m 8 #[.val (.ref ba), .val (.int (1 : Int32))] [(.int z')]) (by decide) ?_
  show Go p.tables e below Pf (s₁.setTop (mkF m 8 #[.val (.ref ba), .val (.int (1 : Int32))] [(.int (0 : Int32))]))
  rw [hPf]
  exact Go.retI' X0 hx hret hlk (by simp) rfl (hb hby d7_8) (by decide) (by decide) ⟨rfl, rfl, e0⟩
theorem d3_0 : decode jdk_42_method_149_code 0 = .ok (.aload_n 0, 1) := by decide +kernel
theorem d3_1 : decode jdk_42_method_149_code 1 = .ok (.invokespecial 1, 3) := by decide +kernel
theorem d3_4 : decode jdk_42_method_149_code 4 = .ok (.iload_n 3, 1) := by decide +kernel
theorem d3_5 : decode jdk_42_method_149_code 5 = .ok (.ifCond .ne 22, 3) := by decide +kernel
theorem d3_27 : decode jdk_42_method_149_code 27 = .ok (.getstatic 38, 3) := by decide +kernel
theorem d3_30 : decode jdk_42_method_149_code 30 = .ok (.ifCond .eq 28, 3) := by decide +kernel
theorem d3_33 : decode jdk_42_method_149_code 33 = .ok (.aload_n 1, 1) := by decide +kernel
theorem d3_34 : decode jdk_42_method_149_code 34 = .ok (.iload_n 2, 1) := by decide +kernel
theorem d3_35 : decode jdk_42_method_149_code 35 = .ok (.iload_n 3, 1) := by decide +kernel
theorem d3_36 : decode jdk_42_method_149_code 36 = .ok (.invokestatic 177, 3) := by decide +kernel
theorem pd_1 : parseMethodDescriptor "([CII)[B" = some ⟨[(.array .char), .int, .int], some (.array .byte)⟩ := by decide +kernel
theorem d3_39 : decode jdk_42_method_149_code 39 = .ok (.astore 5, 2) := by decide +kernel
theorem d3_41 : decode jdk_42_method_149_code 41 = .ok (.aload_n 0, 1) := by decide +kernel
theorem d3_42 : decode jdk_42_method_149_code 42 = .ok (.aload 5, 2) := by decide +kernel
theorem d3_44 : decode jdk_42_method_149_code 44 = .ok (.iload_n 3, 1) := by decide +kernel
theorem d3_45 : decode jdk_42_method_149_code 45 = .ok (.invokestatic 47, 3) := by decide +kernel
theorem pd_2 : parseMethodDescriptor "([BI)B" = some ⟨[(.array .byte), .int], some .byte⟩ := by decide +kernel
theorem d3_48 : decode jdk_42_method_149_code 48 = .ok (.putfield 15, 3) := by decide +kernel
theorem d3_51 : decode jdk_42_method_149_code 51 = .ok (.aload_n 0, 1) := by decide +kernel
theorem d3_52 : decode jdk_42_method_149_code 52 = .ok (.aload 5, 2) := by decide +kernel
theorem d3_54 : decode jdk_42_method_149_code 54 = .ok (.putfield 9, 3) := by decide +kernel
theorem d3_57 : decode jdk_42_method_149_code 57 = .ok (.return_, 1) := by decide +kernel
theorem pn_3 : plainName "java/lang/String" = true := by first | (simp [plainName, overriddenIn]; done) | decide +kernel
set_option maxHeartbeats 4000000 in
theorem ef_rmS4_1 (m : MethodId) {sa : Addr} {ca : Addr} : entryFrame m #[(.ref sa), (.ref ca), (.int (0 : Int32)), (.int (1 : Int32)), .null] 6 = mkF m 0 #[.val (.ref sa), .val (.ref ca), .val (.int (0 : Int32)), .val (.int (1 : Int32)), .val .null, .unset] [] := by first | (simp [entryFrame, mkF, argsToLocals, Value.category]; done) | rfl
def QrmS4_1 (Z : State) (vcs : Int32) (sa : Addr) (ca : Addr) (kc : ClassId) (c0 : Int32) (h0 : Heap) (n0 : Nat) (v : Option Value) (h : Heap) (L : List Loc) : Prop := ∃ (rb : Addr) (kb : ClassId), (v = none) ∧ (Fr n0 L) ∧ (Keep h0 h [sa]) ∧ (Exa Z h sa "java/lang/String") ∧ (Fld Z h sa "java/lang/String" "value" "[B" (.ref rb)) ∧ (Fld Z h sa "java/lang/String" "coder" "B" (.int (0 : Int32))) ∧ (Arv Z h rb kb .byte (1 : Int32) [(.int (c0.toInt8.toInt32))] (.int (0 : Int32))) ∧ (h0.size ≤ rb)
set_option maxRecDepth 65536 in
set_option maxHeartbeats 40000000 in
theorem rmS4_1 (l : Launch) (Z : State) (a0 : Array Value) (hw : ∀ d ∈ tables_1, d.before a0 Z = true) (ws : List Jvm.Cond) (vcs : Int32) (G : Gh Z vcs) (sa : Addr) (ca : Addr) (kc : ClassId) (c0 : Int32) (h0 : Heap) (n0 : Nat) (O0 : Old Z n0 h0) (EX : Exa Z h0 sa "java/lang/String") (FV : Fld Z h0 sa "java/lang/String" "value" "[B" .null) (FC : Fld Z h0 sa "java/lang/String" "coder" "B" (.int (0 : Int32))) (g_sa : n0 ≤ sa) (VC : Arv Z h0 ca kc .char (1 : Int32) [(.int c0)] (.int (0 : Int32))) (hne : sa ≠ ca) (hb0 : ¬ ((255 : Int32) < c0)) :
    MetFree l (⟨"java/lang/String", "<init>", "([CIILjava/lang/Void;)V"⟩ : MethodName) (head1 (Jvm.Cond.code (⟨"java/lang/String", "<init>", "([CIILjava/lang/Void;)V"⟩ : MethodName) jdk_42_method_149_code 6 none :: ws) ({ frames := 2, cells := 1, slots := 1, locals := 35 } : Room)) (fun aa' UU' => aa' = #[(.ref sa), (.ref ca), (.int (0 : Int32)), (.int (1 : Int32)), .null] ∧ Z.Warmed39 UU'.vm ∧ UU'.heap = h0) (fun _ _ _ _ _ => True) (fun _ UU' oo' VV' => ∃ v' L', oo' = .returned v' ∧ QrmS4_1 Z vcs sa ca kc c0 h0 n0 v' VV'.heap L' ∧ FrameEnd UU' oo' VV' L' ({ frames := 2, cells := 1, slots := 1, locals := 35 } : Room).cells ({ frames := 2, cells := 1, slots := 1, locals := 35 } : Room).slots) := by
  refine MetFree.of_bodySF (plainFor_of_name pn_3) hisR ?_
  intro p e s m args below meth c s₁ Bd hml0 hP hK
  obtain ⟨rfl, hZ, hh⟩ := hP
  have hx := Bd.exec
  have hby := Bd.bytes
  have hlk := Bd.notSynchronized
  have hml : c.maxLocals = 6 := hml0
  have hown : s.vm.findClass "java/lang/String" = some m.cls := findClass_of_methodNamed Bd.named
  have hnm := (name_of_methodNamed Bd.named Bd.method).1
  have hret := Bd.returns
  have X0 : Stand p l e ({ frames := 2, cells := 1, slots := 1, locals := 35 } : Room) s m #[(.ref sa), (.ref ca), (.int (0 : Int32)), (.int (1 : Int32)), .null] below meth c s₁ [] 0 0 := Stand.of_body Bd
  have e0 : s₁.heap = h0 := by rw [← hh, Bd.state]; rfl
  have N0 := Fr.nil n0
  have KC0 : Keep h0 h0 [sa] := Keep.refl _ _
  refine Go.body ?_
  obtain ⟨Pf, hPf⟩ : ∃ P, P = Fin' s below ({ frames := 2, cells := 1, slots := 1, locals := 35 } : Room).cells ({ frames := 2, cells := 1, slots := 1, locals := 35 } : Room).slots (QrmS4_1 Z vcs sa ca kc c0 h0 n0) := ⟨_, rfl⟩
  rw [← hPf]
  refine Go.cast (ef_rmS4_1 m) ?_
  have hw5 := (hw _ (List.mem_of_getElem? (i := 5) rfl))
  have hw15 := (hw _ (List.mem_of_getElem? (i := 15) rfl))
  have hw16 := (hw _ (List.mem_of_getElem? (i := 16) rfl))
  have hw17 := (hw _ (List.mem_of_getElem? (i := 17) rfl))
  have hw20 := (hw _ (List.mem_of_getElem? (i := 20) rfl))
  have hw21 := (hw _ (List.mem_of_getElem? (i := 21) rfl))
  have hw24 := (hw _ (List.mem_of_getElem? (i := 24) rfl))
  have hw25 := (hw _ (List.mem_of_getElem? (i := 25) rfl))
  have hw26 := (hw _ (List.mem_of_getElem? (i := 26) rfl))
  have hw27 := (hw _ (List.mem_of_getElem? (i := 27) rfl))
  have hw28 := (hw _ (List.mem_of_getElem? (i := 28) rfl))
  have hw29 := (hw _ (List.mem_of_getElem? (i := 29) rfl))
  have hw30 := (hw _ (List.mem_of_getElem? (i := 30) rfl))
  have hw34 := (hw _ (List.mem_of_getElem? (i := 34) rfl))
  have hw35 := (hw _ (List.mem_of_getElem? (i := 35) rfl))
  have hw36 := (hw _ (List.mem_of_getElem? (i := 36) rfl))
  show Go p.tables e below Pf (s₁.setTop (mkF m 0 #[.val (.ref sa), .val (.ref ca), .val (.int (0 : Int32)), .val (.int (1 : Int32)), .val .null, .unset] []))
  refine Go.by' (fun t k => (XS.aloadN X0.here hx rfl (hb hby d3_0) rfl rfl k)) ?_
  show Go p.tables e below Pf (s₁.setTop (mkF m 1 #[.val (.ref sa), .val (.ref ca), .val (.int (0 : Int32)), .val (.int (1 : Int32)), .val .null, .unset] [(.ref sa)]))
  obtain ⟨T7, X7, e7, st7⟩ := initO X0 hx hZ hown hw15 hw16 hw17 e0 (g := (mkF m 1 #[.val (.ref sa), .val (.ref ca), .val (.int (0 : Int32)), .val (.int (1 : Int32)), .val .null, .unset] [(.ref sa)])) rfl (by rw [hml]; rfl) rfl (hb hby d3_1) (by decide) (W := 0) (by show 2 * 0 + _ ≤ _; exact Nat.le_of_eq rfl) (by decide)
  refine Go.by' st7 ?_
  show Go p.tables e below Pf (T7.setTop (mkF m 4 #[.val (.ref sa), .val (.ref ca), .val (.int (0 : Int32)), .val (.int (1 : Int32)), .val .null, .unset] []))
  refine Go.by' (fun t k => (XS.iloadN X7.here hx rfl (hb hby d3_4) rfl (XS.ifYes X7.here hx rfl (pc0 := 5) (pc' := 27) rfl (hb hby d3_5) rfl ((if0 _ _).trans (feq (by decide)).2) (by decide) (by decide) k))) ?_
  show Go p.tables e below Pf (T7.setTop (mkF m 27 #[.val (.ref sa), .val (.ref ca), .val (.int (0 : Int32)), .val (.int (1 : Int32)), .val .null, .unset] []))
  obtain ⟨T8, X8, e8, st8⟩ := getS2 X7 hx hZ hown (host := "") (Or.inl hw26) Via.refl e7 (G.1.ext O0.2) (g := (mkF m 27 #[.val (.ref sa), .val (.ref ca), .val (.int (0 : Int32)), .val (.int (1 : Int32)), .val .null, .unset] [])) rfl (hb hby d3_27)
  refine Go.by' st8 ?_
  show Go p.tables e below Pf (T8.setTop (mkF m 30 #[.val (.ref sa), .val (.ref ca), .val (.int (0 : Int32)), .val (.int (1 : Int32)), .val .null, .unset] [(.int vcs)]))
  refine Go.by' (fun t k => (XS.ifNo X8.here hx rfl (hb hby d3_30) rfl ((if0 _ _).trans (feq G.2).1) (XS.aloadN X8.here hx rfl (hb hby d3_33) rfl rfl (XS.iloadN X8.here hx rfl (hb hby d3_34) rfl (XS.iloadN X8.here hx rfl (hb hby d3_35) rfl k))))) ?_
  show Go p.tables e below Pf (T8.setTop (mkF m 36 #[.val (.ref sa), .val (.ref ca), .val (.int (0 : Int32)), .val (.int (1 : Int32)), .val .null, .unset] [(.int (1 : Int32)), (.int (0 : Int32)), (.ref ca)]))
  obtain ⟨_, _, ⟨T9, L9, k9, n9⟩, -, X9, ⟨Lc9, hQ9, l9, y9, z9⟩, st9⟩ := Jvm.LawKit.callS X8 hx (y := (⟨"java/lang/StringUTF16", "compress", "([CII)[B"⟩ : MethodName)) hown (mvT hZ hw27) (mvT hZ hw28) (mvT hZ hw29) (mvT hZ hw30) (by decide) (backOf (W := 0) (rmC3_1 l Z a0 hw [] vcs G ca kc c0 h0 n0 O0 VC hb0) hZ hw30 hw29 (by decide) (by decide)) (g := (mkF m 36 #[.val (.ref sa), .val (.ref ca), .val (.int (0 : Int32)), .val (.int (1 : Int32)), .val .null, .unset] [(.int (1 : Int32)), (.int (0 : Int32)), (.ref ca)])) rfl (by rw [hml]; rfl) (argsL := [(.ref ca), (.int (0 : Int32)), (.int (1 : Int32))]) (rest := []) (lenOf pd_1 rfl) rfl (by show 2 * 0 + _ ≤ _; exact Nat.le_of_eq rfl) (hb hby d3_36) (fun _ _ => ⟨rfl, e8, (by decide : 0 + 1 ≤ _), (by decide : 0 + 1 ≤ _)⟩)
  dsimp only [Pt.U, Pt.locs, Pt.cells, Pt.slots] at X9 l9 y9 z9 st9 hQ9
  subst l9 y9 z9
  obtain ⟨rb_9, kb_9, rfl, N9q, K9, f9_0, f9_1⟩ := hQ9
  have N9 := Fr.app N0 N9q
  obtain ⟨lc9, X9, N9⟩ := own_pack X9 N9
  refine Go.by' st9 ?_
  have g_rb_9 : n0 ≤ rb_9 := Nat.le_trans (own_le O0) f9_1
  have sz_rb_9 : h0.size ≤ rb_9 := Nat.le_trans KC0.1 f9_1
  have O9 := O0.keep K9 all0
  have KC9 : Keep h0 T9.heap [sa] := KC0.trans K9 all0
  show Go p.tables e below Pf (T9.setTop (mkF m 39 #[.val (.ref sa), .val (.ref ca), .val (.int (0 : Int32)), .val (.int (1 : Int32)), .val .null, .unset] [(.ref rb_9)]))
  refine Go.by' (fun t k => (XS.astore X9.here hx rfl (hb hby d3_39) rfl rfl (l' := #[.val (.ref sa), .val (.ref ca), .val (.int (0 : Int32)), .val (.int (1 : Int32)), .val .null, .val (.ref rb_9)]) rfl (XS.aloadN X9.here hx rfl (hb hby d3_41) rfl rfl (XS.aload X9.here hx rfl (hb hby d3_42) rfl rfl (XS.iloadN X9.here hx rfl (hb hby d3_44) rfl k))))) ?_
  show Go p.tables e below Pf (T9.setTop (mkF m 45 #[.val (.ref sa), .val (.ref ca), .val (.int (0 : Int32)), .val (.int (1 : Int32)), .val .null, .val (.ref rb_9)] [(.int (1 : Int32)), (.ref rb_9), (.ref sa)]))
  obtain ⟨_, _, ⟨T10, L10, k10, n10⟩, -, X10, ⟨Lc10, hQ10, l10, y10, z10⟩, st10⟩ := Jvm.LawKit.callS X9 hx (y := (⟨"java/lang/StringUTF16", "coderFromArrayLen", "([BI)B"⟩ : MethodName)) hown (mvT hZ hw34) (mvT hZ hw35) (mvT hZ hw29) (mvT hZ hw36) (by decide) (backOf (W := 1) (rmCL_1 l Z a0 hw [] vcs G rb_9 kb_9 ((Value.int (c0.toInt8.toInt32))) T9.heap n0 O9 f9_0) hZ hw36 hw29 (by decide) (by decide)) (g := (mkF m 45 #[.val (.ref sa), .val (.ref ca), .val (.int (0 : Int32)), .val (.int (1 : Int32)), .val .null, .val (.ref rb_9)] [(.int (1 : Int32)), (.ref rb_9), (.ref sa)])) rfl (by rw [hml]; rfl) (argsL := [(.ref rb_9), (.int (1 : Int32))]) (rest := [(.ref sa)]) (lenOf pd_2 rfl) rfl (by show 2 * 0 + _ ≤ _; exact Nat.le_of_eq rfl) (hb hby d3_45) (fun _ _ => ⟨rfl, rfl, (by decide : 1 + 0 ≤ _), (by decide : 1 + 0 ≤ _)⟩)
  dsimp only [Pt.U, Pt.locs, Pt.cells, Pt.slots] at X10 l10 y10 z10 st10 hQ10
  subst l10 y10 z10
  obtain ⟨rfl, rfl, e10⟩ := hQ10
  try replace X10 := own_nil X10
  refine Go.by' st10 ?_
  show Go p.tables e below Pf (T10.setTop (mkF m 48 #[.val (.ref sa), .val (.ref ca), .val (.int (0 : Int32)), .val (.int (1 : Int32)), .val .null, .val (.ref rb_9)] [(.int (0 : Int32)), (.ref sa)]))
  obtain ⟨T11, h11, X11, e11, W11, st11⟩ := putFN X10 hx hZ hown hw25 Via.refl e10 (FC.keep K9 nin0) (EX.keep K9) (Or.inr ⟨hw21, rfl, hnm⟩) hw5 (ty := .byte) (v' := (.int (0 : Int32))) (by decide) rfl rfl (g := (mkF m 48 #[.val (.ref sa), .val (.ref ca), .val (.int (0 : Int32)), .val (.int (1 : Int32)), .val .null, .val (.ref rb_9)] [(.int (0 : Int32)), (.ref sa)])) rfl rfl (hb hby d3_48)
  refine Go.by' st11 ?_
  have Fw11 : Fld Z h11 sa "java/lang/String" "coder" "B" (Value.int (0 : Int32)) := (FC.keep K9 nin0).same W11
  have N11 := Fr.snoc X11 N9 g_sa
  obtain ⟨lc11, X11, N11⟩ := own_pack X11 N11
  have O11 := O9.wr W11 g_sa
  have KC11 : Keep h0 h11 [sa] := KC9.wr W11 (Or.inl (List.mem_of_getElem? (i := 0) rfl))
  show Go p.tables e below Pf (T11.setTop (mkF m 51 #[.val (.ref sa), .val (.ref ca), .val (.int (0 : Int32)), .val (.int (1 : Int32)), .val .null, .val (.ref rb_9)] []))
  refine Go.by' (fun t k => (XS.aloadN X11.here hx rfl (hb hby d3_51) rfl rfl (XS.aload X11.here hx rfl (hb hby d3_52) rfl rfl k))) ?_
  show Go p.tables e below Pf (T11.setTop (mkF m 54 #[.val (.ref sa), .val (.ref ca), .val (.int (0 : Int32)), .val (.int (1 : Int32)), .val .null, .val (.ref rb_9)] [(.ref rb_9), (.ref sa)]))
  have c12 := ((EX.keep K9).wr W11)
  have c13 := ((FV.keep K9 nin0).other W11 (Or.inr (slot_ne (Or.inr hw20) (Or.inr hw21) (by decide) (t := (.array .byte)) (t' := .byte) (by decide) (by decide))))
  obtain ⟨T14, h14, X14, e14, W14, st14⟩ := putF X11 hx hZ hown (host := "") (Or.inl hw24) Via.refl e11 c13 c12 (Or.inr ⟨hw20, rfl, hnm⟩) hw5 (ty := (.array .byte)) (by decide) rfl rfl (g := (mkF m 54 #[.val (.ref sa), .val (.ref ca), .val (.int (0 : Int32)), .val (.int (1 : Int32)), .val .null, .val (.ref rb_9)] [(.ref rb_9), (.ref sa)])) rfl rfl (hb hby d3_54)
  refine Go.by' st14 ?_
  have Fw14 : Fld Z h14 sa "java/lang/String" "value" "[B" (Value.ref rb_9) := c13.same W14
  have N14 := Fr.snoc X14 N11 g_sa
  obtain ⟨lc14, X14, N14⟩ := own_pack X14 N14
  have O14 := O11.wr W14 g_sa
  have KC14 : Keep h0 h14 [sa] := KC11.wr W14 (Or.inl (List.mem_of_getElem? (i := 0) rfl))
  show Go p.tables e below Pf (T14.setTop (mkF m 57 #[.val (.ref sa), .val (.ref ca), .val (.int (0 : Int32)), .val (.int (1 : Int32)), .val .null, .val (.ref rb_9)] []))
  have c15 := ((f9_0.other W11 (Ne.symm (Nat.ne_of_lt (Nat.lt_of_lt_of_le EX.lt f9_1)))).other W14 (Ne.symm (Nat.ne_of_lt (Nat.lt_of_lt_of_le EX.lt f9_1))))
  rw [hPf]
  exact Go.retV' X14 hx hret hlk (hb hby d3_57) (by decide) (by decide) ⟨rb_9, kb_9, rfl, N14, (by rw [e14]; exact KC14), (by rw [e14]; exact (c12.wr W14)), (by rw [e14]; exact Fw14), (by rw [e14]; exact (Fw11.other W14 (Or.inr (slot_ne (Or.inr hw21) (Or.inr hw20) (by decide) (t := .byte) (t' := (.array .byte)) (by decide) (by decide))))), (by rw [e14]; exact c15), sz_rb_9⟩
theorem d2_0 : decode jdk_42_method_3_code 0 = .ok (.aload_n 0, 1) := by decide +kernel
theorem d2_1 : decode jdk_42_method_3_code 1 = .ok (.aload_n 1, 1) := by decide +kernel
theorem d2_2 : decode jdk_42_method_3_code 2 = .ok (.iconst 0, 1) := by decide +kernel
theorem d2_3 : decode jdk_42_method_3_code 3 = .ok (.aload_n 1, 1) := by decide +kernel
theorem d2_4 : decode jdk_42_method_3_code 4 = .ok (.arraylength, 1) := by decide +kernel
theorem d2_5 : decode jdk_42_method_3_code 5 = .ok (.aconst_null, 1) := by decide +kernel
theorem d2_6 : decode jdk_42_method_3_code 6 = .ok (.invokespecial 27, 3) := by decide +kernel
theorem pd_3 : parseMethodDescriptor "([CIILjava/lang/Void;)V" = some ⟨[(.array .char), .int, .int, (.object "java/lang/Void")], none⟩ := by decide +kernel
theorem d2_9 : decode jdk_42_method_3_code 9 = .ok (.return_, 1) := by decide +kernel
theorem pn_2 : plainName "java/lang/String" = true := by first | (simp [plainName, overriddenIn]; done) | decide +kernel
set_option maxHeartbeats 4000000 in
theorem ef_rmS1_1 (m : MethodId) {sa : Addr} {ca : Addr} : entryFrame m #[(.ref sa), (.ref ca)] 2 = mkF m 0 #[.val (.ref sa), .val (.ref ca)] [] := by first | (simp [entryFrame, mkF, argsToLocals, Value.category]; done) | rfl
def QrmS1_1 (Z : State) (vcs : Int32) (sa : Addr) (ca : Addr) (kc : ClassId) (c0 : Int32) (h0 : Heap) (n0 : Nat) (v : Option Value) (h : Heap) (L : List Loc) : Prop := ∃ (rb : Addr) (kb : ClassId), (v = none) ∧ (Fr n0 L) ∧ (Keep h0 h [sa]) ∧ (Exa Z h sa "java/lang/String") ∧ (Fld Z h sa "java/lang/String" "value" "[B" (.ref rb)) ∧ (Fld Z h sa "java/lang/String" "coder" "B" (.int (0 : Int32))) ∧ (Arv Z h rb kb .byte (1 : Int32) [(.int (c0.toInt8.toInt32))] (.int (0 : Int32))) ∧ (h0.size ≤ rb)
set_option maxRecDepth 65536 in
set_option maxHeartbeats 40000000 in
theorem rmS1_1 (l : Launch) (Z : State) (a0 : Array Value) (hw : ∀ d ∈ tables_1, d.before a0 Z = true) (ws : List Jvm.Cond) (vcs : Int32) (G : Gh Z vcs) (sa : Addr) (ca : Addr) (kc : ClassId) (c0 : Int32) (h0 : Heap) (n0 : Nat) (O0 : Old Z n0 h0) (EX : Exa Z h0 sa "java/lang/String") (FV : Fld Z h0 sa "java/lang/String" "value" "[B" .null) (FC : Fld Z h0 sa "java/lang/String" "coder" "B" (.int (0 : Int32))) (g_sa : n0 ≤ sa) (VC : Arv Z h0 ca kc .char (1 : Int32) [(.int c0)] (.int (0 : Int32))) (hne : sa ≠ ca) (hb0 : ¬ ((255 : Int32) < c0)) :
    MetFree l (⟨"java/lang/String", "<init>", "([C)V"⟩ : MethodName) (head1 (Jvm.Cond.code (⟨"java/lang/String", "<init>", "([C)V"⟩ : MethodName) jdk_42_method_3_code 2 none :: ws) ({ frames := 3, cells := 1, slots := 1, locals := 52 } : Room)) (fun aa' UU' => aa' = #[(.ref sa), (.ref ca)] ∧ Z.Warmed39 UU'.vm ∧ UU'.heap = h0) (fun _ _ _ _ _ => True) (fun _ UU' oo' VV' => ∃ v' L', oo' = .returned v' ∧ QrmS1_1 Z vcs sa ca kc c0 h0 n0 v' VV'.heap L' ∧ FrameEnd UU' oo' VV' L' ({ frames := 3, cells := 1, slots := 1, locals := 52 } : Room).cells ({ frames := 3, cells := 1, slots := 1, locals := 52 } : Room).slots) := by
  refine MetFree.of_bodySF (plainFor_of_name pn_2) hisR ?_
  intro p e s m args below meth c s₁ Bd hml0 hP hK
  obtain ⟨rfl, hZ, hh⟩ := hP
  have hx := Bd.exec
  have hby := Bd.bytes
  have hlk := Bd.notSynchronized
  have hml : c.maxLocals = 2 := hml0
  have hown : s.vm.findClass "java/lang/String" = some m.cls := findClass_of_methodNamed Bd.named
  have hnm := (name_of_methodNamed Bd.named Bd.method).1
  have hret := Bd.returns
  have X0 : Stand p l e ({ frames := 3, cells := 1, slots := 1, locals := 52 } : Room) s m #[(.ref sa), (.ref ca)] below meth c s₁ [] 0 0 := Stand.of_body Bd
  have e0 : s₁.heap = h0 := by rw [← hh, Bd.state]; rfl
  have N0 := Fr.nil n0
  have KC0 : Keep h0 h0 [sa] := Keep.refl _ _
  refine Go.body ?_
  obtain ⟨Pf, hPf⟩ : ∃ P, P = Fin' s below ({ frames := 3, cells := 1, slots := 1, locals := 52 } : Room).cells ({ frames := 3, cells := 1, slots := 1, locals := 52 } : Room).slots (QrmS1_1 Z vcs sa ca kc c0 h0 n0) := ⟨_, rfl⟩
  rw [← hPf]
  refine Go.cast (ef_rmS1_1 m) ?_
  have hw6 := (hw _ (List.mem_of_getElem? (i := 6) rfl))
  have hw11 := (hw _ (List.mem_of_getElem? (i := 11) rfl))
  have hw12 := (hw _ (List.mem_of_getElem? (i := 12) rfl))
  have hw14 := (hw _ (List.mem_of_getElem? (i := 14) rfl))
  show Go p.tables e below Pf (s₁.setTop (mkF m 0 #[.val (.ref sa), .val (.ref ca)] []))
  refine Go.by' (fun t k => (XS.aloadN X0.here hx rfl (hb hby d2_0) rfl rfl (XS.aloadN X0.here hx rfl (hb hby d2_1) rfl rfl (XS.iconst X0.here hx rfl (hb hby d2_2) (XS.aloadN X0.here hx rfl (hb hby d2_3) rfl rfl k))))) ?_
  show Go p.tables e below Pf (s₁.setTop (mkF m 4 #[.val (.ref sa), .val (.ref ca)] [(.ref ca), (.int (0 : Int32)), (.ref ca), (.ref sa)]))
  obtain ⟨cl16, Ar16, -, S16, P16, -, -⟩ := (id VC)
  refine Go.by' (fun t k => (X0.arraylength hx (by rw [e0]; exact Ar16.1) (State.isArrayOf_alike hZ.alike Ar16.2.1) (g := (mkF m 4 #[.val (.ref sa), .val (.ref ca)] [(.ref ca), (.int (0 : Int32)), (.ref ca), (.ref sa)])) rfl rfl (hb hby d2_4) t k)) ?_
  rw [len_of S16 P16]
  show Go p.tables e below Pf (s₁.setTop (mkF m 5 #[.val (.ref sa), .val (.ref ca)] [(.int (1 : Int32)), (.int (0 : Int32)), (.ref ca), (.ref sa)]))
  refine Go.by' (fun t k => (XS.aconstNull X0.here hx rfl (hb hby d2_5) k)) ?_
  show Go p.tables e below Pf (s₁.setTop (mkF m 6 #[.val (.ref sa), .val (.ref ca)] [.null, (.int (1 : Int32)), (.int (0 : Int32)), (.ref ca), (.ref sa)]))
  obtain ⟨_, _, ⟨T17, L17, k17, n17⟩, -, X17, ⟨Lc17, hQ17, l17, y17, z17⟩, st17⟩ := X0.specialBack hx (y := (⟨"java/lang/String", "<init>", "([CIILjava/lang/Void;)V"⟩ : MethodName)) rfl hown (mvT hZ hw11) (mvT hZ hw12) (mvT hZ hw14) (by decide) (backOf (W := 0) (rmS4_1 l Z a0 hw [] vcs G sa ca kc c0 h0 n0 O0 EX FV FC g_sa VC hne hb0) hZ hw14 hw6 (by decide) (by decide)) (g := (mkF m 6 #[.val (.ref sa), .val (.ref ca)] [.null, (.int (1 : Int32)), (.int (0 : Int32)), (.ref ca), (.ref sa)])) rfl (by rw [hml]; rfl) (Steps.refl _) (a := sa) (argsL := [(.ref ca), (.int (0 : Int32)), (.int (1 : Int32)), .null]) (rest := []) (lenOf pd_3 rfl) rfl (by show 2 * 0 + _ ≤ _; exact Nat.le_of_eq rfl) (hb hby d2_6) (fun _ _ => ⟨rfl, e0, (by decide : 0 + 1 ≤ _), (by decide : 0 + 1 ≤ _)⟩)
  dsimp only [Pt.U, Pt.locs, Pt.cells, Pt.slots] at X17 l17 y17 z17 st17 hQ17
  subst l17 y17 z17
  obtain ⟨rb_17, kb_17, rfl, N17q, K17, f17_0, f17_1, f17_2, f17_3, f17_4⟩ := hQ17
  have N17 := Fr.app N0 N17q
  obtain ⟨lc17, X17, N17⟩ := own_pack X17 N17
  refine Go.by' (fun t k => st17.trans k) ?_
  have g_rb_17 : n0 ≤ rb_17 := Nat.le_trans (own_le O0) f17_4
  have sz_rb_17 : h0.size ≤ rb_17 := Nat.le_trans KC0.1 f17_4
  have O17 := O0.keep K17 (allS g_sa all0)
  have KC17 : Keep h0 T17.heap [sa] := KC0.trans K17 (allS (Or.inl (List.mem_of_getElem? (i := 0) rfl)) all0)
  show Go p.tables e below Pf (T17.setTop (mkF m 9 #[.val (.ref sa), .val (.ref ca)] []))
  rw [hPf]
  exact Go.retV' X17 hx hret hlk (hb hby d2_9) (by decide) (by decide) ⟨rb_17, kb_17, rfl, N17, KC17, f17_0, f17_1, f17_2, f17_3, sz_rb_17⟩
set_option maxHeartbeats 4000000 in
theorem ef_rmC5_2 (m : MethodId) {ca : Addr} {ba : Addr} : entryFrame m #[(.ref ca), (.int (0 : Int32)), (.ref ba), (.int (0 : Int32)), (.int (2 : Int32))] 7 = mkF m 0 #[.val (.ref ca), .val (.int (0 : Int32)), .val (.ref ba), .val (.int (0 : Int32)), .val (.int (2 : Int32)), .unset, .unset] [] := by first | (simp [entryFrame, mkF, argsToLocals, Value.category]; done) | rfl
def QrmC5_2 (Z : State) (vcs : Int32) (ca : Addr) (ba : Addr) (kc : ClassId) (kb : ClassId) (c0 : Int32) (c1 : Int32) (h0 : Heap) (n0 : Nat) (v : Option Value) (h : Heap) (L : List Loc) : Prop := (v = some (.int (2 : Int32))) ∧ (Fr n0 L) ∧ (Keep h0 h [ba]) ∧ (Arv Z h ba kb .byte (2 : Int32) [(.int (c0.toInt8.toInt32)), (.int (c1.toInt8.toInt32))] (.int (0 : Int32)))
set_option maxRecDepth 65536 in
set_option maxHeartbeats 40000000 in
theorem rmC5_2 (l : Launch) (Z : State) (a0 : Array Value) (hw : ∀ d ∈ tables_1, d.before a0 Z = true) (ws : List Jvm.Cond) (vcs : Int32) (G : Gh Z vcs) (ca : Addr) (ba : Addr) (kc : ClassId) (kb : ClassId) (c0 : Int32) (c1 : Int32) (h0 : Heap) (n0 : Nat) (O0 : Old Z n0 h0) (VC : Arv Z h0 ca kc .char (2 : Int32) [(.int c0), (.int c1)] (.int (0 : Int32))) (VB : Arv Z h0 ba kb .byte (2 : Int32) [(.int (0 : Int32)), (.int (0 : Int32))] (.int (0 : Int32))) (g_ba : n0 ≤ ba) (hne : ca ≠ ba) (hb0 : ¬ ((255 : Int32) < c0)) (hb1 : ¬ ((255 : Int32) < c1)) :
    MetFree l (⟨"java/lang/StringUTF16", "compress", "([CI[BII)I"⟩ : MethodName) (head1 (Jvm.Cond.code (⟨"java/lang/StringUTF16", "compress", "([CI[BII)I"⟩ : MethodName) jdk_52_method_21_code 7 (some .int) :: ws) ({ frames := 0, cells := 0, slots := 0, locals := 0 } : Room)) (fun aa' UU' => aa' = #[(.ref ca), (.int (0 : Int32)), (.ref ba), (.int (0 : Int32)), (.int (2 : Int32))] ∧ Z.Warmed39 UU'.vm ∧ UU'.heap = h0) (fun _ _ _ _ _ => True) (fun _ UU' oo' VV' => ∃ v' L', oo' = .returned v' ∧ QrmC5_2 Z vcs ca ba kc kb c0 c1 h0 n0 v' VV'.heap L' ∧ FrameEnd UU' oo' VV' L' ({ frames := 0, cells := 0, slots := 0, locals := 0 } : Room).cells ({ frames := 0, cells := 0, slots := 0, locals := 0 } : Room).slots) := by
  refine MetFree.of_bodySF (plainFor_of_name pn_6) hisR ?_
  intro p e s m args below meth c s₁ Bd hml0 hP hK
  obtain ⟨rfl, hZ, hh⟩ := hP
  have hx := Bd.exec
  have hby := Bd.bytes
  have hlk := Bd.notSynchronized
  have hml : c.maxLocals = 7 := hml0
  have hown : s.vm.findClass "java/lang/StringUTF16" = some m.cls := findClass_of_methodNamed Bd.named
  have hnm := (name_of_methodNamed Bd.named Bd.method).1
  have hret := Bd.returns
  have X0 : Stand p l e ({ frames := 0, cells := 0, slots := 0, locals := 0 } : Room) s m #[(.ref ca), (.int (0 : Int32)), (.ref ba), (.int (0 : Int32)), (.int (2 : Int32))] below meth c s₁ [] 0 0 := Stand.of_body Bd
  have e0 : s₁.heap = h0 := by rw [← hh, Bd.state]; rfl
  have N0 := Fr.nil n0
  have KC0 : Keep h0 h0 [ba] := Keep.refl _ _
  refine Go.body ?_
  obtain ⟨Pf, hPf⟩ : ∃ P, P = Fin' s below ({ frames := 0, cells := 0, slots := 0, locals := 0 } : Room).cells ({ frames := 0, cells := 0, slots := 0, locals := 0 } : Room).slots (QrmC5_2 Z vcs ca ba kc kb c0 c1 h0 n0) := ⟨_, rfl⟩
  rw [← hPf]
  refine Go.cast (ef_rmC5_2 m) ?_
  show Go p.tables e below Pf (s₁.setTop (mkF m 0 #[.val (.ref ca), .val (.int (0 : Int32)), .val (.ref ba), .val (.int (0 : Int32)), .val (.int (2 : Int32)), .unset, .unset] []))
  refine Go.by' (fun t k => (XS.iconst X0.here hx rfl (hb hby d6_0) (XS.istore X0.here hx rfl (hb hby d6_1) rfl (l' := #[.val (.ref ca), .val (.int (0 : Int32)), .val (.ref ba), .val (.int (0 : Int32)), .val (.int (2 : Int32)), .val (.int (0 : Int32)), .unset]) rfl (XS.iload X0.here hx rfl (hb hby d6_3) rfl (XS.iload X0.here hx rfl (hb hby d6_5) rfl (XS.icmpNo X0.here hx rfl (hb hby d6_7) rfl (tlt (by decide)).2.1 (XS.aloadN X0.here hx rfl (hb hby d6_10) rfl rfl k))))))) ?_
  show Go p.tables e below Pf (s₁.setTop (mkF m 11 #[.val (.ref ca), .val (.int (0 : Int32)), .val (.ref ba), .val (.int (0 : Int32)), .val (.int (2 : Int32)), .val (.int (0 : Int32)), .unset] [(.ref ca)]))
  refine Go.by' (fun t k => (XS.iloadN X0.here hx rfl (hb hby d6_11) rfl k)) ?_
  show Go p.tables e below Pf (s₁.setTop (mkF m 12 #[.val (.ref ca), .val (.int (0 : Int32)), .val (.ref ba), .val (.int (0 : Int32)), .val (.int (2 : Int32)), .val (.int (0 : Int32)), .unset] [(.int (0 : Int32)), (.ref ca)]))
  obtain ⟨cl18, Ar18, q18, S18, P18, H18, G18⟩ := (id VC)
  have hin18 : ¬ ((0 : Int32) < 0 ∨ cl18.slots.size ≤ ((0 : Int32)).toNatClampNeg) := inb_of S18 ⟨by decide, by decide⟩
  refine Go.by' (fun t k => (X0.caload hx (j := (0 : Int32)) (v := (.int c0)) (by rw [e0]; exact Ar18.1) (State.isArrayOf_alike hZ.alike Ar18.2.1) Ar18.2.2 hin18 (H18.at hin18 rfl) (g := (mkF m 12 #[.val (.ref ca), .val (.int (0 : Int32)), .val (.ref ba), .val (.int (0 : Int32)), .val (.int (2 : Int32)), .val (.int (0 : Int32)), .unset] [(.int (0 : Int32)), (.ref ca)])) rfl rfl (hb hby d6_12) t (XS.istore X0.here hx rfl (hb hby d6_13) rfl (l' := #[.val (.ref ca), .val (.int (0 : Int32)), .val (.ref ba), .val (.int (0 : Int32)), .val (.int (2 : Int32)), .val (.int (0 : Int32)), .val (.int c0)]) rfl (XS.iload X0.here hx rfl (hb hby d6_15) rfl (XS.sipush X0.here hx rfl (hb hby d6_17) (XS.icmpYes X0.here hx rfl (pc0 := 20) (pc' := 26) rfl (hb hby d6_20) rfl (flt hb0).2.2.2 (by decide) (by decide) (XS.aloadN X0.here hx rfl (hb hby d6_26) rfl rfl k))))))) ?_
  show Go p.tables e below Pf (s₁.setTop (mkF m 27 #[.val (.ref ca), .val (.int (0 : Int32)), .val (.ref ba), .val (.int (0 : Int32)), .val (.int (2 : Int32)), .val (.int (0 : Int32)), .val (.int c0)] [(.ref ba)]))
  refine Go.by' (fun t k => (XS.iloadN X0.here hx rfl (hb hby d6_27) rfl (XS.iload X0.here hx rfl (hb hby d6_28) rfl (XS.i2b X0.here hx rfl (hb hby d6_30) rfl k)))) ?_
  show Go p.tables e below Pf (s₁.setTop (mkF m 31 #[.val (.ref ca), .val (.int (0 : Int32)), .val (.ref ba), .val (.int (0 : Int32)), .val (.int (2 : Int32)), .val (.int (0 : Int32)), .val (.int c0)] [(.int (c0.toInt8.toInt32)), (.int (0 : Int32)), (.ref ba)]))
  obtain ⟨cl19, Ar19, q19, S19, P19, H19, G19⟩ := (id VB)
  have hin19 : ¬ ((0 : Int32) < 0 ∨ cl19.slots.size ≤ ((0 : Int32)).toNatClampNeg) := inb_of S19 ⟨by decide, by decide⟩
  obtain ⟨T20, h20, X20, e20, W20, st20⟩ := stB X0 hx hZ e0 Ar19 (j := (0 : Int32)) hin19 (g := (mkF m 31 #[.val (.ref ca), .val (.int (0 : Int32)), .val (.ref ba), .val (.int (0 : Int32)), .val (.int (2 : Int32)), .val (.int (0 : Int32)), .val (.int c0)] [(.int (c0.toInt8.toInt32)), (.int (0 : Int32)), (.ref ba)])) rfl rfl (hb hby d6_31)
  refine Go.by' st20 ?_
  rw [own_bb] at W20
  have V20 : Arv Z h20 ba kb .byte (2 : Int32) [(.int (c0.toInt8.toInt32)), (.int (0 : Int32))] (Value.int (0 : Int32)) := Arv.set Ar19 q19 S19 P19 H19 G19 (fits_nar_byte _) W20 0 rfl (Nat.le_of_ble_eq_true rfl)
  have N20 := Fr.snoc X20 N0 g_ba
  obtain ⟨lc20, X20, N20⟩ := own_pack X20 N20
  have O20 := O0.wr W20 g_ba
  have KC20 : Keep h0 h20 [ba] := KC0.wr W20 (Or.inl (List.mem_of_getElem? (i := 0) rfl))
  show Go p.tables e below Pf (T20.setTop (mkF m 32 #[.val (.ref ca), .val (.int (0 : Int32)), .val (.ref ba), .val (.int (0 : Int32)), .val (.int (2 : Int32)), .val (.int (0 : Int32)), .val (.int c0)] []))
  refine Go.by' (fun t k => (XS.iinc X20.here hx rfl (hb hby d6_32) rfl (l' := #[.val (.ref ca), .val (.int ((0 : Int32) + (1 : Int32))), .val (.ref ba), .val (.int (0 : Int32)), .val (.int (2 : Int32)), .val (.int (0 : Int32)), .val (.int c0)]) rfl k)) ?_
  show Go p.tables e below Pf (T20.setTop (mkF m 35 #[.val (.ref ca), .val (.int ((0 : Int32) + (1 : Int32))), .val (.ref ba), .val (.int (0 : Int32)), .val (.int (2 : Int32)), .val (.int (0 : Int32)), .val (.int c0)] []))
  refine Go.castF (a := ((0 : Int32) + (1 : Int32))) (b := (1 : Int32)) (fun z' : Int32 => mkF m 35 #[.val (.ref ca), .val (.int z'), .val (.ref ba), .val (.int (0 : Int32)), .val (.int (2 : Int32)), .val (.int (0 : Int32)), .val (.int c0)] []) (by decide) ?_
  show Go p.tables e below Pf (T20.setTop (mkF m 35 #[.val (.ref ca), .val (.int (1 : Int32)), .val (.ref ba), .val (.int (0 : Int32)), .val (.int (2 : Int32)), .val (.int (0 : Int32)), .val (.int c0)] []))
  refine Go.by' (fun t k => (XS.iinc X20.here hx rfl (hb hby d6_35) rfl (l' := #[.val (.ref ca), .val (.int (1 : Int32)), .val (.ref ba), .val (.int ((0 : Int32) + (1 : Int32))), .val (.int (2 : Int32)), .val (.int (0 : Int32)), .val (.int c0)]) rfl k)) ?_
  show Go p.tables e below Pf (T20.setTop (mkF m 38 #[.val (.ref ca), .val (.int (1 : Int32)), .val (.ref ba), .val (.int ((0 : Int32) + (1 : Int32))), .val (.int (2 : Int32)), .val (.int (0 : Int32)), .val (.int c0)] []))
  refine Go.castF (a := ((0 : Int32) + (1 : Int32))) (b := (1 : Int32)) (fun z' : Int32 => mkF m 38 #[.val (.ref ca), .val (.int (1 : Int32)), .val (.ref ba), .val (.int z'), .val (.int (2 : Int32)), .val (.int (0 : Int32)), .val (.int c0)] []) (by decide) ?_
  show Go p.tables e below Pf (T20.setTop (mkF m 38 #[.val (.ref ca), .val (.int (1 : Int32)), .val (.ref ba), .val (.int (1 : Int32)), .val (.int (2 : Int32)), .val (.int (0 : Int32)), .val (.int c0)] []))
  refine Go.by' (fun t k => (XS.iinc X20.here hx rfl (hb hby d6_38) rfl (l' := #[.val (.ref ca), .val (.int (1 : Int32)), .val (.ref ba), .val (.int (1 : Int32)), .val (.int (2 : Int32)), .val (.int ((0 : Int32) + (1 : Int32))), .val (.int c0)]) rfl k)) ?_
  show Go p.tables e below Pf (T20.setTop (mkF m 41 #[.val (.ref ca), .val (.int (1 : Int32)), .val (.ref ba), .val (.int (1 : Int32)), .val (.int (2 : Int32)), .val (.int ((0 : Int32) + (1 : Int32))), .val (.int c0)] []))
  refine Go.castF (a := ((0 : Int32) + (1 : Int32))) (b := (1 : Int32)) (fun z' : Int32 => mkF m 41 #[.val (.ref ca), .val (.int (1 : Int32)), .val (.ref ba), .val (.int (1 : Int32)), .val (.int (2 : Int32)), .val (.int z'), .val (.int c0)] []) (by decide) ?_
  show Go p.tables e below Pf (T20.setTop (mkF m 41 #[.val (.ref ca), .val (.int (1 : Int32)), .val (.ref ba), .val (.int (1 : Int32)), .val (.int (2 : Int32)), .val (.int (1 : Int32)), .val (.int c0)] []))
  refine Go.by' (fun t k => (XS.goto X20.here hx rfl (pc0 := 41) (pc' := 3) rfl (hb hby d6_41) (by decide) (by decide) (XS.iload X20.here hx rfl (hb hby d6_3) rfl (XS.iload X20.here hx rfl (hb hby d6_5) rfl (XS.icmpNo X20.here hx rfl (hb hby d6_7) rfl (tlt (by decide)).2.1 (XS.aloadN X20.here hx rfl (hb hby d6_10) rfl rfl (XS.iloadN X20.here hx rfl (hb hby d6_11) rfl k))))))) ?_
  show Go p.tables e below Pf (T20.setTop (mkF m 12 #[.val (.ref ca), .val (.int (1 : Int32)), .val (.ref ba), .val (.int (1 : Int32)), .val (.int (2 : Int32)), .val (.int (1 : Int32)), .val (.int c0)] [(.int (1 : Int32)), (.ref ca)]))
  obtain ⟨cl21, Ar21, q21, S21, P21, H21, G21⟩ := (id (VC.other W20 hne))
  have hin21 : ¬ ((1 : Int32) < 0 ∨ cl21.slots.size ≤ ((1 : Int32)).toNatClampNeg) := inb_of S21 ⟨by decide, by decide⟩
  refine Go.by' (fun t k => (X20.caload hx (j := (1 : Int32)) (v := (.int c1)) (by rw [e20]; exact Ar21.1) (State.isArrayOf_alike hZ.alike Ar21.2.1) Ar21.2.2 hin21 (H21.at hin21 rfl) (g := (mkF m 12 #[.val (.ref ca), .val (.int (1 : Int32)), .val (.ref ba), .val (.int (1 : Int32)), .val (.int (2 : Int32)), .val (.int (1 : Int32)), .val (.int c0)] [(.int (1 : Int32)), (.ref ca)])) rfl rfl (hb hby d6_12) t (XS.istore X20.here hx rfl (hb hby d6_13) rfl (l' := #[.val (.ref ca), .val (.int (1 : Int32)), .val (.ref ba), .val (.int (1 : Int32)), .val (.int (2 : Int32)), .val (.int (1 : Int32)), .val (.int c1)]) rfl (XS.iload X20.here hx rfl (hb hby d6_15) rfl (XS.sipush X20.here hx rfl (hb hby d6_17) (XS.icmpYes X20.here hx rfl (pc0 := 20) (pc' := 26) rfl (hb hby d6_20) rfl (flt hb1).2.2.2 (by decide) (by decide) (XS.aloadN X20.here hx rfl (hb hby d6_26) rfl rfl k))))))) ?_
  show Go p.tables e below Pf (T20.setTop (mkF m 27 #[.val (.ref ca), .val (.int (1 : Int32)), .val (.ref ba), .val (.int (1 : Int32)), .val (.int (2 : Int32)), .val (.int (1 : Int32)), .val (.int c1)] [(.ref ba)]))
  refine Go.by' (fun t k => (XS.iloadN X20.here hx rfl (hb hby d6_27) rfl (XS.iload X20.here hx rfl (hb hby d6_28) rfl (XS.i2b X20.here hx rfl (hb hby d6_30) rfl k)))) ?_
  show Go p.tables e below Pf (T20.setTop (mkF m 31 #[.val (.ref ca), .val (.int (1 : Int32)), .val (.ref ba), .val (.int (1 : Int32)), .val (.int (2 : Int32)), .val (.int (1 : Int32)), .val (.int c1)] [(.int (c1.toInt8.toInt32)), (.int (1 : Int32)), (.ref ba)]))
  obtain ⟨cl22, Ar22, q22, S22, P22, H22, G22⟩ := (id V20)
  have hin22 : ¬ ((1 : Int32) < 0 ∨ cl22.slots.size ≤ ((1 : Int32)).toNatClampNeg) := inb_of S22 ⟨by decide, by decide⟩
  obtain ⟨T23, h23, X23, e23, W23, st23⟩ := stB X20 hx hZ e20 Ar22 (j := (1 : Int32)) hin22 (g := (mkF m 31 #[.val (.ref ca), .val (.int (1 : Int32)), .val (.ref ba), .val (.int (1 : Int32)), .val (.int (2 : Int32)), .val (.int (1 : Int32)), .val (.int c1)] [(.int (c1.toInt8.toInt32)), (.int (1 : Int32)), (.ref ba)])) rfl rfl (hb hby d6_31)
  refine Go.by' st23 ?_
  rw [own_bb] at W23
  have V23 : Arv Z h23 ba kb .byte (2 : Int32) [(.int (c0.toInt8.toInt32)), (.int (c1.toInt8.toInt32))] (Value.int (0 : Int32)) := Arv.set Ar22 q22 S22 P22 H22 G22 (fits_nar_byte _) W23 1 rfl (Nat.le_of_ble_eq_true rfl)
  have N23 := Fr.snoc X23 N20 g_ba
  obtain ⟨lc23, X23, N23⟩ := own_pack X23 N23
  have O23 := O20.wr W23 g_ba
  have KC23 : Keep h0 h23 [ba] := KC20.wr W23 (Or.inl (List.mem_of_getElem? (i := 0) rfl))
  show Go p.tables e below Pf (T23.setTop (mkF m 32 #[.val (.ref ca), .val (.int (1 : Int32)), .val (.ref ba), .val (.int (1 : Int32)), .val (.int (2 : Int32)), .val (.int (1 : Int32)), .val (.int c1)] []))
  refine Go.by' (fun t k => (XS.iinc X23.here hx rfl (hb hby d6_32) rfl (l' := #[.val (.ref ca), .val (.int ((1 : Int32) + (1 : Int32))), .val (.ref ba), .val (.int (1 : Int32)), .val (.int (2 : Int32)), .val (.int (1 : Int32)), .val (.int c1)]) rfl k)) ?_
  show Go p.tables e below Pf (T23.setTop (mkF m 35 #[.val (.ref ca), .val (.int ((1 : Int32) + (1 : Int32))), .val (.ref ba), .val (.int (1 : Int32)), .val (.int (2 : Int32)), .val (.int (1 : Int32)), .val (.int c1)] []))
  refine Go.castF (a := ((1 : Int32) + (1 : Int32))) (b := (2 : Int32)) (fun z' : Int32 => mkF m 35 #[.val (.ref ca), .val (.int z'), .val (.ref ba), .val (.int (1 : Int32)), .val (.int (2 : Int32)), .val (.int (1 : Int32)), .val (.int c1)] []) (by decide) ?_
  show Go p.tables e below Pf (T23.setTop (mkF m 35 #[.val (.ref ca), .val (.int (2 : Int32)), .val (.ref ba), .val (.int (1 : Int32)), .val (.int (2 : Int32)), .val (.int (1 : Int32)), .val (.int c1)] []))
  refine Go.by' (fun t k => (XS.iinc X23.here hx rfl (hb hby d6_35) rfl (l' := #[.val (.ref ca), .val (.int (2 : Int32)), .val (.ref ba), .val (.int ((1 : Int32) + (1 : Int32))), .val (.int (2 : Int32)), .val (.int (1 : Int32)), .val (.int c1)]) rfl k)) ?_
  show Go p.tables e below Pf (T23.setTop (mkF m 38 #[.val (.ref ca), .val (.int (2 : Int32)), .val (.ref ba), .val (.int ((1 : Int32) + (1 : Int32))), .val (.int (2 : Int32)), .val (.int (1 : Int32)), .val (.int c1)] []))
  refine Go.castF (a := ((1 : Int32) + (1 : Int32))) (b := (2 : Int32)) (fun z' : Int32 => mkF m 38 #[.val (.ref ca), .val (.int (2 : Int32)), .val (.ref ba), .val (.int z'), .val (.int (2 : Int32)), .val (.int (1 : Int32)), .val (.int c1)] []) (by decide) ?_
  show Go p.tables e below Pf (T23.setTop (mkF m 38 #[.val (.ref ca), .val (.int (2 : Int32)), .val (.ref ba), .val (.int (2 : Int32)), .val (.int (2 : Int32)), .val (.int (1 : Int32)), .val (.int c1)] []))
  refine Go.by' (fun t k => (XS.iinc X23.here hx rfl (hb hby d6_38) rfl (l' := #[.val (.ref ca), .val (.int (2 : Int32)), .val (.ref ba), .val (.int (2 : Int32)), .val (.int (2 : Int32)), .val (.int ((1 : Int32) + (1 : Int32))), .val (.int c1)]) rfl k)) ?_
  show Go p.tables e below Pf (T23.setTop (mkF m 41 #[.val (.ref ca), .val (.int (2 : Int32)), .val (.ref ba), .val (.int (2 : Int32)), .val (.int (2 : Int32)), .val (.int ((1 : Int32) + (1 : Int32))), .val (.int c1)] []))
  refine Go.castF (a := ((1 : Int32) + (1 : Int32))) (b := (2 : Int32)) (fun z' : Int32 => mkF m 41 #[.val (.ref ca), .val (.int (2 : Int32)), .val (.ref ba), .val (.int (2 : Int32)), .val (.int (2 : Int32)), .val (.int z'), .val (.int c1)] []) (by decide) ?_
  show Go p.tables e below Pf (T23.setTop (mkF m 41 #[.val (.ref ca), .val (.int (2 : Int32)), .val (.ref ba), .val (.int (2 : Int32)), .val (.int (2 : Int32)), .val (.int (2 : Int32)), .val (.int c1)] []))
  refine Go.by' (fun t k => (XS.goto X23.here hx rfl (pc0 := 41) (pc' := 3) rfl (hb hby d6_41) (by decide) (by decide) (XS.iload X23.here hx rfl (hb hby d6_3) rfl (XS.iload X23.here hx rfl (hb hby d6_5) rfl (XS.icmpYes X23.here hx rfl (pc0 := 7) (pc' := 44) rfl (hb hby d6_7) rfl (flt (by decide)).2.1 (by decide) (by decide) (XS.iload X23.here hx rfl (hb hby d6_44) rfl k)))))) ?_
  show Go p.tables e below Pf (T23.setTop (mkF m 46 #[.val (.ref ca), .val (.int (2 : Int32)), .val (.ref ba), .val (.int (2 : Int32)), .val (.int (2 : Int32)), .val (.int (2 : Int32)), .val (.int c1)] [(.int (2 : Int32))]))
  rw [hPf]
  exact Go.retI' X23 hx hret hlk (by simp) rfl (hb hby d6_46) (by decide) (by decide) ⟨rfl, N23, (by rw [e23]; exact KC23), (by rw [e23]; exact V23)⟩
set_option maxHeartbeats 4000000 in
theorem ef_rmC3_2 (m : MethodId) {ca : Addr} : entryFrame m #[(.ref ca), (.int (0 : Int32)), (.int (2 : Int32))] 6 = mkF m 0 #[.val (.ref ca), .val (.int (0 : Int32)), .val (.int (2 : Int32)), .unset, .unset, .unset] [] := by first | (simp [entryFrame, mkF, argsToLocals, Value.category]; done) | rfl
def QrmC3_2 (Z : State) (vcs : Int32) (ca : Addr) (kc : ClassId) (c0 : Int32) (c1 : Int32) (h0 : Heap) (n0 : Nat) (v : Option Value) (h : Heap) (L : List Loc) : Prop := ∃ (rb : Addr) (kb : ClassId), (v = some (.ref rb)) ∧ (Fr n0 L) ∧ (Keep h0 h []) ∧ (Arv Z h rb kb .byte (2 : Int32) [(.int (c0.toInt8.toInt32)), (.int (c1.toInt8.toInt32))] (.int (0 : Int32))) ∧ (h0.size ≤ rb)
set_option maxRecDepth 65536 in
set_option maxHeartbeats 40000000 in
theorem rmC3_2 (l : Launch) (Z : State) (a0 : Array Value) (hw : ∀ d ∈ tables_1, d.before a0 Z = true) (ws : List Jvm.Cond) (vcs : Int32) (G : Gh Z vcs) (ca : Addr) (kc : ClassId) (c0 : Int32) (c1 : Int32) (h0 : Heap) (n0 : Nat) (O0 : Old Z n0 h0) (VC : Arv Z h0 ca kc .char (2 : Int32) [(.int c0), (.int c1)] (.int (0 : Int32))) (hb0 : ¬ ((255 : Int32) < c0)) (hb1 : ¬ ((255 : Int32) < c1)) :
    MetFree l (⟨"java/lang/StringUTF16", "compress", "([CII)[B"⟩ : MethodName) (head1 (Jvm.Cond.code (⟨"java/lang/StringUTF16", "compress", "([CII)[B"⟩ : MethodName) jdk_52_method_16_code 6 (some (.array .byte)) :: ws) ({ frames := 1, cells := 1, slots := 2, locals := 18 } : Room)) (fun aa' UU' => aa' = #[(.ref ca), (.int (0 : Int32)), (.int (2 : Int32))] ∧ Z.Warmed39 UU'.vm ∧ UU'.heap = h0) (fun _ _ _ _ _ => True) (fun _ UU' oo' VV' => ∃ v' L', oo' = .returned v' ∧ QrmC3_2 Z vcs ca kc c0 c1 h0 n0 v' VV'.heap L' ∧ FrameEnd UU' oo' VV' L' ({ frames := 1, cells := 1, slots := 2, locals := 18 } : Room).cells ({ frames := 1, cells := 1, slots := 2, locals := 18 } : Room).slots) := by
  refine MetFree.of_bodySF (plainFor_of_name pn_5) hisR ?_
  intro p e s m args below meth c s₁ Bd hml0 hP hK
  obtain ⟨rfl, hZ, hh⟩ := hP
  have hx := Bd.exec
  have hby := Bd.bytes
  have hlk := Bd.notSynchronized
  have hml : c.maxLocals = 6 := hml0
  have hown : s.vm.findClass "java/lang/StringUTF16" = some m.cls := findClass_of_methodNamed Bd.named
  have hnm := (name_of_methodNamed Bd.named Bd.method).1
  have hret := Bd.returns
  have X0 : Stand p l e ({ frames := 1, cells := 1, slots := 2, locals := 18 } : Room) s m #[(.ref ca), (.int (0 : Int32)), (.int (2 : Int32))] below meth c s₁ [] 0 0 := Stand.of_body Bd
  have e0 : s₁.heap = h0 := by rw [← hh, Bd.state]; rfl
  have N0 := Fr.nil n0
  have KC0 : Keep h0 h0 [] := Keep.refl _ _
  refine Go.body ?_
  obtain ⟨Pf, hPf⟩ : ∃ P, P = Fin' s below ({ frames := 1, cells := 1, slots := 2, locals := 18 } : Room).cells ({ frames := 1, cells := 1, slots := 2, locals := 18 } : Room).slots (QrmC3_2 Z vcs ca kc c0 c1 h0 n0) := ⟨_, rfl⟩
  rw [← hPf]
  refine Go.cast (ef_rmC3_2 m) ?_
  have hw19 := (hw _ (List.mem_of_getElem? (i := 19) rfl))
  have hw29 := (hw _ (List.mem_of_getElem? (i := 29) rfl))
  have hw31 := (hw _ (List.mem_of_getElem? (i := 31) rfl))
  have hw32 := (hw _ (List.mem_of_getElem? (i := 32) rfl))
  have hw33 := (hw _ (List.mem_of_getElem? (i := 33) rfl))
  show Go p.tables e below Pf (s₁.setTop (mkF m 0 #[.val (.ref ca), .val (.int (0 : Int32)), .val (.int (2 : Int32)), .unset, .unset, .unset] []))
  refine Go.by' (fun t k => (XS.iloadN X0.here hx rfl (hb hby d5_0) rfl k)) ?_
  show Go p.tables e below Pf (s₁.setTop (mkF m 1 #[.val (.ref ca), .val (.int (0 : Int32)), .val (.int (2 : Int32)), .unset, .unset, .unset] [(.int (2 : Int32))]))
  obtain ⟨T24, h24, k24, X24, e24, E24, A24, st24⟩ := newP (aty := .byte) X0 hx hZ hw19 e0 (g := (mkF m 1 #[.val (.ref ca), .val (.int (0 : Int32)), .val (.int (2 : Int32)), .unset, .unset, .unset] [(.int (2 : Int32))])) rfl (hb hby d5_1) rfl (by decide) (cap := 2) (by decide) (by decide) (by decide) (by decide)
  obtain ⟨b24, g24⟩ : ∃ z, z = h0.size := ⟨_, rfl⟩
  rw [← g24] at A24 st24
  refine Go.by' st24 ?_
  have g_b24 : n0 ≤ b24 := Nat.le_trans (own_le O0) (Nat.le_of_eq g24.symm)
  have sz_b24 : h0.size ≤ b24 := Nat.le_trans KC0.1 (Nat.le_of_eq g24.symm)
  have O24 := O0.ext E24
  have KC24 : Keep h0 h24 [] := KC0.ext E24
  have V24 : Arv Z h24 b24 k24 .byte (2 : Int32) [(.int (0 : Int32)), (.int (0 : Int32))] (Value.int (0 : Int32)) := (Arv.new A24 (by decide)).pad (pad_rep [] (Value.int (0 : Int32)) 2)
  show Go p.tables e below Pf (T24.setTop (mkF m 3 #[.val (.ref ca), .val (.int (0 : Int32)), .val (.int (2 : Int32)), .unset, .unset, .unset] [(.ref b24)]))
  refine Go.by' (fun t k => (XS.astoreN X24.here hx rfl (hb hby d5_3) rfl rfl (l' := #[.val (.ref ca), .val (.int (0 : Int32)), .val (.int (2 : Int32)), .val (.ref b24), .unset, .unset]) rfl (XS.aloadN X24.here hx rfl (hb hby d5_4) rfl rfl (XS.iloadN X24.here hx rfl (hb hby d5_5) rfl (XS.aloadN X24.here hx rfl (hb hby d5_6) rfl rfl (XS.iconst X24.here hx rfl (hb hby d5_7) (XS.iloadN X24.here hx rfl (hb hby d5_8) rfl k))))))) ?_
  show Go p.tables e below Pf (T24.setTop (mkF m 9 #[.val (.ref ca), .val (.int (0 : Int32)), .val (.int (2 : Int32)), .val (.ref b24), .unset, .unset] [(.int (2 : Int32)), (.int (0 : Int32)), (.ref b24), (.int (0 : Int32)), (.ref ca)]))
  obtain ⟨_, _, ⟨T25, L25, k25, n25⟩, -, X25, ⟨Lc25, hQ25, l25, y25, z25⟩, st25⟩ := Jvm.LawKit.callS X24 hx (y := (⟨"java/lang/StringUTF16", "compress", "([CI[BII)I"⟩ : MethodName)) hown (mvT hZ hw31) (mvT hZ hw32) (mvT hZ hw29) (mvT hZ hw33) (by decide) (backOf (W := 0) (rmC5_2 l Z a0 hw [] vcs G ca b24 kc k24 c0 c1 h24 n0 O24 (VC.ext E24) V24 g_b24 (Nat.ne_of_lt (Nat.lt_of_lt_of_le VC.lt (Nat.le_of_eq g24.symm))) hb0 hb1) hZ hw33 hw29 (by decide) (by decide)) (g := (mkF m 9 #[.val (.ref ca), .val (.int (0 : Int32)), .val (.int (2 : Int32)), .val (.ref b24), .unset, .unset] [(.int (2 : Int32)), (.int (0 : Int32)), (.ref b24), (.int (0 : Int32)), (.ref ca)])) rfl (by rw [hml]; rfl) (argsL := [(.ref ca), (.int (0 : Int32)), (.ref b24), (.int (0 : Int32)), (.int (2 : Int32))]) (rest := []) (lenOf pd_0 rfl) rfl (by show 2 * 0 + _ ≤ _; exact Nat.le_of_eq rfl) (hb hby d5_9) (fun _ _ => ⟨rfl, e24, (by decide : 1 + 0 ≤ _), (by decide : 2 + 0 ≤ _)⟩)
  dsimp only [Pt.U, Pt.locs, Pt.cells, Pt.slots] at X25 l25 y25 z25 st25 hQ25
  subst l25 y25 z25
  obtain ⟨rfl, N25q, K25, f25_0⟩ := hQ25
  have N25 := Fr.app N0 N25q
  obtain ⟨lc25, X25, N25⟩ := own_pack X25 N25
  refine Go.by' st25 ?_
  have O25 := O24.keep K25 (allS g_b24 all0)
  have KC25 : Keep h0 T25.heap [] := KC24.trans K25 (allS (Or.inr sz_b24) all0)
  show Go p.tables e below Pf (T25.setTop (mkF m 12 #[.val (.ref ca), .val (.int (0 : Int32)), .val (.int (2 : Int32)), .val (.ref b24), .unset, .unset] [(.int (2 : Int32))]))
  refine Go.by' (fun t k => (XS.istore X25.here hx rfl (hb hby d5_12) rfl (l' := #[.val (.ref ca), .val (.int (0 : Int32)), .val (.int (2 : Int32)), .val (.ref b24), .val (.int (2 : Int32)), .unset]) rfl (XS.iload X25.here hx rfl (hb hby d5_14) rfl (XS.iloadN X25.here hx rfl (hb hby d5_16) rfl (XS.icmpYes X25.here hx rfl (pc0 := 17) (pc' := 57) rfl (hb hby d5_17) rfl (teq (by decide)).1 (by decide) (by decide) (XS.aloadN X25.here hx rfl (hb hby d5_57) rfl rfl k)))))) ?_
  show Go p.tables e below Pf (T25.setTop (mkF m 58 #[.val (.ref ca), .val (.int (0 : Int32)), .val (.int (2 : Int32)), .val (.ref b24), .val (.int (2 : Int32)), .unset] [(.ref b24)]))
  rw [hPf]
  exact Go.retA' X25 hx hret hlk rfl rfl (hb hby d5_58) (by decide) (by decide) ⟨b24, k24, rfl, N25, KC25, f25_0, sz_b24⟩
set_option maxHeartbeats 4000000 in
theorem ef_rmCL_2 (m : MethodId) {ba : Addr} : entryFrame m #[(.ref ba), (.int (2 : Int32))] 2 = mkF m 0 #[.val (.ref ba), .val (.int (2 : Int32))] [] := by first | (simp [entryFrame, mkF, argsToLocals, Value.category]; done) | rfl
def QrmCL_2 (Z : State) (vcs : Int32) (ba : Addr) (kb : ClassId) (x0 : Value) (x1 : Value) (h0 : Heap) (n0 : Nat) (v : Option Value) (h : Heap) (L : List Loc) : Prop := (v = some (.int (0 : Int32))) ∧ (L = []) ∧ (h = h0)
set_option maxRecDepth 65536 in
set_option maxHeartbeats 40000000 in
theorem rmCL_2 (l : Launch) (Z : State) (a0 : Array Value) (hw : ∀ d ∈ tables_1, d.before a0 Z = true) (ws : List Jvm.Cond) (vcs : Int32) (G : Gh Z vcs) (ba : Addr) (kb : ClassId) (x0 : Value) (x1 : Value) (h0 : Heap) (n0 : Nat) (O0 : Old Z n0 h0) (VB : Arv Z h0 ba kb .byte (2 : Int32) [x0, x1] (.int (0 : Int32))) :
    MetFree l (⟨"java/lang/StringUTF16", "coderFromArrayLen", "([BI)B"⟩ : MethodName) (head1 (Jvm.Cond.code (⟨"java/lang/StringUTF16", "coderFromArrayLen", "([BI)B"⟩ : MethodName) jdk_52_method_15_code 2 (some .byte) :: ws) ({ frames := 0, cells := 0, slots := 0, locals := 0 } : Room)) (fun aa' UU' => aa' = #[(.ref ba), (.int (2 : Int32))] ∧ Z.Warmed39 UU'.vm ∧ UU'.heap = h0) (fun _ _ _ _ _ => True) (fun _ UU' oo' VV' => ∃ v' L', oo' = .returned v' ∧ QrmCL_2 Z vcs ba kb x0 x1 h0 n0 v' VV'.heap L' ∧ FrameEnd UU' oo' VV' L' ({ frames := 0, cells := 0, slots := 0, locals := 0 } : Room).cells ({ frames := 0, cells := 0, slots := 0, locals := 0 } : Room).slots) := by
  refine MetFree.of_bodySF (plainFor_of_name pn_7) hisR ?_
  intro p e s m args below meth c s₁ Bd hml0 hP hK
  obtain ⟨rfl, hZ, hh⟩ := hP
  have hx := Bd.exec
  have hby := Bd.bytes
  have hlk := Bd.notSynchronized
  have hml : c.maxLocals = 2 := hml0
  have hown : s.vm.findClass "java/lang/StringUTF16" = some m.cls := findClass_of_methodNamed Bd.named
  have hnm := (name_of_methodNamed Bd.named Bd.method).1
  have hret := Bd.returns
  have X0 : Stand p l e ({ frames := 0, cells := 0, slots := 0, locals := 0 } : Room) s m #[(.ref ba), (.int (2 : Int32))] below meth c s₁ [] 0 0 := Stand.of_body Bd
  have e0 : s₁.heap = h0 := by rw [← hh, Bd.state]; rfl
  have N0 := Fr.nil n0
  refine Go.body ?_
  obtain ⟨Pf, hPf⟩ : ∃ P, P = Fin' s below ({ frames := 0, cells := 0, slots := 0, locals := 0 } : Room).cells ({ frames := 0, cells := 0, slots := 0, locals := 0 } : Room).slots (QrmCL_2 Z vcs ba kb x0 x1 h0 n0) := ⟨_, rfl⟩
  rw [← hPf]
  refine Go.cast (ef_rmCL_2 m) ?_
  show Go p.tables e below Pf (s₁.setTop (mkF m 0 #[.val (.ref ba), .val (.int (2 : Int32))] []))
  refine Go.by' (fun t k => (XS.iloadN X0.here hx rfl (hb hby d7_0) rfl (XS.aloadN X0.here hx rfl (hb hby d7_1) rfl rfl k))) ?_
  show Go p.tables e below Pf (s₁.setTop (mkF m 2 #[.val (.ref ba), .val (.int (2 : Int32))] [(.ref ba), (.int (2 : Int32))]))
  obtain ⟨cl26, Ar26, -, S26, P26, -, -⟩ := (id VB)
  refine Go.by' (fun t k => (X0.arraylength hx (by rw [e0]; exact Ar26.1) (State.isArrayOf_alike hZ.alike Ar26.2.1) (g := (mkF m 2 #[.val (.ref ba), .val (.int (2 : Int32))] [(.ref ba), (.int (2 : Int32))])) rfl rfl (hb hby d7_2) t k)) ?_
  rw [len_of S26 P26]
  show Go p.tables e below Pf (s₁.setTop (mkF m 3 #[.val (.ref ba), .val (.int (2 : Int32))] [(.int (2 : Int32)), (.int (2 : Int32))]))
  refine Go.by' (fun t k => (XS.isub X0.here hx rfl (hb hby d7_3) rfl k)) ?_
  show Go p.tables e below Pf (s₁.setTop (mkF m 4 #[.val (.ref ba), .val (.int (2 : Int32))] [(.int ((2 : Int32) - (2 : Int32)))]))
  refine Go.castF (a := ((2 : Int32) - (2 : Int32))) (b := (0 : Int32)) (fun z' : Int32 => mkF m 4 #[.val (.ref ba), .val (.int (2 : Int32))] [(.int z')]) (by decide) ?_
  show Go p.tables e below Pf (s₁.setTop (mkF m 4 #[.val (.ref ba), .val (.int (2 : Int32))] [(.int (0 : Int32))]))
  refine Go.by' (fun t k => (XS.bipush X0.here hx rfl (hb hby d7_4) (XS.iushr X0.here hx rfl (hb hby d7_6) rfl k))) ?_
  show Go p.tables e below Pf (s₁.setTop (mkF m 7 #[.val (.ref ba), .val (.int (2 : Int32))] [(.int (((0 : Int32).toUInt32 >>> ((31 : Int32) &&& 31).toUInt32).toInt32))]))
  refine Go.castF (a := (((0 : Int32).toUInt32 >>> ((31 : Int32) &&& 31).toUInt32).toInt32)) (b := (0 : Int32)) (fun z' : Int32 => mkF m 7 #[.val (.ref ba), .val (.int (2 : Int32))] [(.int z')]) (by decide) ?_
  show Go p.tables e below Pf (s₁.setTop (mkF m 7 #[.val (.ref ba), .val (.int (2 : Int32))] [(.int (0 : Int32))]))
  refine Go.by' (fun t k => (XS.i2b X0.here hx rfl (hb hby d7_7) rfl k)) ?_
  show Go p.tables e below Pf (s₁.setTop (mkF m 8 #[.val (.ref ba), .val (.int (2 : Int32))] [(.int ((0 : Int32).toInt8.toInt32))]))
  refine Go.castF (a := ((0 : Int32).toInt8.toInt32)) (b := (0 : Int32)) (fun z' : Int32 => mkF m 8 #[.val (.ref ba), .val (.int (2 : Int32))] [(.int z')]) (by decide) ?_
  show Go p.tables e below Pf (s₁.setTop (mkF m 8 #[.val (.ref ba), .val (.int (2 : Int32))] [(.int (0 : Int32))]))
  rw [hPf]
  exact Go.retI' X0 hx hret hlk (by simp) rfl (hb hby d7_8) (by decide) (by decide) ⟨rfl, rfl, e0⟩
set_option maxHeartbeats 4000000 in
theorem ef_rmS4_2 (m : MethodId) {sa : Addr} {ca : Addr} : entryFrame m #[(.ref sa), (.ref ca), (.int (0 : Int32)), (.int (2 : Int32)), .null] 6 = mkF m 0 #[.val (.ref sa), .val (.ref ca), .val (.int (0 : Int32)), .val (.int (2 : Int32)), .val .null, .unset] [] := by first | (simp [entryFrame, mkF, argsToLocals, Value.category]; done) | rfl
def QrmS4_2 (Z : State) (vcs : Int32) (sa : Addr) (ca : Addr) (kc : ClassId) (c0 : Int32) (c1 : Int32) (h0 : Heap) (n0 : Nat) (v : Option Value) (h : Heap) (L : List Loc) : Prop := ∃ (rb : Addr) (kb : ClassId), (v = none) ∧ (Fr n0 L) ∧ (Keep h0 h [sa]) ∧ (Exa Z h sa "java/lang/String") ∧ (Fld Z h sa "java/lang/String" "value" "[B" (.ref rb)) ∧ (Fld Z h sa "java/lang/String" "coder" "B" (.int (0 : Int32))) ∧ (Arv Z h rb kb .byte (2 : Int32) [(.int (c0.toInt8.toInt32)), (.int (c1.toInt8.toInt32))] (.int (0 : Int32))) ∧ (h0.size ≤ rb)
set_option maxRecDepth 65536 in
set_option maxHeartbeats 40000000 in
theorem rmS4_2 (l : Launch) (Z : State) (a0 : Array Value) (hw : ∀ d ∈ tables_1, d.before a0 Z = true) (ws : List Jvm.Cond) (vcs : Int32) (G : Gh Z vcs) (sa : Addr) (ca : Addr) (kc : ClassId) (c0 : Int32) (c1 : Int32) (h0 : Heap) (n0 : Nat) (O0 : Old Z n0 h0) (EX : Exa Z h0 sa "java/lang/String") (FV : Fld Z h0 sa "java/lang/String" "value" "[B" .null) (FC : Fld Z h0 sa "java/lang/String" "coder" "B" (.int (0 : Int32))) (g_sa : n0 ≤ sa) (VC : Arv Z h0 ca kc .char (2 : Int32) [(.int c0), (.int c1)] (.int (0 : Int32))) (hne : sa ≠ ca) (hb0 : ¬ ((255 : Int32) < c0)) (hb1 : ¬ ((255 : Int32) < c1)) :
    MetFree l (⟨"java/lang/String", "<init>", "([CIILjava/lang/Void;)V"⟩ : MethodName) (head1 (Jvm.Cond.code (⟨"java/lang/String", "<init>", "([CIILjava/lang/Void;)V"⟩ : MethodName) jdk_42_method_149_code 6 none :: ws) ({ frames := 2, cells := 1, slots := 2, locals := 35 } : Room)) (fun aa' UU' => aa' = #[(.ref sa), (.ref ca), (.int (0 : Int32)), (.int (2 : Int32)), .null] ∧ Z.Warmed39 UU'.vm ∧ UU'.heap = h0) (fun _ _ _ _ _ => True) (fun _ UU' oo' VV' => ∃ v' L', oo' = .returned v' ∧ QrmS4_2 Z vcs sa ca kc c0 c1 h0 n0 v' VV'.heap L' ∧ FrameEnd UU' oo' VV' L' ({ frames := 2, cells := 1, slots := 2, locals := 35 } : Room).cells ({ frames := 2, cells := 1, slots := 2, locals := 35 } : Room).slots) := by
  refine MetFree.of_bodySF (plainFor_of_name pn_3) hisR ?_
  intro p e s m args below meth c s₁ Bd hml0 hP hK
  obtain ⟨rfl, hZ, hh⟩ := hP
  have hx := Bd.exec
  have hby := Bd.bytes
  have hlk := Bd.notSynchronized
  have hml : c.maxLocals = 6 := hml0
  have hown : s.vm.findClass "java/lang/String" = some m.cls := findClass_of_methodNamed Bd.named
  have hnm := (name_of_methodNamed Bd.named Bd.method).1
  have hret := Bd.returns
  have X0 : Stand p l e ({ frames := 2, cells := 1, slots := 2, locals := 35 } : Room) s m #[(.ref sa), (.ref ca), (.int (0 : Int32)), (.int (2 : Int32)), .null] below meth c s₁ [] 0 0 := Stand.of_body Bd
  have e0 : s₁.heap = h0 := by rw [← hh, Bd.state]; rfl
  have N0 := Fr.nil n0
  have KC0 : Keep h0 h0 [sa] := Keep.refl _ _
  refine Go.body ?_
  obtain ⟨Pf, hPf⟩ : ∃ P, P = Fin' s below ({ frames := 2, cells := 1, slots := 2, locals := 35 } : Room).cells ({ frames := 2, cells := 1, slots := 2, locals := 35 } : Room).slots (QrmS4_2 Z vcs sa ca kc c0 c1 h0 n0) := ⟨_, rfl⟩
  rw [← hPf]
  refine Go.cast (ef_rmS4_2 m) ?_
  have hw5 := (hw _ (List.mem_of_getElem? (i := 5) rfl))
  have hw15 := (hw _ (List.mem_of_getElem? (i := 15) rfl))
  have hw16 := (hw _ (List.mem_of_getElem? (i := 16) rfl))
  have hw17 := (hw _ (List.mem_of_getElem? (i := 17) rfl))
  have hw20 := (hw _ (List.mem_of_getElem? (i := 20) rfl))
  have hw21 := (hw _ (List.mem_of_getElem? (i := 21) rfl))
  have hw24 := (hw _ (List.mem_of_getElem? (i := 24) rfl))
  have hw25 := (hw _ (List.mem_of_getElem? (i := 25) rfl))
  have hw26 := (hw _ (List.mem_of_getElem? (i := 26) rfl))
  have hw27 := (hw _ (List.mem_of_getElem? (i := 27) rfl))
  have hw28 := (hw _ (List.mem_of_getElem? (i := 28) rfl))
  have hw29 := (hw _ (List.mem_of_getElem? (i := 29) rfl))
  have hw30 := (hw _ (List.mem_of_getElem? (i := 30) rfl))
  have hw34 := (hw _ (List.mem_of_getElem? (i := 34) rfl))
  have hw35 := (hw _ (List.mem_of_getElem? (i := 35) rfl))
  have hw36 := (hw _ (List.mem_of_getElem? (i := 36) rfl))
  show Go p.tables e below Pf (s₁.setTop (mkF m 0 #[.val (.ref sa), .val (.ref ca), .val (.int (0 : Int32)), .val (.int (2 : Int32)), .val .null, .unset] []))
  refine Go.by' (fun t k => (XS.aloadN X0.here hx rfl (hb hby d3_0) rfl rfl k)) ?_
  show Go p.tables e below Pf (s₁.setTop (mkF m 1 #[.val (.ref sa), .val (.ref ca), .val (.int (0 : Int32)), .val (.int (2 : Int32)), .val .null, .unset] [(.ref sa)]))
  obtain ⟨T27, X27, e27, st27⟩ := initO X0 hx hZ hown hw15 hw16 hw17 e0 (g := (mkF m 1 #[.val (.ref sa), .val (.ref ca), .val (.int (0 : Int32)), .val (.int (2 : Int32)), .val .null, .unset] [(.ref sa)])) rfl (by rw [hml]; rfl) rfl (hb hby d3_1) (by decide) (W := 0) (by show 2 * 0 + _ ≤ _; exact Nat.le_of_eq rfl) (by decide)
  refine Go.by' st27 ?_
  show Go p.tables e below Pf (T27.setTop (mkF m 4 #[.val (.ref sa), .val (.ref ca), .val (.int (0 : Int32)), .val (.int (2 : Int32)), .val .null, .unset] []))
  refine Go.by' (fun t k => (XS.iloadN X27.here hx rfl (hb hby d3_4) rfl (XS.ifYes X27.here hx rfl (pc0 := 5) (pc' := 27) rfl (hb hby d3_5) rfl ((if0 _ _).trans (feq (by decide)).2) (by decide) (by decide) k))) ?_
  show Go p.tables e below Pf (T27.setTop (mkF m 27 #[.val (.ref sa), .val (.ref ca), .val (.int (0 : Int32)), .val (.int (2 : Int32)), .val .null, .unset] []))
  obtain ⟨T28, X28, e28, st28⟩ := getS2 X27 hx hZ hown (host := "") (Or.inl hw26) Via.refl e27 (G.1.ext O0.2) (g := (mkF m 27 #[.val (.ref sa), .val (.ref ca), .val (.int (0 : Int32)), .val (.int (2 : Int32)), .val .null, .unset] [])) rfl (hb hby d3_27)
  refine Go.by' st28 ?_
  show Go p.tables e below Pf (T28.setTop (mkF m 30 #[.val (.ref sa), .val (.ref ca), .val (.int (0 : Int32)), .val (.int (2 : Int32)), .val .null, .unset] [(.int vcs)]))
  refine Go.by' (fun t k => (XS.ifNo X28.here hx rfl (hb hby d3_30) rfl ((if0 _ _).trans (feq G.2).1) (XS.aloadN X28.here hx rfl (hb hby d3_33) rfl rfl (XS.iloadN X28.here hx rfl (hb hby d3_34) rfl (XS.iloadN X28.here hx rfl (hb hby d3_35) rfl k))))) ?_
  show Go p.tables e below Pf (T28.setTop (mkF m 36 #[.val (.ref sa), .val (.ref ca), .val (.int (0 : Int32)), .val (.int (2 : Int32)), .val .null, .unset] [(.int (2 : Int32)), (.int (0 : Int32)), (.ref ca)]))
  obtain ⟨_, _, ⟨T29, L29, k29, n29⟩, -, X29, ⟨Lc29, hQ29, l29, y29, z29⟩, st29⟩ := Jvm.LawKit.callS X28 hx (y := (⟨"java/lang/StringUTF16", "compress", "([CII)[B"⟩ : MethodName)) hown (mvT hZ hw27) (mvT hZ hw28) (mvT hZ hw29) (mvT hZ hw30) (by decide) (backOf (W := 0) (rmC3_2 l Z a0 hw [] vcs G ca kc c0 c1 h0 n0 O0 VC hb0 hb1) hZ hw30 hw29 (by decide) (by decide)) (g := (mkF m 36 #[.val (.ref sa), .val (.ref ca), .val (.int (0 : Int32)), .val (.int (2 : Int32)), .val .null, .unset] [(.int (2 : Int32)), (.int (0 : Int32)), (.ref ca)])) rfl (by rw [hml]; rfl) (argsL := [(.ref ca), (.int (0 : Int32)), (.int (2 : Int32))]) (rest := []) (lenOf pd_1 rfl) rfl (by show 2 * 0 + _ ≤ _; exact Nat.le_of_eq rfl) (hb hby d3_36) (fun _ _ => ⟨rfl, e28, (by decide : 0 + 1 ≤ _), (by decide : 0 + 2 ≤ _)⟩)
  dsimp only [Pt.U, Pt.locs, Pt.cells, Pt.slots] at X29 l29 y29 z29 st29 hQ29
  subst l29 y29 z29
  obtain ⟨rb_29, kb_29, rfl, N29q, K29, f29_0, f29_1⟩ := hQ29
  have N29 := Fr.app N0 N29q
  obtain ⟨lc29, X29, N29⟩ := own_pack X29 N29
  refine Go.by' st29 ?_
  have g_rb_29 : n0 ≤ rb_29 := Nat.le_trans (own_le O0) f29_1
  have sz_rb_29 : h0.size ≤ rb_29 := Nat.le_trans KC0.1 f29_1
  have O29 := O0.keep K29 all0
  have KC29 : Keep h0 T29.heap [sa] := KC0.trans K29 all0
  show Go p.tables e below Pf (T29.setTop (mkF m 39 #[.val (.ref sa), .val (.ref ca), .val (.int (0 : Int32)), .val (.int (2 : Int32)), .val .null, .unset] [(.ref rb_29)]))
  refine Go.by' (fun t k => (XS.astore X29.here hx rfl (hb hby d3_39) rfl rfl (l' := #[.val (.ref sa), .val (.ref ca), .val (.int (0 : Int32)), .val (.int (2 : Int32)), .val .null, .val (.ref rb_29)]) rfl (XS.aloadN X29.here hx rfl (hb hby d3_41) rfl rfl (XS.aload X29.here hx rfl (hb hby d3_42) rfl rfl (XS.iloadN X29.here hx rfl (hb hby d3_44) rfl k))))) ?_
  show Go p.tables e below Pf (T29.setTop (mkF m 45 #[.val (.ref sa), .val (.ref ca), .val (.int (0 : Int32)), .val (.int (2 : Int32)), .val .null, .val (.ref rb_29)] [(.int (2 : Int32)), (.ref rb_29), (.ref sa)]))
  obtain ⟨_, _, ⟨T30, L30, k30, n30⟩, -, X30, ⟨Lc30, hQ30, l30, y30, z30⟩, st30⟩ := Jvm.LawKit.callS X29 hx (y := (⟨"java/lang/StringUTF16", "coderFromArrayLen", "([BI)B"⟩ : MethodName)) hown (mvT hZ hw34) (mvT hZ hw35) (mvT hZ hw29) (mvT hZ hw36) (by decide) (backOf (W := 1) (rmCL_2 l Z a0 hw [] vcs G rb_29 kb_29 ((Value.int (c0.toInt8.toInt32))) ((Value.int (c1.toInt8.toInt32))) T29.heap n0 O29 f29_0) hZ hw36 hw29 (by decide) (by decide)) (g := (mkF m 45 #[.val (.ref sa), .val (.ref ca), .val (.int (0 : Int32)), .val (.int (2 : Int32)), .val .null, .val (.ref rb_29)] [(.int (2 : Int32)), (.ref rb_29), (.ref sa)])) rfl (by rw [hml]; rfl) (argsL := [(.ref rb_29), (.int (2 : Int32))]) (rest := [(.ref sa)]) (lenOf pd_2 rfl) rfl (by show 2 * 0 + _ ≤ _; exact Nat.le_of_eq rfl) (hb hby d3_45) (fun _ _ => ⟨rfl, rfl, (by decide : 1 + 0 ≤ _), (by decide : 2 + 0 ≤ _)⟩)
  dsimp only [Pt.U, Pt.locs, Pt.cells, Pt.slots] at X30 l30 y30 z30 st30 hQ30
  subst l30 y30 z30
  obtain ⟨rfl, rfl, e30⟩ := hQ30
  try replace X30 := own_nil X30
  refine Go.by' st30 ?_
  show Go p.tables e below Pf (T30.setTop (mkF m 48 #[.val (.ref sa), .val (.ref ca), .val (.int (0 : Int32)), .val (.int (2 : Int32)), .val .null, .val (.ref rb_29)] [(.int (0 : Int32)), (.ref sa)]))
  obtain ⟨T31, h31, X31, e31, W31, st31⟩ := putFN X30 hx hZ hown hw25 Via.refl e30 (FC.keep K29 nin0) (EX.keep K29) (Or.inr ⟨hw21, rfl, hnm⟩) hw5 (ty := .byte) (v' := (.int (0 : Int32))) (by decide) rfl rfl (g := (mkF m 48 #[.val (.ref sa), .val (.ref ca), .val (.int (0 : Int32)), .val (.int (2 : Int32)), .val .null, .val (.ref rb_29)] [(.int (0 : Int32)), (.ref sa)])) rfl rfl (hb hby d3_48)
  refine Go.by' st31 ?_
  have Fw31 : Fld Z h31 sa "java/lang/String" "coder" "B" (Value.int (0 : Int32)) := (FC.keep K29 nin0).same W31
  have N31 := Fr.snoc X31 N29 g_sa
  obtain ⟨lc31, X31, N31⟩ := own_pack X31 N31
  have O31 := O29.wr W31 g_sa
  have KC31 : Keep h0 h31 [sa] := KC29.wr W31 (Or.inl (List.mem_of_getElem? (i := 0) rfl))
  show Go p.tables e below Pf (T31.setTop (mkF m 51 #[.val (.ref sa), .val (.ref ca), .val (.int (0 : Int32)), .val (.int (2 : Int32)), .val .null, .val (.ref rb_29)] []))
  refine Go.by' (fun t k => (XS.aloadN X31.here hx rfl (hb hby d3_51) rfl rfl (XS.aload X31.here hx rfl (hb hby d3_52) rfl rfl k))) ?_
  show Go p.tables e below Pf (T31.setTop (mkF m 54 #[.val (.ref sa), .val (.ref ca), .val (.int (0 : Int32)), .val (.int (2 : Int32)), .val .null, .val (.ref rb_29)] [(.ref rb_29), (.ref sa)]))
  have c32 := ((EX.keep K29).wr W31)
  have c33 := ((FV.keep K29 nin0).other W31 (Or.inr (slot_ne (Or.inr hw20) (Or.inr hw21) (by decide) (t := (.array .byte)) (t' := .byte) (by decide) (by decide))))
  obtain ⟨T34, h34, X34, e34, W34, st34⟩ := putF X31 hx hZ hown (host := "") (Or.inl hw24) Via.refl e31 c33 c32 (Or.inr ⟨hw20, rfl, hnm⟩) hw5 (ty := (.array .byte)) (by decide) rfl rfl (g := (mkF m 54 #[.val (.ref sa), .val (.ref ca), .val (.int (0 : Int32)), .val (.int (2 : Int32)), .val .null, .val (.ref rb_29)] [(.ref rb_29), (.ref sa)])) rfl rfl (hb hby d3_54)
  refine Go.by' st34 ?_
  have Fw34 : Fld Z h34 sa "java/lang/String" "value" "[B" (Value.ref rb_29) := c33.same W34
  have N34 := Fr.snoc X34 N31 g_sa
  obtain ⟨lc34, X34, N34⟩ := own_pack X34 N34
  have O34 := O31.wr W34 g_sa
  have KC34 : Keep h0 h34 [sa] := KC31.wr W34 (Or.inl (List.mem_of_getElem? (i := 0) rfl))
  show Go p.tables e below Pf (T34.setTop (mkF m 57 #[.val (.ref sa), .val (.ref ca), .val (.int (0 : Int32)), .val (.int (2 : Int32)), .val .null, .val (.ref rb_29)] []))
  have c35 := ((f29_0.other W31 (Ne.symm (Nat.ne_of_lt (Nat.lt_of_lt_of_le EX.lt f29_1)))).other W34 (Ne.symm (Nat.ne_of_lt (Nat.lt_of_lt_of_le EX.lt f29_1))))
  rw [hPf]
  exact Go.retV' X34 hx hret hlk (hb hby d3_57) (by decide) (by decide) ⟨rb_29, kb_29, rfl, N34, (by rw [e34]; exact KC34), (by rw [e34]; exact (c32.wr W34)), (by rw [e34]; exact Fw34), (by rw [e34]; exact (Fw31.other W34 (Or.inr (slot_ne (Or.inr hw21) (Or.inr hw20) (by decide) (t := .byte) (t' := (.array .byte)) (by decide) (by decide))))), (by rw [e34]; exact c35), sz_rb_29⟩
set_option maxHeartbeats 4000000 in
theorem ef_rmS1_2 (m : MethodId) {sa : Addr} {ca : Addr} : entryFrame m #[(.ref sa), (.ref ca)] 2 = mkF m 0 #[.val (.ref sa), .val (.ref ca)] [] := by first | (simp [entryFrame, mkF, argsToLocals, Value.category]; done) | rfl
def QrmS1_2 (Z : State) (vcs : Int32) (sa : Addr) (ca : Addr) (kc : ClassId) (c0 : Int32) (c1 : Int32) (h0 : Heap) (n0 : Nat) (v : Option Value) (h : Heap) (L : List Loc) : Prop := ∃ (rb : Addr) (kb : ClassId), (v = none) ∧ (Fr n0 L) ∧ (Keep h0 h [sa]) ∧ (Exa Z h sa "java/lang/String") ∧ (Fld Z h sa "java/lang/String" "value" "[B" (.ref rb)) ∧ (Fld Z h sa "java/lang/String" "coder" "B" (.int (0 : Int32))) ∧ (Arv Z h rb kb .byte (2 : Int32) [(.int (c0.toInt8.toInt32)), (.int (c1.toInt8.toInt32))] (.int (0 : Int32))) ∧ (h0.size ≤ rb)
set_option maxRecDepth 65536 in
set_option maxHeartbeats 40000000 in
theorem rmS1_2 (l : Launch) (Z : State) (a0 : Array Value) (hw : ∀ d ∈ tables_1, d.before a0 Z = true) (ws : List Jvm.Cond) (vcs : Int32) (G : Gh Z vcs) (sa : Addr) (ca : Addr) (kc : ClassId) (c0 : Int32) (c1 : Int32) (h0 : Heap) (n0 : Nat) (O0 : Old Z n0 h0) (EX : Exa Z h0 sa "java/lang/String") (FV : Fld Z h0 sa "java/lang/String" "value" "[B" .null) (FC : Fld Z h0 sa "java/lang/String" "coder" "B" (.int (0 : Int32))) (g_sa : n0 ≤ sa) (VC : Arv Z h0 ca kc .char (2 : Int32) [(.int c0), (.int c1)] (.int (0 : Int32))) (hne : sa ≠ ca) (hb0 : ¬ ((255 : Int32) < c0)) (hb1 : ¬ ((255 : Int32) < c1)) :
    MetFree l (⟨"java/lang/String", "<init>", "([C)V"⟩ : MethodName) (head1 (Jvm.Cond.code (⟨"java/lang/String", "<init>", "([C)V"⟩ : MethodName) jdk_42_method_3_code 2 none :: ws) ({ frames := 3, cells := 1, slots := 2, locals := 52 } : Room)) (fun aa' UU' => aa' = #[(.ref sa), (.ref ca)] ∧ Z.Warmed39 UU'.vm ∧ UU'.heap = h0) (fun _ _ _ _ _ => True) (fun _ UU' oo' VV' => ∃ v' L', oo' = .returned v' ∧ QrmS1_2 Z vcs sa ca kc c0 c1 h0 n0 v' VV'.heap L' ∧ FrameEnd UU' oo' VV' L' ({ frames := 3, cells := 1, slots := 2, locals := 52 } : Room).cells ({ frames := 3, cells := 1, slots := 2, locals := 52 } : Room).slots) := by
  refine MetFree.of_bodySF (plainFor_of_name pn_2) hisR ?_
  intro p e s m args below meth c s₁ Bd hml0 hP hK
  obtain ⟨rfl, hZ, hh⟩ := hP
  have hx := Bd.exec
  have hby := Bd.bytes
  have hlk := Bd.notSynchronized
  have hml : c.maxLocals = 2 := hml0
  have hown : s.vm.findClass "java/lang/String" = some m.cls := findClass_of_methodNamed Bd.named
  have hnm := (name_of_methodNamed Bd.named Bd.method).1
  have hret := Bd.returns
  have X0 : Stand p l e ({ frames := 3, cells := 1, slots := 2, locals := 52 } : Room) s m #[(.ref sa), (.ref ca)] below meth c s₁ [] 0 0 := Stand.of_body Bd
  have e0 : s₁.heap = h0 := by rw [← hh, Bd.state]; rfl
  have N0 := Fr.nil n0
  have KC0 : Keep h0 h0 [sa] := Keep.refl _ _
  refine Go.body ?_
  obtain ⟨Pf, hPf⟩ : ∃ P, P = Fin' s below ({ frames := 3, cells := 1, slots := 2, locals := 52 } : Room).cells ({ frames := 3, cells := 1, slots := 2, locals := 52 } : Room).slots (QrmS1_2 Z vcs sa ca kc c0 c1 h0 n0) := ⟨_, rfl⟩
  rw [← hPf]
  refine Go.cast (ef_rmS1_2 m) ?_
  have hw6 := (hw _ (List.mem_of_getElem? (i := 6) rfl))
  have hw11 := (hw _ (List.mem_of_getElem? (i := 11) rfl))
  have hw12 := (hw _ (List.mem_of_getElem? (i := 12) rfl))
  have hw14 := (hw _ (List.mem_of_getElem? (i := 14) rfl))
  show Go p.tables e below Pf (s₁.setTop (mkF m 0 #[.val (.ref sa), .val (.ref ca)] []))
  refine Go.by' (fun t k => (XS.aloadN X0.here hx rfl (hb hby d2_0) rfl rfl (XS.aloadN X0.here hx rfl (hb hby d2_1) rfl rfl (XS.iconst X0.here hx rfl (hb hby d2_2) (XS.aloadN X0.here hx rfl (hb hby d2_3) rfl rfl k))))) ?_
  show Go p.tables e below Pf (s₁.setTop (mkF m 4 #[.val (.ref sa), .val (.ref ca)] [(.ref ca), (.int (0 : Int32)), (.ref ca), (.ref sa)]))
  obtain ⟨cl36, Ar36, -, S36, P36, -, -⟩ := (id VC)
  refine Go.by' (fun t k => (X0.arraylength hx (by rw [e0]; exact Ar36.1) (State.isArrayOf_alike hZ.alike Ar36.2.1) (g := (mkF m 4 #[.val (.ref sa), .val (.ref ca)] [(.ref ca), (.int (0 : Int32)), (.ref ca), (.ref sa)])) rfl rfl (hb hby d2_4) t k)) ?_
  rw [len_of S36 P36]
  show Go p.tables e below Pf (s₁.setTop (mkF m 5 #[.val (.ref sa), .val (.ref ca)] [(.int (2 : Int32)), (.int (0 : Int32)), (.ref ca), (.ref sa)]))
  refine Go.by' (fun t k => (XS.aconstNull X0.here hx rfl (hb hby d2_5) k)) ?_
  show Go p.tables e below Pf (s₁.setTop (mkF m 6 #[.val (.ref sa), .val (.ref ca)] [.null, (.int (2 : Int32)), (.int (0 : Int32)), (.ref ca), (.ref sa)]))
  obtain ⟨_, _, ⟨T37, L37, k37, n37⟩, -, X37, ⟨Lc37, hQ37, l37, y37, z37⟩, st37⟩ := X0.specialBack hx (y := (⟨"java/lang/String", "<init>", "([CIILjava/lang/Void;)V"⟩ : MethodName)) rfl hown (mvT hZ hw11) (mvT hZ hw12) (mvT hZ hw14) (by decide) (backOf (W := 0) (rmS4_2 l Z a0 hw [] vcs G sa ca kc c0 c1 h0 n0 O0 EX FV FC g_sa VC hne hb0 hb1) hZ hw14 hw6 (by decide) (by decide)) (g := (mkF m 6 #[.val (.ref sa), .val (.ref ca)] [.null, (.int (2 : Int32)), (.int (0 : Int32)), (.ref ca), (.ref sa)])) rfl (by rw [hml]; rfl) (Steps.refl _) (a := sa) (argsL := [(.ref ca), (.int (0 : Int32)), (.int (2 : Int32)), .null]) (rest := []) (lenOf pd_3 rfl) rfl (by show 2 * 0 + _ ≤ _; exact Nat.le_of_eq rfl) (hb hby d2_6) (fun _ _ => ⟨rfl, e0, (by decide : 0 + 1 ≤ _), (by decide : 0 + 2 ≤ _)⟩)
  dsimp only [Pt.U, Pt.locs, Pt.cells, Pt.slots] at X37 l37 y37 z37 st37 hQ37
  subst l37 y37 z37
  obtain ⟨rb_37, kb_37, rfl, N37q, K37, f37_0, f37_1, f37_2, f37_3, f37_4⟩ := hQ37
  have N37 := Fr.app N0 N37q
  obtain ⟨lc37, X37, N37⟩ := own_pack X37 N37
  refine Go.by' (fun t k => st37.trans k) ?_
  have g_rb_37 : n0 ≤ rb_37 := Nat.le_trans (own_le O0) f37_4
  have sz_rb_37 : h0.size ≤ rb_37 := Nat.le_trans KC0.1 f37_4
  have O37 := O0.keep K37 (allS g_sa all0)
  have KC37 : Keep h0 T37.heap [sa] := KC0.trans K37 (allS (Or.inl (List.mem_of_getElem? (i := 0) rfl)) all0)
  show Go p.tables e below Pf (T37.setTop (mkF m 9 #[.val (.ref sa), .val (.ref ca)] []))
  rw [hPf]
  exact Go.retV' X37 hx hret hlk (hb hby d2_9) (by decide) (by decide) ⟨rb_37, kb_37, rfl, N37, KC37, f37_0, f37_1, f37_2, f37_3, sz_rb_37⟩
theorem d3_8 : decode jdk_42_method_149_code 8 = .ok (.aload_n 0, 1) := by decide +kernel
theorem d3_9 : decode jdk_42_method_149_code 9 = .ok (.ldc 7, 2) := by decide +kernel
theorem d3_11 : decode jdk_42_method_149_code 11 = .ok (.getfield 9, 3) := by decide +kernel
theorem d3_14 : decode jdk_42_method_149_code 14 = .ok (.putfield 9, 3) := by decide +kernel
theorem d3_17 : decode jdk_42_method_149_code 17 = .ok (.aload_n 0, 1) := by decide +kernel
theorem d3_18 : decode jdk_42_method_149_code 18 = .ok (.ldc 7, 2) := by decide +kernel
theorem d3_20 : decode jdk_42_method_149_code 20 = .ok (.getfield 15, 3) := by decide +kernel
theorem d3_23 : decode jdk_42_method_149_code 23 = .ok (.putfield 15, 3) := by decide +kernel
theorem d3_26 : decode jdk_42_method_149_code 26 = .ok (.return_, 1) := by decide +kernel
set_option maxHeartbeats 4000000 in
theorem ef_rmS4_0 (m : MethodId) {sa : Addr} {ca : Addr} : entryFrame m #[(.ref sa), (.ref ca), (.int (0 : Int32)), (.int (0 : Int32)), .null] 6 = mkF m 0 #[.val (.ref sa), .val (.ref ca), .val (.int (0 : Int32)), .val (.int (0 : Int32)), .val .null, .unset] [] := by first | (simp [entryFrame, mkF, argsToLocals, Value.category]; done) | rfl
def QrmS4_0 (Z : State) (vcs : Int32) (sa : Addr) (ca : Addr) (kc : ClassId) (h0 : Heap) (n0 : Nat) (v : Option Value) (h : Heap) (vm : Vm) (L : List Loc) : Prop := ∃ (rb : Addr) (kb : ClassId), (v = none) ∧ (Fr n0 L) ∧ (Keep h0 h [sa]) ∧ (Exa Z h sa "java/lang/String") ∧ (Fld Z h sa "java/lang/String" "value" "[B" (.ref rb)) ∧ (Fld Z h sa "java/lang/String" "coder" "B" (.int (0 : Int32))) ∧ (Arv Z h rb kb .byte (0 : Int32) [] (.int (0 : Int32))) ∧ (Safe Z consts_1 vm h sa)
set_option maxRecDepth 65536 in
set_option maxHeartbeats 40000000 in
theorem rmS4_0 (l : Launch) (Z : State) (a0 : Array Value) (hw : ∀ d ∈ tables_1, d.before a0 Z = true) (ws : List Jvm.Cond) (vcs : Int32) (G : Gh Z vcs) (sa : Addr) (ca : Addr) (kc : ClassId) (h0 : Heap) (n0 : Nat) (O0 : Old Z n0 h0) (EX : Exa Z h0 sa "java/lang/String") (FV : Fld Z h0 sa "java/lang/String" "value" "[B" .null) (FC : Fld Z h0 sa "java/lang/String" "coder" "B" (.int (0 : Int32))) (g_sa : n0 ≤ sa) (VC : Arv Z h0 ca kc .char (0 : Int32) [] (.int (0 : Int32))) :
    MetFree l (⟨"java/lang/String", "<init>", "([CIILjava/lang/Void;)V"⟩ : MethodName) (head1 (Jvm.Cond.code (⟨"java/lang/String", "<init>", "([CIILjava/lang/Void;)V"⟩ : MethodName) jdk_42_method_149_code 6 none :: ws) ({ frames := 1, cells := 4, slots := 8, locals := 12 } : Room)) (fun aa' UU' => aa' = #[(.ref sa), (.ref ca), (.int (0 : Int32)), (.int (0 : Int32)), .null] ∧ Z.Warmed39 UU'.vm ∧ UU'.heap = h0 ∧ CHv Z consts_1 UU'.vm h0 ∧ ∀ x ∈ ([sa] : List Addr), Safe Z consts_1 UU'.vm h0 x) (fun _ _ _ _ _ => True) (fun _ UU' oo' VV' => ∃ v' L', oo' = .returned v' ∧ QrmS4_0 Z vcs sa ca kc h0 n0 v' VV'.heap VV'.vm L' ∧ CHr Z consts_1 UU'.vm UU'.heap VV'.vm VV'.heap ∧ ReturnedEndW UU' oo' VV' L' ({ frames := 1, cells := 4, slots := 8, locals := 12 } : Room).cells ({ frames := 1, cells := 4, slots := 8, locals := 12 } : Room).slots) := by
  refine MetFree.of_bodySF (plainFor_of_name pn_3) hisR ?_
  intro p e s m args below meth c s₁ Bd hml0 hP hK
  obtain ⟨rfl, hZ, hh, hCH, hSf⟩ := hP
  have hx := Bd.exec
  have hby := Bd.bytes
  have hlk := Bd.notSynchronized
  have hml : c.maxLocals = 6 := hml0
  have hown : s.vm.findClass "java/lang/String" = some m.cls := findClass_of_methodNamed Bd.named
  have hnm := (name_of_methodNamed Bd.named Bd.method).1
  have hret := Bd.returns
  have X0 : Stand p l e ({ frames := 1, cells := 4, slots := 8, locals := 12 } : Room) (s.setVm s.vm) m #[(.ref sa), (.ref ca), (.int (0 : Int32)), (.int (0 : Int32)), .null] below meth c s₁ [] 0 0 := Stand.of_body Bd
  have e0 : s₁.heap = h0 := by rw [← hh, Bd.state]; rfl
  have N0 := Fr.nil n0
  have KC0 : Keep h0 h0 [sa] := Keep.refl _ _
  have Sb0 := Sb.start hZ hown hCH
  have hEL := own_EW hw
  have hSA := own_SA hw
  refine Go.bodyS ?_
  obtain ⟨Pf, hPf⟩ : ∃ P, P = FinS Z consts_1 s below ({ frames := 1, cells := 4, slots := 8, locals := 12 } : Room).cells ({ frames := 1, cells := 4, slots := 8, locals := 12 } : Room).slots (QrmS4_0 Z vcs sa ca kc h0 n0) := ⟨_, rfl⟩
  rw [← hPf]
  refine Go.cast (ef_rmS4_0 m) ?_
  have hw5 := (hw _ (List.mem_of_getElem? (i := 5) rfl))
  have hw15 := (hw _ (List.mem_of_getElem? (i := 15) rfl))
  have hw16 := (hw _ (List.mem_of_getElem? (i := 16) rfl))
  have hw17 := (hw _ (List.mem_of_getElem? (i := 17) rfl))
  have hw18 := (hw _ (List.mem_of_getElem? (i := 18) rfl))
  have hw20 := (hw _ (List.mem_of_getElem? (i := 20) rfl))
  have hw21 := (hw _ (List.mem_of_getElem? (i := 21) rfl))
  have hw24 := (hw _ (List.mem_of_getElem? (i := 24) rfl))
  have hw25 := (hw _ (List.mem_of_getElem? (i := 25) rfl))
  show Go p.tables e below Pf (s₁.setTop (mkF m 0 #[.val (.ref sa), .val (.ref ca), .val (.int (0 : Int32)), .val (.int (0 : Int32)), .val .null, .unset] []))
  refine Go.by' (fun t k => (XS.aloadN X0.here hx rfl (hb hby d3_0) rfl rfl k)) ?_
  show Go p.tables e below Pf (s₁.setTop (mkF m 1 #[.val (.ref sa), .val (.ref ca), .val (.int (0 : Int32)), .val (.int (0 : Int32)), .val .null, .unset] [(.ref sa)]))
  obtain ⟨T38, X38, e38, st38⟩ := initO X0 hx hZ hown hw15 hw16 hw17 e0 (g := (mkF m 1 #[.val (.ref sa), .val (.ref ca), .val (.int (0 : Int32)), .val (.int (0 : Int32)), .val .null, .unset] [(.ref sa)])) rfl (by rw [hml]; rfl) rfl (hb hby d3_1) (by decide) (W := 0) (by show 2 * 0 + _ ≤ _; exact Nat.le_of_eq rfl) (by decide)
  refine Go.by' st38 ?_
  show Go p.tables e below Pf (T38.setTop (mkF m 4 #[.val (.ref sa), .val (.ref ca), .val (.int (0 : Int32)), .val (.int (0 : Int32)), .val .null, .unset] []))
  refine Go.by' (fun t k => (XS.iloadN X38.here hx rfl (hb hby d3_4) rfl (XS.ifNo X38.here hx rfl (hb hby d3_5) rfl ((if0 _ _).trans (teq (by decide)).2) (XS.aloadN X38.here hx rfl (hb hby d3_8) rfl rfl k)))) ?_
  show Go p.tables e below Pf (T38.setTop (mkF m 9 #[.val (.ref sa), .val (.ref ca), .val (.int (0 : Int32)), .val (.int (0 : Int32)), .val .null, .unset] [(.ref sa)]))
  obtain ⟨T39, h39, a39, bb39, kb39, X39, e39, E39, Sb39, A39, Ex39, Fc39, Fv39, Vb39, Ne39, st39⟩ := own_ldc X38 hx Sb0 hw18 hSA e38 hEL (List.mem_of_getElem? (i := 5) rfl) (vs := []) (z := (0 : Int32)) (by decide +kernel) (by decide) rfl (g := (mkF m 9 #[.val (.ref sa), .val (.ref ca), .val (.int (0 : Int32)), .val (.int (0 : Int32)), .val .null, .unset] [(.ref sa)])) rfl (hb hby d3_9) (n := 0) (by decide +kernel) (by decide) (by decide) (by decide)
  refine Go.by' st39 ?_
  have O39 := O0.ext E39
  have KC39 : Keep h0 h39 [sa] := KC0.ext E39
  have hZ39 := Sb39.hZ
  have hO39 := Sb39.hO
  show Go p.tables e below Pf (T39.setTop (mkF m 11 #[.val (.ref sa), .val (.ref ca), .val (.int (0 : Int32)), .val (.int (0 : Int32)), .val .null, .unset] [(.ref a39), (.ref sa)]))
  obtain ⟨T40, X40, e40, st40⟩ := getF X39 hx hZ39 hO39 (host := "") (Or.inl hw24) Via.refl e39 Fv39 (g := (mkF m 11 #[.val (.ref sa), .val (.ref ca), .val (.int (0 : Int32)), .val (.int (0 : Int32)), .val .null, .unset] [(.ref a39), (.ref sa)])) rfl rfl (hb hby d3_11)
  refine Go.by' st40 ?_
  show Go p.tables e below Pf (T40.setTop (mkF m 14 #[.val (.ref sa), .val (.ref ca), .val (.int (0 : Int32)), .val (.int (0 : Int32)), .val .null, .unset] [(.ref bb39), (.ref sa)]))
  obtain ⟨T41, h41, X41, e41, W41, st41⟩ := putF X40 hx hZ39 hO39 (host := "") (Or.inl hw24) Via.refl e40 (FV.ext E39) (EX.ext E39) (Or.inr ⟨hw20, rfl, hnm⟩) hw5 (ty := (.array .byte)) (by decide) rfl rfl (g := (mkF m 14 #[.val (.ref sa), .val (.ref ca), .val (.int (0 : Int32)), .val (.int (0 : Int32)), .val .null, .unset] [(.ref bb39), (.ref sa)])) rfl rfl (hb hby d3_14)
  refine Go.by' st41 ?_
  have Fw41 : Fld Z h41 sa "java/lang/String" "value" "[B" (Value.ref bb39) := (FV.ext E39).same W41
  have N41 := Fr.snoc X41 N0 g_sa
  obtain ⟨lc41, X41, N41⟩ := own_pack X41 N41
  have Sb41 := Sb39.wr W41 (A39.safe EX.lt (hSf sa (List.mem_of_getElem? (i := 0) rfl)))
  have O41 := O39.wr W41 g_sa
  have KC41 : Keep h0 h41 [sa] := KC39.wr W41 (Or.inl (List.mem_of_getElem? (i := 0) rfl))
  show Go p.tables e below Pf (T41.setTop (mkF m 17 #[.val (.ref sa), .val (.ref ca), .val (.int (0 : Int32)), .val (.int (0 : Int32)), .val .null, .unset] []))
  refine Go.by' (fun t k => (XS.aloadN X41.here hx rfl (hb hby d3_17) rfl rfl k)) ?_
  show Go p.tables e below Pf (T41.setTop (mkF m 18 #[.val (.ref sa), .val (.ref ca), .val (.int (0 : Int32)), .val (.int (0 : Int32)), .val .null, .unset] [(.ref sa)]))
  obtain ⟨T42, h42, a42, bb42, kb42, X42, e42, E42, Sb42, A42, Ex42, Fc42, Fv42, Vb42, Ne42, st42⟩ := own_ldc X41 hx Sb41 hw18 hSA e41 hEL (List.mem_of_getElem? (i := 5) rfl) (vs := []) (z := (0 : Int32)) (by decide +kernel) (by decide) rfl (g := (mkF m 18 #[.val (.ref sa), .val (.ref ca), .val (.int (0 : Int32)), .val (.int (0 : Int32)), .val .null, .unset] [(.ref sa)])) rfl (hb hby d3_18) (n := 0) (by decide +kernel) (by decide) (by decide) (by decide)
  refine Go.by' st42 ?_
  have O42 := O41.ext E42
  have KC42 : Keep h0 h42 [sa] := KC41.ext E42
  have hZ42 := Sb42.hZ
  have hO42 := Sb42.hO
  show Go p.tables e below Pf (T42.setTop (mkF m 20 #[.val (.ref sa), .val (.ref ca), .val (.int (0 : Int32)), .val (.int (0 : Int32)), .val .null, .unset] [(.ref a42), (.ref sa)]))
  obtain ⟨T43, X43, e43, st43⟩ := getF X42 hx hZ42 hO42 (host := "") (Or.inl hw25) Via.refl e42 Fc42 (g := (mkF m 20 #[.val (.ref sa), .val (.ref ca), .val (.int (0 : Int32)), .val (.int (0 : Int32)), .val .null, .unset] [(.ref a42), (.ref sa)])) rfl rfl (hb hby d3_20)
  refine Go.by' st43 ?_
  show Go p.tables e below Pf (T43.setTop (mkF m 23 #[.val (.ref sa), .val (.ref ca), .val (.int (0 : Int32)), .val (.int (0 : Int32)), .val .null, .unset] [(.int (0 : Int32)), (.ref sa)]))
  have c44 := (((EX.ext E39).wr W41).ext E42)
  have c45 := (((FC.ext E39).other W41 (Or.inr (slot_ne (Or.inr hw21) (Or.inr hw20) (by decide) (t := .byte) (t' := (.array .byte)) (by decide) (by decide)))).ext E42)
  obtain ⟨T46, h46, X46, e46, W46, st46⟩ := putFN X43 hx hZ42 hO42 hw25 Via.refl e43 c45 c44 (Or.inr ⟨hw21, rfl, hnm⟩) hw5 (ty := .byte) (v' := (.int (0 : Int32))) (by decide) rfl rfl (g := (mkF m 23 #[.val (.ref sa), .val (.ref ca), .val (.int (0 : Int32)), .val (.int (0 : Int32)), .val .null, .unset] [(.int (0 : Int32)), (.ref sa)])) rfl rfl (hb hby d3_23)
  refine Go.by' st46 ?_
  have Fw46 : Fld Z h46 sa "java/lang/String" "coder" "B" (Value.int (0 : Int32)) := c45.same W46
  have N46 := Fr.snoc X46 N41 g_sa
  obtain ⟨lc46, X46, N46⟩ := own_pack X46 N46
  have Sb46 := Sb42.wr W46 (A42.safe (Nat.lt_of_lt_of_le EX.lt (Nat.le_trans E39.1 (Nat.le_of_eq W41.size.symm))) (Safe.wr W41 (A39.safe EX.lt (hSf sa (List.mem_of_getElem? (i := 0) rfl))) Sb39.ch (A39.safe EX.lt (hSf sa (List.mem_of_getElem? (i := 0) rfl)))))
  have O46 := O42.wr W46 g_sa
  have KC46 : Keep h0 h46 [sa] := KC42.wr W46 (Or.inl (List.mem_of_getElem? (i := 0) rfl))
  show Go p.tables e below Pf (T46.setTop (mkF m 26 #[.val (.ref sa), .val (.ref ca), .val (.int (0 : Int32)), .val (.int (0 : Int32)), .val .null, .unset] []))
  have c47 := ((Fw41.ext E42).other W46 (Or.inr (slot_ne (Or.inr hw20) (Or.inr hw21) (by decide) (t := (.array .byte)) (t' := .byte) (by decide) (by decide))))
  have c48 := (((Vb39.other W41 (Ne.symm (Ne39 sa (A39.safe EX.lt (hSf sa (List.mem_of_getElem? (i := 0) rfl)))).2)).ext E42).other W46 (Ne.symm (Ne39 sa (A39.safe EX.lt (hSf sa (List.mem_of_getElem? (i := 0) rfl)))).2))
  rw [hPf]
  exact Go.retVS X46 hx hEL Sb46 e46 hh hret hlk (hb hby d3_26) (by decide) (by decide) ⟨bb39, kb39, rfl, N46, (by rw [e46]; exact KC46), (by rw [e46]; exact (c44.wr W46)), (by rw [e46]; exact c47), (by rw [e46]; exact Fw46), (by rw [e46]; exact c48), (by rw [e46]; exact ((CHv.at X46 hZ42 hEL Sb46.ch).safe (Nat.lt_of_lt_of_le EX.lt (Nat.le_trans E39.1 (Nat.le_trans (Nat.le_of_eq W41.size.symm) (Nat.le_trans E42.1 (Nat.le_of_eq W46.size.symm))))) (Safe.wr W46 (A42.safe (Nat.lt_of_lt_of_le EX.lt (Nat.le_trans E39.1 (Nat.le_of_eq W41.size.symm))) (Safe.wr W41 (A39.safe EX.lt (hSf sa (List.mem_of_getElem? (i := 0) rfl))) Sb39.ch (A39.safe EX.lt (hSf sa (List.mem_of_getElem? (i := 0) rfl))))) Sb42.ch (A42.safe (Nat.lt_of_lt_of_le EX.lt (Nat.le_trans E39.1 (Nat.le_of_eq W41.size.symm))) (Safe.wr W41 (A39.safe EX.lt (hSf sa (List.mem_of_getElem? (i := 0) rfl))) Sb39.ch (A39.safe EX.lt (hSf sa (List.mem_of_getElem? (i := 0) rfl))))))))⟩
set_option maxHeartbeats 4000000 in
theorem ef_rmS1_0 (m : MethodId) {sa : Addr} {ca : Addr} : entryFrame m #[(.ref sa), (.ref ca)] 2 = mkF m 0 #[.val (.ref sa), .val (.ref ca)] [] := by first | (simp [entryFrame, mkF, argsToLocals, Value.category]; done) | rfl
def QrmS1_0 (Z : State) (vcs : Int32) (sa : Addr) (ca : Addr) (kc : ClassId) (h0 : Heap) (n0 : Nat) (v : Option Value) (h : Heap) (vm : Vm) (L : List Loc) : Prop := ∃ (rb : Addr) (kb : ClassId), (v = none) ∧ (Fr n0 L) ∧ (Keep h0 h [sa]) ∧ (Exa Z h sa "java/lang/String") ∧ (Fld Z h sa "java/lang/String" "value" "[B" (.ref rb)) ∧ (Fld Z h sa "java/lang/String" "coder" "B" (.int (0 : Int32))) ∧ (Arv Z h rb kb .byte (0 : Int32) [] (.int (0 : Int32))) ∧ (Safe Z consts_1 vm h sa)
set_option maxRecDepth 65536 in
set_option maxHeartbeats 40000000 in
theorem rmS1_0 (l : Launch) (Z : State) (a0 : Array Value) (hw : ∀ d ∈ tables_1, d.before a0 Z = true) (ws : List Jvm.Cond) (vcs : Int32) (G : Gh Z vcs) (sa : Addr) (ca : Addr) (kc : ClassId) (h0 : Heap) (n0 : Nat) (O0 : Old Z n0 h0) (EX : Exa Z h0 sa "java/lang/String") (FV : Fld Z h0 sa "java/lang/String" "value" "[B" .null) (FC : Fld Z h0 sa "java/lang/String" "coder" "B" (.int (0 : Int32))) (g_sa : n0 ≤ sa) (VC : Arv Z h0 ca kc .char (0 : Int32) [] (.int (0 : Int32))) :
    MetFree l (⟨"java/lang/String", "<init>", "([C)V"⟩ : MethodName) (head1 (Jvm.Cond.code (⟨"java/lang/String", "<init>", "([C)V"⟩ : MethodName) jdk_42_method_3_code 2 none :: ws) ({ frames := 2, cells := 4, slots := 8, locals := 29 } : Room)) (fun aa' UU' => aa' = #[(.ref sa), (.ref ca)] ∧ Z.Warmed39 UU'.vm ∧ UU'.heap = h0 ∧ CHv Z consts_1 UU'.vm h0 ∧ ∀ x ∈ ([sa] : List Addr), Safe Z consts_1 UU'.vm h0 x) (fun _ _ _ _ _ => True) (fun _ UU' oo' VV' => ∃ v' L', oo' = .returned v' ∧ QrmS1_0 Z vcs sa ca kc h0 n0 v' VV'.heap VV'.vm L' ∧ CHr Z consts_1 UU'.vm UU'.heap VV'.vm VV'.heap ∧ ReturnedEndW UU' oo' VV' L' ({ frames := 2, cells := 4, slots := 8, locals := 29 } : Room).cells ({ frames := 2, cells := 4, slots := 8, locals := 29 } : Room).slots) := by
  refine MetFree.of_bodySF (plainFor_of_name pn_2) hisR ?_
  intro p e s m args below meth c s₁ Bd hml0 hP hK
  obtain ⟨rfl, hZ, hh, hCH, hSf⟩ := hP
  have hx := Bd.exec
  have hby := Bd.bytes
  have hlk := Bd.notSynchronized
  have hml : c.maxLocals = 2 := hml0
  have hown : s.vm.findClass "java/lang/String" = some m.cls := findClass_of_methodNamed Bd.named
  have hnm := (name_of_methodNamed Bd.named Bd.method).1
  have hret := Bd.returns
  have X0 : Stand p l e ({ frames := 2, cells := 4, slots := 8, locals := 29 } : Room) (s.setVm s.vm) m #[(.ref sa), (.ref ca)] below meth c s₁ [] 0 0 := Stand.of_body Bd
  have e0 : s₁.heap = h0 := by rw [← hh, Bd.state]; rfl
  have N0 := Fr.nil n0
  have KC0 : Keep h0 h0 [sa] := Keep.refl _ _
  have Sb0 := Sb.start hZ hown hCH
  have hEL := own_EW hw
  have hSA := own_SA hw
  refine Go.bodyS ?_
  obtain ⟨Pf, hPf⟩ : ∃ P, P = FinS Z consts_1 s below ({ frames := 2, cells := 4, slots := 8, locals := 29 } : Room).cells ({ frames := 2, cells := 4, slots := 8, locals := 29 } : Room).slots (QrmS1_0 Z vcs sa ca kc h0 n0) := ⟨_, rfl⟩
  rw [← hPf]
  refine Go.cast (ef_rmS1_0 m) ?_
  have hw6 := (hw _ (List.mem_of_getElem? (i := 6) rfl))
  have hw11 := (hw _ (List.mem_of_getElem? (i := 11) rfl))
  have hw12 := (hw _ (List.mem_of_getElem? (i := 12) rfl))
  have hw14 := (hw _ (List.mem_of_getElem? (i := 14) rfl))
  show Go p.tables e below Pf (s₁.setTop (mkF m 0 #[.val (.ref sa), .val (.ref ca)] []))
  refine Go.by' (fun t k => (XS.aloadN X0.here hx rfl (hb hby d2_0) rfl rfl (XS.aloadN X0.here hx rfl (hb hby d2_1) rfl rfl (XS.iconst X0.here hx rfl (hb hby d2_2) (XS.aloadN X0.here hx rfl (hb hby d2_3) rfl rfl k))))) ?_
  show Go p.tables e below Pf (s₁.setTop (mkF m 4 #[.val (.ref sa), .val (.ref ca)] [(.ref ca), (.int (0 : Int32)), (.ref ca), (.ref sa)]))
  obtain ⟨cl49, Ar49, -, S49, P49, -, -⟩ := (id VC)
  refine Go.by' (fun t k => (X0.arraylength hx (by rw [e0]; exact Ar49.1) (State.isArrayOf_alike hZ.alike Ar49.2.1) (g := (mkF m 4 #[.val (.ref sa), .val (.ref ca)] [(.ref ca), (.int (0 : Int32)), (.ref ca), (.ref sa)])) rfl rfl (hb hby d2_4) t k)) ?_
  rw [len_of S49 P49]
  show Go p.tables e below Pf (s₁.setTop (mkF m 5 #[.val (.ref sa), .val (.ref ca)] [(.int (0 : Int32)), (.int (0 : Int32)), (.ref ca), (.ref sa)]))
  refine Go.by' (fun t k => (XS.aconstNull X0.here hx rfl (hb hby d2_5) k)) ?_
  show Go p.tables e below Pf (s₁.setTop (mkF m 6 #[.val (.ref sa), .val (.ref ca)] [.null, (.int (0 : Int32)), (.int (0 : Int32)), (.ref ca), (.ref sa)]))
  obtain ⟨_, _, ⟨T50, L50, k50, n50⟩, -, X50, Si50, Gr50, ⟨Lc50, hQ50, l50, y50, z50, A50⟩, st50⟩ := X0.specialBackS hx (y := (⟨"java/lang/String", "<init>", "([CIILjava/lang/Void;)V"⟩ : MethodName)) rfl hown (mvT hZ hw11) (mvT hZ hw12) (mvT hZ hw14) (by decide) (own_backS (W := 0) (rmS4_0 l Z a0 hw [] vcs G sa ca kc h0 n0 O0 EX FV FC g_sa VC) Sb0 hw14 hw6 (by decide) (by decide) hEL (allS ⟨EX.lt, (hSf sa (List.mem_of_getElem? (i := 0) rfl))⟩ all0)) (g := (mkF m 6 #[.val (.ref sa), .val (.ref ca)] [.null, (.int (0 : Int32)), (.int (0 : Int32)), (.ref ca), (.ref sa)])) rfl (by rw [hml]; rfl) (Steps.refl _) (a := sa) (argsL := [(.ref ca), (.int (0 : Int32)), (.int (0 : Int32)), .null]) (rest := []) (lenOf pd_3 rfl) rfl (by show 2 * 0 + _ ≤ _; exact Nat.le_of_eq rfl) (hb hby d2_6) (fun _ _ => ⟨rfl, e0, (by decide : 0 + 4 ≤ _), (by decide : 0 + 8 ≤ _)⟩)
  dsimp only [Pt.U, Pt.locs, Pt.cells, Pt.slots] at X50 l50 y50 z50 st50 hQ50 Si50 Gr50 A50
  subst l50 y50 z50
  obtain ⟨rb_50, kb_50, rfl, N50q, K50, f50_0, f50_1, f50_2, f50_3, f50_4⟩ := hQ50
  have N50 := Fr.app N0 N50q
  obtain ⟨lc50, X50, N50⟩ := own_pack X50 N50
  replace X50 := own_reb X50
  have Sb50 := Sb0.called Si50 (by rw [← e0]; exact Gr50) A50
  have hZ50 := Sb50.hZ
  have hO50 := Sb50.hO
  refine Go.by' (fun t k => st50.trans k) ?_
  have O50 := O0.keep K50 (allS g_sa all0)
  have KC50 : Keep h0 T50.heap [sa] := KC0.trans K50 (allS (Or.inl (List.mem_of_getElem? (i := 0) rfl)) all0)
  show Go p.tables e below Pf (T50.setTop (mkF m 9 #[.val (.ref sa), .val (.ref ca)] []))
  rw [hPf]
  exact Go.retVS X50 hx hEL Sb50 rfl hh hret hlk (hb hby d2_9) (by decide) (by decide) ⟨rb_50, kb_50, rfl, N50, KC50, f50_0, f50_1, f50_2, f50_3, ((CHv.at X50 hZ50 hEL Sb50.ch).safe (Nat.lt_of_lt_of_le EX.lt K50.1) f50_4)⟩
theorem d9_0 : decode jdk_43_method_3_code 0 = .ok (.iload_n 0, 1) := by decide +kernel
theorem d9_1 : decode jdk_43_method_3_code 1 = .ok (.sipush 255, 3) := by decide +kernel
theorem d9_4 : decode jdk_43_method_3_code 4 = .ok (.if_icmp .gt 7, 3) := by decide +kernel
theorem d9_7 : decode jdk_43_method_3_code 7 = .ok (.iconst 1, 1) := by decide +kernel
theorem d9_8 : decode jdk_43_method_3_code 8 = .ok (.goto 4, 3) := by decide +kernel
theorem d9_12 : decode jdk_43_method_3_code 12 = .ok (.ireturn, 1) := by decide +kernel
theorem pn_9 : plainName "java/lang/StringLatin1" = true := by first | (simp [plainName, overriddenIn]; done) | decide +kernel
set_option maxHeartbeats 4000000 in
theorem ef_rmCE (m : MethodId) {c0 : Int32} : entryFrame m #[(.int c0)] 1 = mkF m 0 #[.val (.int c0)] [] := by first | (simp [entryFrame, mkF, argsToLocals, Value.category]; done) | rfl
def QrmCE (Z : State) (vcs : Int32) (c0 : Int32) (h0 : Heap) (n0 : Nat) (v : Option Value) (h : Heap) (L : List Loc) : Prop := (v = some (.int (1 : Int32))) ∧ (L = []) ∧ (h = h0)
set_option maxRecDepth 65536 in
set_option maxHeartbeats 40000000 in
theorem rmCE (l : Launch) (Z : State) (a0 : Array Value) (hw : ∀ d ∈ tables_1, d.before a0 Z = true) (ws : List Jvm.Cond) (vcs : Int32) (G : Gh Z vcs) (c0 : Int32) (h0 : Heap) (n0 : Nat) (O0 : Old Z n0 h0) (hb0 : ¬ ((255 : Int32) < c0)) :
    MetFree l (⟨"java/lang/StringLatin1", "canEncode", "(C)Z"⟩ : MethodName) (head1 (Jvm.Cond.code (⟨"java/lang/StringLatin1", "canEncode", "(C)Z"⟩ : MethodName) jdk_43_method_3_code 1 (some .boolean) :: ws) ({ frames := 0, cells := 0, slots := 0, locals := 0 } : Room)) (fun aa' UU' => aa' = #[(.int c0)] ∧ Z.Warmed39 UU'.vm ∧ UU'.heap = h0) (fun _ _ _ _ _ => True) (fun _ UU' oo' VV' => ∃ v' L', oo' = .returned v' ∧ QrmCE Z vcs c0 h0 n0 v' VV'.heap L' ∧ FrameEnd UU' oo' VV' L' ({ frames := 0, cells := 0, slots := 0, locals := 0 } : Room).cells ({ frames := 0, cells := 0, slots := 0, locals := 0 } : Room).slots) := by
  refine MetFree.of_bodySF (plainFor_of_name pn_9) hisR ?_
  intro p e s m args below meth c s₁ Bd hml0 hP hK
  obtain ⟨rfl, hZ, hh⟩ := hP
  have hx := Bd.exec
  have hby := Bd.bytes
  have hlk := Bd.notSynchronized
  have hml : c.maxLocals = 1 := hml0
  have hown : s.vm.findClass "java/lang/StringLatin1" = some m.cls := findClass_of_methodNamed Bd.named
  have hnm := (name_of_methodNamed Bd.named Bd.method).1
  have hret := Bd.returns
  have X0 : Stand p l e ({ frames := 0, cells := 0, slots := 0, locals := 0 } : Room) s m #[(.int c0)] below meth c s₁ [] 0 0 := Stand.of_body Bd
  have e0 : s₁.heap = h0 := by rw [← hh, Bd.state]; rfl
  have N0 := Fr.nil n0
  refine Go.body ?_
  obtain ⟨Pf, hPf⟩ : ∃ P, P = Fin' s below ({ frames := 0, cells := 0, slots := 0, locals := 0 } : Room).cells ({ frames := 0, cells := 0, slots := 0, locals := 0 } : Room).slots (QrmCE Z vcs c0 h0 n0) := ⟨_, rfl⟩
  rw [← hPf]
  refine Go.cast (ef_rmCE m) ?_
  show Go p.tables e below Pf (s₁.setTop (mkF m 0 #[.val (.int c0)] []))
  refine Go.by' (fun t k => (XS.iloadN X0.here hx rfl (hb hby d9_0) rfl (XS.sipush X0.here hx rfl (hb hby d9_1) (XS.icmpNo X0.here hx rfl (hb hby d9_4) rfl (flt hb0).2.2.1 (XS.iconst X0.here hx rfl (hb hby d9_7) (XS.goto X0.here hx rfl (pc0 := 8) (pc' := 12) rfl (hb hby d9_8) (by decide) (by decide) k)))))) ?_
  show Go p.tables e below Pf (s₁.setTop (mkF m 12 #[.val (.int c0)] [(.int (1 : Int32))]))
  rw [hPf]
  exact Go.retI' X0 hx hret hlk (by simp) rfl (hb hby d9_12) (by decide) (by decide) ⟨rfl, rfl, e0⟩
theorem d10_0 : decode jdk_43_method_46_code 0 = .ok (.iconst 1, 1) := by decide +kernel
theorem d10_1 : decode jdk_43_method_46_code 1 = .ok (.newarray .byte, 2) := by decide +kernel
theorem d10_3 : decode jdk_43_method_46_code 3 = .ok (.dup, 1) := by decide +kernel
theorem d10_4 : decode jdk_43_method_46_code 4 = .ok (.iconst 0, 1) := by decide +kernel
theorem d10_5 : decode jdk_43_method_46_code 5 = .ok (.iload_n 0, 1) := by decide +kernel
theorem d10_6 : decode jdk_43_method_46_code 6 = .ok (.i2b, 1) := by decide +kernel
theorem d10_7 : decode jdk_43_method_46_code 7 = .ok (.bastore, 1) := by decide +kernel
theorem d10_8 : decode jdk_43_method_46_code 8 = .ok (.areturn, 1) := by decide +kernel
theorem pn_10 : plainName "java/lang/StringLatin1" = true := by first | (simp [plainName, overriddenIn]; done) | decide +kernel
set_option maxHeartbeats 4000000 in
theorem ef_rmTB (m : MethodId) {c0 : Int32} : entryFrame m #[(.int c0)] 1 = mkF m 0 #[.val (.int c0)] [] := by first | (simp [entryFrame, mkF, argsToLocals, Value.category]; done) | rfl
def QrmTB (Z : State) (vcs : Int32) (c0 : Int32) (h0 : Heap) (n0 : Nat) (v : Option Value) (h : Heap) (L : List Loc) : Prop := ∃ (rb : Addr) (kb : ClassId), (v = some (.ref rb)) ∧ (Fr n0 L) ∧ (Keep h0 h []) ∧ (Arv Z h rb kb .byte (1 : Int32) [(.int (c0.toInt8.toInt32))] (.int (0 : Int32))) ∧ (h0.size ≤ rb)
set_option maxRecDepth 65536 in
set_option maxHeartbeats 40000000 in
theorem rmTB (l : Launch) (Z : State) (a0 : Array Value) (hw : ∀ d ∈ tables_1, d.before a0 Z = true) (ws : List Jvm.Cond) (vcs : Int32) (G : Gh Z vcs) (c0 : Int32) (h0 : Heap) (n0 : Nat) (O0 : Old Z n0 h0) :
    MetFree l (⟨"java/lang/StringLatin1", "toBytes", "(C)[B"⟩ : MethodName) (head1 (Jvm.Cond.code (⟨"java/lang/StringLatin1", "toBytes", "(C)[B"⟩ : MethodName) jdk_43_method_46_code 1 (some (.array .byte)) :: ws) ({ frames := 0, cells := 1, slots := 1, locals := 0 } : Room)) (fun aa' UU' => aa' = #[(.int c0)] ∧ Z.Warmed39 UU'.vm ∧ UU'.heap = h0) (fun _ _ _ _ _ => True) (fun _ UU' oo' VV' => ∃ v' L', oo' = .returned v' ∧ QrmTB Z vcs c0 h0 n0 v' VV'.heap L' ∧ FrameEnd UU' oo' VV' L' ({ frames := 0, cells := 1, slots := 1, locals := 0 } : Room).cells ({ frames := 0, cells := 1, slots := 1, locals := 0 } : Room).slots) := by
  refine MetFree.of_bodySF (plainFor_of_name pn_10) hisR ?_
  intro p e s m args below meth c s₁ Bd hml0 hP hK
  obtain ⟨rfl, hZ, hh⟩ := hP
  have hx := Bd.exec
  have hby := Bd.bytes
  have hlk := Bd.notSynchronized
  have hml : c.maxLocals = 1 := hml0
  have hown : s.vm.findClass "java/lang/StringLatin1" = some m.cls := findClass_of_methodNamed Bd.named
  have hnm := (name_of_methodNamed Bd.named Bd.method).1
  have hret := Bd.returns
  have X0 : Stand p l e ({ frames := 0, cells := 1, slots := 1, locals := 0 } : Room) s m #[(.int c0)] below meth c s₁ [] 0 0 := Stand.of_body Bd
  have e0 : s₁.heap = h0 := by rw [← hh, Bd.state]; rfl
  have N0 := Fr.nil n0
  have KC0 : Keep h0 h0 [] := Keep.refl _ _
  refine Go.body ?_
  obtain ⟨Pf, hPf⟩ : ∃ P, P = Fin' s below ({ frames := 0, cells := 1, slots := 1, locals := 0 } : Room).cells ({ frames := 0, cells := 1, slots := 1, locals := 0 } : Room).slots (QrmTB Z vcs c0 h0 n0) := ⟨_, rfl⟩
  rw [← hPf]
  refine Go.cast (ef_rmTB m) ?_
  have hw19 := (hw _ (List.mem_of_getElem? (i := 19) rfl))
  show Go p.tables e below Pf (s₁.setTop (mkF m 0 #[.val (.int c0)] []))
  refine Go.by' (fun t k => (XS.iconst X0.here hx rfl (hb hby d10_0) k)) ?_
  show Go p.tables e below Pf (s₁.setTop (mkF m 1 #[.val (.int c0)] [(.int (1 : Int32))]))
  obtain ⟨T51, h51, k51, X51, e51, E51, A51, st51⟩ := newP (aty := .byte) X0 hx hZ hw19 e0 (g := (mkF m 1 #[.val (.int c0)] [(.int (1 : Int32))])) rfl (hb hby d10_1) rfl (by decide) (cap := 1) (by decide) (by decide) (by decide) (by decide)
  obtain ⟨b51, g51⟩ : ∃ z, z = h0.size := ⟨_, rfl⟩
  rw [← g51] at A51 st51
  refine Go.by' st51 ?_
  have g_b51 : n0 ≤ b51 := Nat.le_trans (own_le O0) (Nat.le_of_eq g51.symm)
  have sz_b51 : h0.size ≤ b51 := Nat.le_trans KC0.1 (Nat.le_of_eq g51.symm)
  have O51 := O0.ext E51
  have KC51 : Keep h0 h51 [] := KC0.ext E51
  have V51 : Arv Z h51 b51 k51 .byte (1 : Int32) [(.int (0 : Int32))] (Value.int (0 : Int32)) := (Arv.new A51 (by decide)).pad (pad_rep [] (Value.int (0 : Int32)) 1)
  show Go p.tables e below Pf (T51.setTop (mkF m 3 #[.val (.int c0)] [(.ref b51)]))
  refine Go.by' (fun t k => (XS.dup X51.here hx rfl (hb hby d10_3) rfl rfl (XS.iconst X51.here hx rfl (hb hby d10_4) (XS.iloadN X51.here hx rfl (hb hby d10_5) rfl (XS.i2b X51.here hx rfl (hb hby d10_6) rfl k))))) ?_
  show Go p.tables e below Pf (T51.setTop (mkF m 7 #[.val (.int c0)] [(.int (c0.toInt8.toInt32)), (.int (0 : Int32)), (.ref b51), (.ref b51)]))
  obtain ⟨cl52, Ar52, q52, S52, P52, H52, G52⟩ := (id V51)
  have hin52 : ¬ ((0 : Int32) < 0 ∨ cl52.slots.size ≤ ((0 : Int32)).toNatClampNeg) := inb_of S52 ⟨by decide, by decide⟩
  obtain ⟨T53, h53, X53, e53, W53, st53⟩ := stB X51 hx hZ e51 Ar52 (j := (0 : Int32)) hin52 (g := (mkF m 7 #[.val (.int c0)] [(.int (c0.toInt8.toInt32)), (.int (0 : Int32)), (.ref b51), (.ref b51)])) rfl rfl (hb hby d10_7)
  refine Go.by' st53 ?_
  rw [own_bb] at W53
  have V53 : Arv Z h53 b51 k51 .byte (1 : Int32) [(.int (c0.toInt8.toInt32))] (Value.int (0 : Int32)) := Arv.set Ar52 q52 S52 P52 H52 G52 (fits_nar_byte _) W53 0 rfl (Nat.le_of_ble_eq_true rfl)
  have N53 := Fr.snoc X53 N0 g_b51
  obtain ⟨lc53, X53, N53⟩ := own_pack X53 N53
  have O53 := O51.wr W53 g_b51
  have KC53 : Keep h0 h53 [] := KC51.wr W53 (Or.inr sz_b51)
  show Go p.tables e below Pf (T53.setTop (mkF m 8 #[.val (.int c0)] [(.ref b51)]))
  rw [hPf]
  exact Go.retA' X53 hx hret hlk rfl rfl (hb hby d10_8) (by decide) (by decide) ⟨b51, k51, rfl, N53, (by rw [e53]; exact KC53), (by rw [e53]; exact V53), sz_b51⟩
theorem d11_0 : decode jdk_42_method_151_code 0 = .ok (.aload_n 0, 1) := by decide +kernel
theorem d11_1 : decode jdk_42_method_151_code 1 = .ok (.invokespecial 1, 3) := by decide +kernel
theorem d11_4 : decode jdk_42_method_151_code 4 = .ok (.aload_n 0, 1) := by decide +kernel
theorem d11_5 : decode jdk_42_method_151_code 5 = .ok (.aload_n 1, 1) := by decide +kernel
theorem d11_6 : decode jdk_42_method_151_code 6 = .ok (.putfield 9, 3) := by decide +kernel
theorem d11_9 : decode jdk_42_method_151_code 9 = .ok (.aload_n 0, 1) := by decide +kernel
theorem d11_10 : decode jdk_42_method_151_code 10 = .ok (.iload_n 2, 1) := by decide +kernel
theorem d11_11 : decode jdk_42_method_151_code 11 = .ok (.putfield 15, 3) := by decide +kernel
theorem d11_14 : decode jdk_42_method_151_code 14 = .ok (.return_, 1) := by decide +kernel
theorem pn_11 : plainName "java/lang/String" = true := by first | (simp [plainName, overriddenIn]; done) | decide +kernel
set_option maxHeartbeats 4000000 in
theorem ef_rmIB (m : MethodId) {sa : Addr} {ba : Addr} : entryFrame m #[(.ref sa), (.ref ba), (.int (0 : Int32))] 3 = mkF m 0 #[.val (.ref sa), .val (.ref ba), .val (.int (0 : Int32))] [] := by first | (simp [entryFrame, mkF, argsToLocals, Value.category]; done) | rfl
def QrmIB (Z : State) (vcs : Int32) (sa : Addr) (ba : Addr) (h0 : Heap) (n0 : Nat) (v : Option Value) (h : Heap) (L : List Loc) : Prop := (v = none) ∧ (Fr n0 L) ∧ (Keep h0 h [sa]) ∧ (Exa Z h sa "java/lang/String") ∧ (Fld Z h sa "java/lang/String" "value" "[B" (.ref ba)) ∧ (Fld Z h sa "java/lang/String" "coder" "B" (.int (0 : Int32)))
set_option maxRecDepth 65536 in
set_option maxHeartbeats 40000000 in
theorem rmIB (l : Launch) (Z : State) (a0 : Array Value) (hw : ∀ d ∈ tables_1, d.before a0 Z = true) (ws : List Jvm.Cond) (vcs : Int32) (G : Gh Z vcs) (sa : Addr) (ba : Addr) (h0 : Heap) (n0 : Nat) (O0 : Old Z n0 h0) (EX : Exa Z h0 sa "java/lang/String") (FV : Fld Z h0 sa "java/lang/String" "value" "[B" .null) (FC : Fld Z h0 sa "java/lang/String" "coder" "B" (.int (0 : Int32))) (g_sa : n0 ≤ sa) :
    MetFree l (⟨"java/lang/String", "<init>", "([BB)V"⟩ : MethodName) (head1 (Jvm.Cond.code (⟨"java/lang/String", "<init>", "([BB)V"⟩ : MethodName) jdk_42_method_151_code 3 none :: ws) ({ frames := 1, cells := 0, slots := 0, locals := 12 } : Room)) (fun aa' UU' => aa' = #[(.ref sa), (.ref ba), (.int (0 : Int32))] ∧ Z.Warmed39 UU'.vm ∧ UU'.heap = h0) (fun _ _ _ _ _ => True) (fun _ UU' oo' VV' => ∃ v' L', oo' = .returned v' ∧ QrmIB Z vcs sa ba h0 n0 v' VV'.heap L' ∧ FrameEnd UU' oo' VV' L' ({ frames := 1, cells := 0, slots := 0, locals := 12 } : Room).cells ({ frames := 1, cells := 0, slots := 0, locals := 12 } : Room).slots) := by
  refine MetFree.of_bodySF (plainFor_of_name pn_11) hisR ?_
  intro p e s m args below meth c s₁ Bd hml0 hP hK
  obtain ⟨rfl, hZ, hh⟩ := hP
  have hx := Bd.exec
  have hby := Bd.bytes
  have hlk := Bd.notSynchronized
  have hml : c.maxLocals = 3 := hml0
  have hown : s.vm.findClass "java/lang/String" = some m.cls := findClass_of_methodNamed Bd.named
  have hnm := (name_of_methodNamed Bd.named Bd.method).1
  have hret := Bd.returns
  have X0 : Stand p l e ({ frames := 1, cells := 0, slots := 0, locals := 12 } : Room) s m #[(.ref sa), (.ref ba), (.int (0 : Int32))] below meth c s₁ [] 0 0 := Stand.of_body Bd
  have e0 : s₁.heap = h0 := by rw [← hh, Bd.state]; rfl
  have N0 := Fr.nil n0
  have KC0 : Keep h0 h0 [sa] := Keep.refl _ _
  refine Go.body ?_
  obtain ⟨Pf, hPf⟩ : ∃ P, P = Fin' s below ({ frames := 1, cells := 0, slots := 0, locals := 12 } : Room).cells ({ frames := 1, cells := 0, slots := 0, locals := 12 } : Room).slots (QrmIB Z vcs sa ba h0 n0) := ⟨_, rfl⟩
  rw [← hPf]
  refine Go.cast (ef_rmIB m) ?_
  have hw5 := (hw _ (List.mem_of_getElem? (i := 5) rfl))
  have hw15 := (hw _ (List.mem_of_getElem? (i := 15) rfl))
  have hw16 := (hw _ (List.mem_of_getElem? (i := 16) rfl))
  have hw17 := (hw _ (List.mem_of_getElem? (i := 17) rfl))
  have hw20 := (hw _ (List.mem_of_getElem? (i := 20) rfl))
  have hw21 := (hw _ (List.mem_of_getElem? (i := 21) rfl))
  have hw24 := (hw _ (List.mem_of_getElem? (i := 24) rfl))
  have hw25 := (hw _ (List.mem_of_getElem? (i := 25) rfl))
  show Go p.tables e below Pf (s₁.setTop (mkF m 0 #[.val (.ref sa), .val (.ref ba), .val (.int (0 : Int32))] []))
  refine Go.by' (fun t k => (XS.aloadN X0.here hx rfl (hb hby d11_0) rfl rfl k)) ?_
  show Go p.tables e below Pf (s₁.setTop (mkF m 1 #[.val (.ref sa), .val (.ref ba), .val (.int (0 : Int32))] [(.ref sa)]))
  obtain ⟨T54, X54, e54, st54⟩ := initO X0 hx hZ hown hw15 hw16 hw17 e0 (g := (mkF m 1 #[.val (.ref sa), .val (.ref ba), .val (.int (0 : Int32))] [(.ref sa)])) rfl (by rw [hml]; rfl) rfl (hb hby d11_1) (by decide) (W := 0) (by show 2 * 0 + _ ≤ _; exact Nat.le_of_eq rfl) (by decide)
  refine Go.by' st54 ?_
  show Go p.tables e below Pf (T54.setTop (mkF m 4 #[.val (.ref sa), .val (.ref ba), .val (.int (0 : Int32))] []))
  refine Go.by' (fun t k => (XS.aloadN X54.here hx rfl (hb hby d11_4) rfl rfl (XS.aloadN X54.here hx rfl (hb hby d11_5) rfl rfl k))) ?_
  show Go p.tables e below Pf (T54.setTop (mkF m 6 #[.val (.ref sa), .val (.ref ba), .val (.int (0 : Int32))] [(.ref ba), (.ref sa)]))
  obtain ⟨T55, h55, X55, e55, W55, st55⟩ := putF X54 hx hZ hown (host := "") (Or.inl hw24) Via.refl e54 FV EX (Or.inr ⟨hw20, rfl, hnm⟩) hw5 (ty := (.array .byte)) (by decide) rfl rfl (g := (mkF m 6 #[.val (.ref sa), .val (.ref ba), .val (.int (0 : Int32))] [(.ref ba), (.ref sa)])) rfl rfl (hb hby d11_6)
  refine Go.by' st55 ?_
  have Fw55 : Fld Z h55 sa "java/lang/String" "value" "[B" (Value.ref ba) := FV.same W55
  have N55 := Fr.snoc X55 N0 g_sa
  obtain ⟨lc55, X55, N55⟩ := own_pack X55 N55
  have O55 := O0.wr W55 g_sa
  have KC55 : Keep h0 h55 [sa] := KC0.wr W55 (Or.inl (List.mem_of_getElem? (i := 0) rfl))
  show Go p.tables e below Pf (T55.setTop (mkF m 9 #[.val (.ref sa), .val (.ref ba), .val (.int (0 : Int32))] []))
  refine Go.by' (fun t k => (XS.aloadN X55.here hx rfl (hb hby d11_9) rfl rfl (XS.iloadN X55.here hx rfl (hb hby d11_10) rfl k))) ?_
  show Go p.tables e below Pf (T55.setTop (mkF m 11 #[.val (.ref sa), .val (.ref ba), .val (.int (0 : Int32))] [(.int (0 : Int32)), (.ref sa)]))
  obtain ⟨T56, h56, X56, e56, W56, st56⟩ := putFN X55 hx hZ hown hw25 Via.refl e55 (FC.other W55 (Or.inr (slot_ne (Or.inr hw21) (Or.inr hw20) (by decide) (t := .byte) (t' := (.array .byte)) (by decide) (by decide)))) (EX.wr W55) (Or.inr ⟨hw21, rfl, hnm⟩) hw5 (ty := .byte) (v' := (.int (0 : Int32))) (by decide) rfl rfl (g := (mkF m 11 #[.val (.ref sa), .val (.ref ba), .val (.int (0 : Int32))] [(.int (0 : Int32)), (.ref sa)])) rfl rfl (hb hby d11_11)
  refine Go.by' st56 ?_
  have Fw56 : Fld Z h56 sa "java/lang/String" "coder" "B" (Value.int (0 : Int32)) := (FC.other W55 (Or.inr (slot_ne (Or.inr hw21) (Or.inr hw20) (by decide) (t := .byte) (t' := (.array .byte)) (by decide) (by decide)))).same W56
  have N56 := Fr.snoc X56 N55 g_sa
  obtain ⟨lc56, X56, N56⟩ := own_pack X56 N56
  have O56 := O55.wr W56 g_sa
  have KC56 : Keep h0 h56 [sa] := KC55.wr W56 (Or.inl (List.mem_of_getElem? (i := 0) rfl))
  show Go p.tables e below Pf (T56.setTop (mkF m 14 #[.val (.ref sa), .val (.ref ba), .val (.int (0 : Int32))] []))
  have c57 := ((EX.wr W55).wr W56)
  rw [hPf]
  exact Go.retV' X56 hx hret hlk (hb hby d11_14) (by decide) (by decide) ⟨rfl, N56, (by rw [e56]; exact KC56), (by rw [e56]; exact c57), (by rw [e56]; exact (Fw55.other W56 (Or.inr (slot_ne (Or.inr hw20) (Or.inr hw21) (by decide) (t := (.array .byte)) (t' := .byte) (by decide) (by decide))))), (by rw [e56]; exact Fw56)⟩
theorem d8_0 : decode jdk_42_method_139_code 0 = .ok (.getstatic 38, 3) := by decide +kernel
theorem d8_3 : decode jdk_42_method_139_code 3 = .ok (.ifCond .eq 23, 3) := by decide +kernel
theorem d8_6 : decode jdk_42_method_139_code 6 = .ok (.iload_n 0, 1) := by decide +kernel
theorem d8_7 : decode jdk_42_method_139_code 7 = .ok (.invokestatic 1015, 3) := by decide +kernel
theorem pd_4 : parseMethodDescriptor "(C)Z" = some ⟨[.char], some .boolean⟩ := by decide +kernel
theorem d8_10 : decode jdk_42_method_139_code 10 = .ok (.ifCond .eq 16, 3) := by decide +kernel
theorem d8_13 : decode jdk_42_method_139_code 13 = .ok (.new 10, 3) := by decide +kernel
theorem d8_16 : decode jdk_42_method_139_code 16 = .ok (.dup, 1) := by decide +kernel
theorem d8_17 : decode jdk_42_method_139_code 17 = .ok (.iload_n 0, 1) := by decide +kernel
theorem d8_18 : decode jdk_42_method_139_code 18 = .ok (.invokestatic 1018, 3) := by decide +kernel
theorem pd_5 : parseMethodDescriptor "(C)[B" = some ⟨[.char], some (.array .byte)⟩ := by decide +kernel
theorem d8_21 : decode jdk_42_method_139_code 21 = .ok (.iconst 0, 1) := by decide +kernel
theorem d8_22 : decode jdk_42_method_139_code 22 = .ok (.invokespecial 209, 3) := by decide +kernel
theorem pd_6 : parseMethodDescriptor "([BB)V" = some ⟨[(.array .byte), .byte], none⟩ := by decide +kernel
theorem d8_25 : decode jdk_42_method_139_code 25 = .ok (.areturn, 1) := by decide +kernel
theorem pn_8 : plainName "java/lang/String" = true := by first | (simp [plainName, overriddenIn]; done) | decide +kernel
set_option maxHeartbeats 4000000 in
theorem ef_rmVC (m : MethodId) {c0 : Int32} : entryFrame m #[(.int c0)] 1 = mkF m 0 #[.val (.int c0)] [] := by first | (simp [entryFrame, mkF, argsToLocals, Value.category]; done) | rfl
def QrmVC (Z : State) (vcs : Int32) (c0 : Int32) (h0 : Heap) (n0 : Nat) (v : Option Value) (h : Heap) (L : List Loc) : Prop := ∃ (r : Addr) (rb : Addr) (kb : ClassId), (v = some (.ref r)) ∧ (Fr n0 L) ∧ (Keep h0 h []) ∧ (Exa Z h r "java/lang/String") ∧ (h0.size ≤ r) ∧ (Fld Z h r "java/lang/String" "value" "[B" (.ref rb)) ∧ (Fld Z h r "java/lang/String" "coder" "B" (.int (0 : Int32))) ∧ (Arv Z h rb kb .byte (1 : Int32) [(.int (c0.toInt8.toInt32))] (.int (0 : Int32))) ∧ (h0.size ≤ rb)
set_option maxRecDepth 65536 in
set_option maxHeartbeats 40000000 in
theorem rmVC (l : Launch) (Z : State) (a0 : Array Value) (hw : ∀ d ∈ tables_1, d.before a0 Z = true) (ws : List Jvm.Cond) (vcs : Int32) (G : Gh Z vcs) (c0 : Int32) (h0 : Heap) (n0 : Nat) (O0 : Old Z n0 h0) (hb0 : ¬ ((255 : Int32) < c0)) :
    MetFree l (⟨"java/lang/String", "valueOf", "(C)Ljava/lang/String;"⟩ : MethodName) (head1 (Jvm.Cond.code (⟨"java/lang/String", "valueOf", "(C)Ljava/lang/String;"⟩ : MethodName) jdk_42_method_139_code 1 (some (.object "java/lang/String")) :: ws) ({ frames := 2, cells := 2, slots := 5, locals := 27 } : Room)) (fun aa' UU' => aa' = #[(.int c0)] ∧ Z.Warmed39 UU'.vm ∧ UU'.heap = h0) (fun _ _ _ _ _ => True) (fun _ UU' oo' VV' => ∃ v' L', oo' = .returned v' ∧ QrmVC Z vcs c0 h0 n0 v' VV'.heap L' ∧ FrameEnd UU' oo' VV' L' ({ frames := 2, cells := 2, slots := 5, locals := 27 } : Room).cells ({ frames := 2, cells := 2, slots := 5, locals := 27 } : Room).slots) := by
  refine MetFree.of_bodySF (plainFor_of_name pn_8) hisR ?_
  intro p e s m args below meth c s₁ Bd hml0 hP hK
  obtain ⟨rfl, hZ, hh⟩ := hP
  have hx := Bd.exec
  have hby := Bd.bytes
  have hlk := Bd.notSynchronized
  have hml : c.maxLocals = 1 := hml0
  have hown : s.vm.findClass "java/lang/String" = some m.cls := findClass_of_methodNamed Bd.named
  have hnm := (name_of_methodNamed Bd.named Bd.method).1
  have hret := Bd.returns
  have X0 : Stand p l e ({ frames := 2, cells := 2, slots := 5, locals := 27 } : Room) s m #[(.int c0)] below meth c s₁ [] 0 0 := Stand.of_body Bd
  have e0 : s₁.heap = h0 := by rw [← hh, Bd.state]; rfl
  have N0 := Fr.nil n0
  have KC0 : Keep h0 h0 [] := Keep.refl _ _
  refine Go.body ?_
  obtain ⟨Pf, hPf⟩ : ∃ P, P = Fin' s below ({ frames := 2, cells := 2, slots := 5, locals := 27 } : Room).cells ({ frames := 2, cells := 2, slots := 5, locals := 27 } : Room).slots (QrmVC Z vcs c0 h0 n0) := ⟨_, rfl⟩
  rw [← hPf]
  refine Go.cast (ef_rmVC m) ?_
  have hw5 := (hw _ (List.mem_of_getElem? (i := 5) rfl))
  have hw6 := (hw _ (List.mem_of_getElem? (i := 6) rfl))
  have hw20 := (hw _ (List.mem_of_getElem? (i := 20) rfl))
  have hw21 := (hw _ (List.mem_of_getElem? (i := 21) rfl))
  have hw26 := (hw _ (List.mem_of_getElem? (i := 26) rfl))
  have hw40 := (hw _ (List.mem_of_getElem? (i := 40) rfl))
  have hw41 := (hw _ (List.mem_of_getElem? (i := 41) rfl))
  have hw42 := (hw _ (List.mem_of_getElem? (i := 42) rfl))
  have hw43 := (hw _ (List.mem_of_getElem? (i := 43) rfl))
  have hw44 := (hw _ (List.mem_of_getElem? (i := 44) rfl))
  have hw45 := (hw _ (List.mem_of_getElem? (i := 45) rfl))
  have hw46 := (hw _ (List.mem_of_getElem? (i := 46) rfl))
  have hw47 := (hw _ (List.mem_of_getElem? (i := 47) rfl))
  have hw48 := (hw _ (List.mem_of_getElem? (i := 48) rfl))
  have hw49 := (hw _ (List.mem_of_getElem? (i := 49) rfl))
  have hw50 := (hw _ (List.mem_of_getElem? (i := 50) rfl))
  show Go p.tables e below Pf (s₁.setTop (mkF m 0 #[.val (.int c0)] []))
  obtain ⟨T58, X58, e58, st58⟩ := getS2 X0 hx hZ hown (host := "") (Or.inl hw26) Via.refl e0 (G.1.ext O0.2) (g := (mkF m 0 #[.val (.int c0)] [])) rfl (hb hby d8_0)
  refine Go.by' st58 ?_
  show Go p.tables e below Pf (T58.setTop (mkF m 3 #[.val (.int c0)] [(.int vcs)]))
  refine Go.by' (fun t k => (XS.ifNo X58.here hx rfl (hb hby d8_3) rfl ((if0 _ _).trans (feq G.2).1) (XS.iloadN X58.here hx rfl (hb hby d8_6) rfl k))) ?_
  show Go p.tables e below Pf (T58.setTop (mkF m 7 #[.val (.int c0)] [(.int c0)]))
  obtain ⟨_, _, ⟨T59, L59, k59, n59⟩, -, X59, ⟨Lc59, hQ59, l59, y59, z59⟩, st59⟩ := Jvm.LawKit.callS X58 hx (y := (⟨"java/lang/StringLatin1", "canEncode", "(C)Z"⟩ : MethodName)) hown (mvT hZ hw40) (mvT hZ hw41) (mvT hZ hw42) (mvT hZ hw43) (by decide) (backOf (W := 0) (rmCE l Z a0 hw [] vcs G c0 h0 n0 O0 hb0) hZ hw43 hw42 (by decide) (by decide)) (g := (mkF m 7 #[.val (.int c0)] [(.int c0)])) rfl (by rw [hml]; rfl) (argsL := [(.int c0)]) (rest := []) (lenOf pd_4 rfl) rfl (by show 2 * 0 + _ ≤ _; exact Nat.le_of_eq rfl) (hb hby d8_7) (fun _ _ => ⟨rfl, e58, (by decide : 0 + 0 ≤ _), (by decide : 0 + 0 ≤ _)⟩)
  dsimp only [Pt.U, Pt.locs, Pt.cells, Pt.slots] at X59 l59 y59 z59 st59 hQ59
  subst l59 y59 z59
  obtain ⟨rfl, rfl, e59⟩ := hQ59
  try replace X59 := own_nil X59
  refine Go.by' st59 ?_
  show Go p.tables e below Pf (T59.setTop (mkF m 10 #[.val (.int c0)] [(.int (1 : Int32))]))
  refine Go.by' (fun t k => (XS.ifNo X59.here hx rfl (hb hby d8_10) rfl ((if0 _ _).trans (feq (by decide)).1) k)) ?_
  show Go p.tables e below Pf (T59.setTop (mkF m 13 #[.val (.int c0)] []))
  obtain ⟨T60, h60, X60, e60, E60, A60, D60, -, st60⟩ := newO X59 hx hZ hown hw44 hw5 hw6 e59 (g := (mkF m 13 #[.val (.int c0)] [])) rfl (hb hby d8_13) (by decide) (by decide)
  obtain ⟨b60, g60⟩ : ∃ z, z = h0.size := ⟨_, rfl⟩
  rw [← g60] at A60 D60 st60
  refine Go.by' st60 ?_
  have g_b60 : n0 ≤ b60 := Nat.le_trans (own_le O0) (Nat.le_of_eq g60.symm)
  have sz_b60 : h0.size ≤ b60 := Nat.le_trans KC0.1 (Nat.le_of_eq g60.symm)
  have O60 := O0.ext E60
  have KC60 : Keep h0 h60 [] := KC0.ext E60
  have Fn60_20 : Fld Z h60 b60 "java/lang/String" "value" "[B" Value.null := D60 (Or.inr hw20) (ty := (.array .byte)) (by decide)
  have Fn60_21 : Fld Z h60 b60 "java/lang/String" "coder" "B" (Value.int (0 : Int32)) := D60 (Or.inr hw21) (ty := .byte) (by decide)
  show Go p.tables e below Pf (T60.setTop (mkF m 16 #[.val (.int c0)] [(.ref b60)]))
  refine Go.by' (fun t k => (XS.dup X60.here hx rfl (hb hby d8_16) rfl rfl (XS.iloadN X60.here hx rfl (hb hby d8_17) rfl k))) ?_
  show Go p.tables e below Pf (T60.setTop (mkF m 18 #[.val (.int c0)] [(.int c0), (.ref b60), (.ref b60)]))
  obtain ⟨_, _, ⟨T61, L61, k61, n61⟩, -, X61, ⟨Lc61, hQ61, l61, y61, z61⟩, st61⟩ := Jvm.LawKit.callS X60 hx (y := (⟨"java/lang/StringLatin1", "toBytes", "(C)[B"⟩ : MethodName)) hown (mvT hZ hw45) (mvT hZ hw46) (mvT hZ hw42) (mvT hZ hw47) (by decide) (backOf (W := 2) (rmTB l Z a0 hw [] vcs G c0 h60 n0 O60 ) hZ hw47 hw42 (by decide) (by decide)) (g := (mkF m 18 #[.val (.int c0)] [(.int c0), (.ref b60), (.ref b60)])) rfl (by rw [hml]; rfl) (argsL := [(.int c0)]) (rest := [(.ref b60), (.ref b60)]) (lenOf pd_5 rfl) rfl (by show 2 * 0 + _ ≤ _; exact Nat.le_of_eq rfl) (hb hby d8_18) (fun _ _ => ⟨rfl, e60, (by decide : 1 + 1 ≤ _), (by decide : 4 + 1 ≤ _)⟩)
  dsimp only [Pt.U, Pt.locs, Pt.cells, Pt.slots] at X61 l61 y61 z61 st61 hQ61
  subst l61 y61 z61
  obtain ⟨rb_61, kb_61, rfl, N61q, K61, f61_0, f61_1⟩ := hQ61
  have N61 := Fr.app N0 N61q
  obtain ⟨lc61, X61, N61⟩ := own_pack X61 N61
  refine Go.by' st61 ?_
  have g_rb_61 : n0 ≤ rb_61 := Nat.le_trans (own_le O60) f61_1
  have sz_rb_61 : h0.size ≤ rb_61 := Nat.le_trans KC60.1 f61_1
  have O61 := O60.keep K61 all0
  have KC61 : Keep h0 T61.heap [] := KC60.trans K61 all0
  show Go p.tables e below Pf (T61.setTop (mkF m 21 #[.val (.int c0)] [(.ref rb_61), (.ref b60), (.ref b60)]))
  refine Go.by' (fun t k => (XS.iconst X61.here hx rfl (hb hby d8_21) k)) ?_
  show Go p.tables e below Pf (T61.setTop (mkF m 22 #[.val (.int c0)] [(.int (0 : Int32)), (.ref rb_61), (.ref b60), (.ref b60)]))
  obtain ⟨_, _, ⟨T62, L62, k62, n62⟩, -, X62, ⟨Lc62, hQ62, l62, y62, z62⟩, st62⟩ := X61.specialBack hx (y := (⟨"java/lang/String", "<init>", "([BB)V"⟩ : MethodName)) rfl hown (mvT hZ hw48) (mvT hZ hw49) (mvT hZ hw50) (by decide) (backOf (W := 1) (rmIB l Z a0 hw [] vcs G b60 rb_61 T61.heap n0 O61 (A60.keep K61) (Fn60_20.keep K61 nin0) (Fn60_21.keep K61 nin0) g_b60) hZ hw50 hw6 (by decide) (by decide)) (g := (mkF m 22 #[.val (.int c0)] [(.int (0 : Int32)), (.ref rb_61), (.ref b60), (.ref b60)])) rfl (by rw [hml]; rfl) (Steps.refl _) (a := b60) (argsL := [(.ref rb_61), (.int (0 : Int32))]) (rest := [(.ref b60)]) (lenOf pd_6 rfl) rfl (by show 2 * 0 + _ ≤ _; exact Nat.le_of_eq rfl) (hb hby d8_22) (fun _ _ => ⟨rfl, rfl, (by decide : 2 + 0 ≤ _), (by decide : 5 + 0 ≤ _)⟩)
  dsimp only [Pt.U, Pt.locs, Pt.cells, Pt.slots] at X62 l62 y62 z62 st62 hQ62
  subst l62 y62 z62
  obtain ⟨rfl, N62q, K62, f62_0, f62_1, f62_2⟩ := hQ62
  have N62 := Fr.app N61 N62q
  obtain ⟨lc62, X62, N62⟩ := own_pack X62 N62
  refine Go.by' (fun t k => st62.trans k) ?_
  have O62 := O61.keep K62 (allS g_b60 all0)
  have KC62 : Keep h0 T62.heap [] := KC61.trans K62 (allS (Or.inr sz_b60) all0)
  show Go p.tables e below Pf (T62.setTop (mkF m 25 #[.val (.int c0)] [(.ref b60)]))
  rw [hPf]
  exact Go.retA' X62 hx hret hlk rfl rfl (hb hby d8_25) (by decide) (by decide) ⟨b60, rb_61, kb_61, rfl, N62, KC62, f62_0, sz_b60, f62_1, f62_2, (f61_0.keep K62 (ninS (Ne.symm (Nat.ne_of_lt (Nat.lt_of_lt_of_le A60.lt f61_1))) nin0)), sz_rb_61⟩
theorem d18_0 : decode jdk_43_method_13_code 0 = .ok (.aload_n 0, 1) := by decide +kernel
theorem d18_1 : decode jdk_43_method_13_code 1 = .ok (.arraylength, 1) := by decide +kernel
theorem d18_2 : decode jdk_43_method_13_code 2 = .ok (.aload_n 1, 1) := by decide +kernel
theorem d18_3 : decode jdk_43_method_13_code 3 = .ok (.arraylength, 1) := by decide +kernel
theorem d18_4 : decode jdk_43_method_13_code 4 = .ok (.if_icmp .ne 30, 3) := by decide +kernel
theorem d18_34 : decode jdk_43_method_13_code 34 = .ok (.iconst 0, 1) := by decide +kernel
theorem d18_35 : decode jdk_43_method_13_code 35 = .ok (.ireturn, 1) := by decide +kernel
theorem pn_18 : plainName "java/lang/StringLatin1" = true := by first | (simp [plainName, overriddenIn]; done) | decide +kernel
set_option maxHeartbeats 4000000 in
theorem ef_rmLS_0 (m : MethodId) {va : Addr} {vb : Addr} : entryFrame m #[(.ref va), (.ref vb)] 3 = mkF m 0 #[.val (.ref va), .val (.ref vb), .unset] [] := by first | (simp [entryFrame, mkF, argsToLocals, Value.category]; done) | rfl
def QrmLS_0 (Z : State) (vcs : Int32) (va : Addr) (vb : Addr) (ka : ClassId) (kb : ClassId) (h0 : Heap) (n0 : Nat) (v : Option Value) (h : Heap) (L : List Loc) : Prop := (v = some (.int (0 : Int32))) ∧ (L = []) ∧ (h = h0)
set_option maxRecDepth 65536 in
set_option maxHeartbeats 40000000 in
theorem rmLS_0 (l : Launch) (Z : State) (a0 : Array Value) (hw : ∀ d ∈ tables_1, d.before a0 Z = true) (ws : List Jvm.Cond) (vcs : Int32) (G : Gh Z vcs) (va : Addr) (vb : Addr) (ka : ClassId) (kb : ClassId) (h0 : Heap) (n0 : Nat) (O0 : Old Z n0 h0) (VA : Arv Z h0 va ka .byte (1 : Int32) [(.int (42 : Int32))] (.int (0 : Int32))) (VB : Arv Z h0 vb kb .byte (0 : Int32) [] (.int (0 : Int32))) :
    MetFree l (⟨"java/lang/StringLatin1", "equals", "([B[B)Z"⟩ : MethodName) (head1 (Jvm.Cond.code (⟨"java/lang/StringLatin1", "equals", "([B[B)Z"⟩ : MethodName) jdk_43_method_13_code 3 (some .boolean) :: ws) ({ frames := 0, cells := 0, slots := 0, locals := 0 } : Room)) (fun aa' UU' => aa' = #[(.ref va), (.ref vb)] ∧ Z.Warmed39 UU'.vm ∧ UU'.heap = h0) (fun _ _ _ _ _ => True) (fun _ UU' oo' VV' => ∃ v' L', oo' = .returned v' ∧ QrmLS_0 Z vcs va vb ka kb h0 n0 v' VV'.heap L' ∧ FrameEnd UU' oo' VV' L' ({ frames := 0, cells := 0, slots := 0, locals := 0 } : Room).cells ({ frames := 0, cells := 0, slots := 0, locals := 0 } : Room).slots) := by
  refine MetFree.of_bodySF (plainFor_of_name pn_18) hisR ?_
  intro p e s m args below meth c s₁ Bd hml0 hP hK
  obtain ⟨rfl, hZ, hh⟩ := hP
  have hx := Bd.exec
  have hby := Bd.bytes
  have hlk := Bd.notSynchronized
  have hml : c.maxLocals = 3 := hml0
  have hown : s.vm.findClass "java/lang/StringLatin1" = some m.cls := findClass_of_methodNamed Bd.named
  have hnm := (name_of_methodNamed Bd.named Bd.method).1
  have hret := Bd.returns
  have X0 : Stand p l e ({ frames := 0, cells := 0, slots := 0, locals := 0 } : Room) s m #[(.ref va), (.ref vb)] below meth c s₁ [] 0 0 := Stand.of_body Bd
  have e0 : s₁.heap = h0 := by rw [← hh, Bd.state]; rfl
  have N0 := Fr.nil n0
  refine Go.body ?_
  obtain ⟨Pf, hPf⟩ : ∃ P, P = Fin' s below ({ frames := 0, cells := 0, slots := 0, locals := 0 } : Room).cells ({ frames := 0, cells := 0, slots := 0, locals := 0 } : Room).slots (QrmLS_0 Z vcs va vb ka kb h0 n0) := ⟨_, rfl⟩
  rw [← hPf]
  refine Go.cast (ef_rmLS_0 m) ?_
  show Go p.tables e below Pf (s₁.setTop (mkF m 0 #[.val (.ref va), .val (.ref vb), .unset] []))
  refine Go.by' (fun t k => (XS.aloadN X0.here hx rfl (hb hby d18_0) rfl rfl k)) ?_
  show Go p.tables e below Pf (s₁.setTop (mkF m 1 #[.val (.ref va), .val (.ref vb), .unset] [(.ref va)]))
  obtain ⟨cl63, Ar63, -, S63, P63, -, -⟩ := (id VA)
  refine Go.by' (fun t k => (X0.arraylength hx (by rw [e0]; exact Ar63.1) (State.isArrayOf_alike hZ.alike Ar63.2.1) (g := (mkF m 1 #[.val (.ref va), .val (.ref vb), .unset] [(.ref va)])) rfl rfl (hb hby d18_1) t k)) ?_
  rw [len_of S63 P63]
  show Go p.tables e below Pf (s₁.setTop (mkF m 2 #[.val (.ref va), .val (.ref vb), .unset] [(.int (1 : Int32))]))
  refine Go.by' (fun t k => (XS.aloadN X0.here hx rfl (hb hby d18_2) rfl rfl k)) ?_
  show Go p.tables e below Pf (s₁.setTop (mkF m 3 #[.val (.ref va), .val (.ref vb), .unset] [(.ref vb), (.int (1 : Int32))]))
  obtain ⟨cl64, Ar64, -, S64, P64, -, -⟩ := (id VB)
  refine Go.by' (fun t k => (X0.arraylength hx (by rw [e0]; exact Ar64.1) (State.isArrayOf_alike hZ.alike Ar64.2.1) (g := (mkF m 3 #[.val (.ref va), .val (.ref vb), .unset] [(.ref vb), (.int (1 : Int32))])) rfl rfl (hb hby d18_3) t k)) ?_
  rw [len_of S64 P64]
  show Go p.tables e below Pf (s₁.setTop (mkF m 4 #[.val (.ref va), .val (.ref vb), .unset] [(.int (0 : Int32)), (.int (1 : Int32))]))
  refine Go.by' (fun t k => (XS.icmpYes X0.here hx rfl (pc0 := 4) (pc' := 34) rfl (hb hby d18_4) rfl (feq (by decide)).2 (by decide) (by decide) (XS.iconst X0.here hx rfl (hb hby d18_34) k))) ?_
  show Go p.tables e below Pf (s₁.setTop (mkF m 35 #[.val (.ref va), .val (.ref vb), .unset] [(.int (0 : Int32))]))
  rw [hPf]
  exact Go.retI' X0 hx hret hlk (by simp) rfl (hb hby d18_35) (by decide) (by decide) ⟨rfl, rfl, e0⟩
theorem d18_7 : decode jdk_43_method_13_code 7 = .ok (.iconst 0, 1) := by decide +kernel
theorem d18_8 : decode jdk_43_method_13_code 8 = .ok (.istore_n 2, 1) := by decide +kernel
theorem d18_9 : decode jdk_43_method_13_code 9 = .ok (.iload_n 2, 1) := by decide +kernel
theorem d18_10 : decode jdk_43_method_13_code 10 = .ok (.aload_n 0, 1) := by decide +kernel
theorem d18_11 : decode jdk_43_method_13_code 11 = .ok (.arraylength, 1) := by decide +kernel
theorem d18_12 : decode jdk_43_method_13_code 12 = .ok (.if_icmp .ge 20, 3) := by decide +kernel
theorem d18_15 : decode jdk_43_method_13_code 15 = .ok (.aload_n 0, 1) := by decide +kernel
theorem d18_16 : decode jdk_43_method_13_code 16 = .ok (.iload_n 2, 1) := by decide +kernel
theorem d18_17 : decode jdk_43_method_13_code 17 = .ok (.baload, 1) := by decide +kernel
theorem d18_18 : decode jdk_43_method_13_code 18 = .ok (.aload_n 1, 1) := by decide +kernel
theorem d18_19 : decode jdk_43_method_13_code 19 = .ok (.iload_n 2, 1) := by decide +kernel
theorem d18_20 : decode jdk_43_method_13_code 20 = .ok (.baload, 1) := by decide +kernel
theorem d18_21 : decode jdk_43_method_13_code 21 = .ok (.if_icmp .eq 5, 3) := by decide +kernel
theorem d18_26 : decode jdk_43_method_13_code 26 = .ok (.iinc 2 1, 3) := by decide +kernel
theorem d18_29 : decode jdk_43_method_13_code 29 = .ok (.goto (-20), 3) := by decide +kernel
theorem d18_32 : decode jdk_43_method_13_code 32 = .ok (.iconst 1, 1) := by decide +kernel
theorem d18_33 : decode jdk_43_method_13_code 33 = .ok (.ireturn, 1) := by decide +kernel
theorem d18_24 : decode jdk_43_method_13_code 24 = .ok (.iconst 0, 1) := by decide +kernel
theorem d18_25 : decode jdk_43_method_13_code 25 = .ok (.ireturn, 1) := by decide +kernel
set_option maxHeartbeats 4000000 in
theorem ef_rmLS_1 (m : MethodId) {va : Addr} {vb : Addr} : entryFrame m #[(.ref va), (.ref vb)] 3 = mkF m 0 #[.val (.ref va), .val (.ref vb), .unset] [] := by first | (simp [entryFrame, mkF, argsToLocals, Value.category]; done) | rfl
def QrmLS_1 (Z : State) (vcs : Int32) (va : Addr) (vb : Addr) (ka : ClassId) (kb : ClassId) (y0 : Int32) (h0 : Heap) (n0 : Nat) (v : Option Value) (h : Heap) (L : List Loc) : Prop := ∃ (r : Int32), (v = some (.int r)) ∧ (L = []) ∧ (h = h0) ∧ (((42 : Int32) = y0 ∧ r = (1 : Int32)) ∨ (¬ ((42 : Int32) = y0) ∧ r = (0 : Int32)))
set_option maxRecDepth 65536 in
set_option maxHeartbeats 40000000 in
theorem rmLS_1 (l : Launch) (Z : State) (a0 : Array Value) (hw : ∀ d ∈ tables_1, d.before a0 Z = true) (ws : List Jvm.Cond) (vcs : Int32) (G : Gh Z vcs) (va : Addr) (vb : Addr) (ka : ClassId) (kb : ClassId) (y0 : Int32) (h0 : Heap) (n0 : Nat) (O0 : Old Z n0 h0) (VA : Arv Z h0 va ka .byte (1 : Int32) [(.int (42 : Int32))] (.int (0 : Int32))) (VB : Arv Z h0 vb kb .byte (1 : Int32) [(.int y0)] (.int (0 : Int32))) :
    MetFree l (⟨"java/lang/StringLatin1", "equals", "([B[B)Z"⟩ : MethodName) (head1 (Jvm.Cond.code (⟨"java/lang/StringLatin1", "equals", "([B[B)Z"⟩ : MethodName) jdk_43_method_13_code 3 (some .boolean) :: ws) ({ frames := 0, cells := 0, slots := 0, locals := 0 } : Room)) (fun aa' UU' => aa' = #[(.ref va), (.ref vb)] ∧ Z.Warmed39 UU'.vm ∧ UU'.heap = h0) (fun _ _ _ _ _ => True) (fun _ UU' oo' VV' => ∃ v' L', oo' = .returned v' ∧ QrmLS_1 Z vcs va vb ka kb y0 h0 n0 v' VV'.heap L' ∧ FrameEnd UU' oo' VV' L' ({ frames := 0, cells := 0, slots := 0, locals := 0 } : Room).cells ({ frames := 0, cells := 0, slots := 0, locals := 0 } : Room).slots) := by
  refine MetFree.of_bodySF (plainFor_of_name pn_18) hisR ?_
  intro p e s m args below meth c s₁ Bd hml0 hP hK
  obtain ⟨rfl, hZ, hh⟩ := hP
  have hx := Bd.exec
  have hby := Bd.bytes
  have hlk := Bd.notSynchronized
  have hml : c.maxLocals = 3 := hml0
  have hown : s.vm.findClass "java/lang/StringLatin1" = some m.cls := findClass_of_methodNamed Bd.named
  have hnm := (name_of_methodNamed Bd.named Bd.method).1
  have hret := Bd.returns
  have X0 : Stand p l e ({ frames := 0, cells := 0, slots := 0, locals := 0 } : Room) s m #[(.ref va), (.ref vb)] below meth c s₁ [] 0 0 := Stand.of_body Bd
  have e0 : s₁.heap = h0 := by rw [← hh, Bd.state]; rfl
  have N0 := Fr.nil n0
  refine Go.body ?_
  obtain ⟨Pf, hPf⟩ : ∃ P, P = Fin' s below ({ frames := 0, cells := 0, slots := 0, locals := 0 } : Room).cells ({ frames := 0, cells := 0, slots := 0, locals := 0 } : Room).slots (QrmLS_1 Z vcs va vb ka kb y0 h0 n0) := ⟨_, rfl⟩
  rw [← hPf]
  refine Go.cast (ef_rmLS_1 m) ?_
  show Go p.tables e below Pf (s₁.setTop (mkF m 0 #[.val (.ref va), .val (.ref vb), .unset] []))
  refine Go.by' (fun t k => (XS.aloadN X0.here hx rfl (hb hby d18_0) rfl rfl k)) ?_
  show Go p.tables e below Pf (s₁.setTop (mkF m 1 #[.val (.ref va), .val (.ref vb), .unset] [(.ref va)]))
  obtain ⟨cl65, Ar65, -, S65, P65, -, -⟩ := (id VA)
  refine Go.by' (fun t k => (X0.arraylength hx (by rw [e0]; exact Ar65.1) (State.isArrayOf_alike hZ.alike Ar65.2.1) (g := (mkF m 1 #[.val (.ref va), .val (.ref vb), .unset] [(.ref va)])) rfl rfl (hb hby d18_1) t k)) ?_
  rw [len_of S65 P65]
  show Go p.tables e below Pf (s₁.setTop (mkF m 2 #[.val (.ref va), .val (.ref vb), .unset] [(.int (1 : Int32))]))
  refine Go.by' (fun t k => (XS.aloadN X0.here hx rfl (hb hby d18_2) rfl rfl k)) ?_
  show Go p.tables e below Pf (s₁.setTop (mkF m 3 #[.val (.ref va), .val (.ref vb), .unset] [(.ref vb), (.int (1 : Int32))]))
  obtain ⟨cl66, Ar66, -, S66, P66, -, -⟩ := (id VB)
  refine Go.by' (fun t k => (X0.arraylength hx (by rw [e0]; exact Ar66.1) (State.isArrayOf_alike hZ.alike Ar66.2.1) (g := (mkF m 3 #[.val (.ref va), .val (.ref vb), .unset] [(.ref vb), (.int (1 : Int32))])) rfl rfl (hb hby d18_3) t k)) ?_
  rw [len_of S66 P66]
  show Go p.tables e below Pf (s₁.setTop (mkF m 4 #[.val (.ref va), .val (.ref vb), .unset] [(.int (1 : Int32)), (.int (1 : Int32))]))
  refine Go.by' (fun t k => (XS.icmpNo X0.here hx rfl (hb hby d18_4) rfl (teq (by decide)).2 (XS.iconst X0.here hx rfl (hb hby d18_7) (XS.istoreN X0.here hx rfl (hb hby d18_8) rfl (l' := #[.val (.ref va), .val (.ref vb), .val (.int (0 : Int32))]) rfl (XS.iloadN X0.here hx rfl (hb hby d18_9) rfl (XS.aloadN X0.here hx rfl (hb hby d18_10) rfl rfl k)))))) ?_
  show Go p.tables e below Pf (s₁.setTop (mkF m 11 #[.val (.ref va), .val (.ref vb), .val (.int (0 : Int32))] [(.ref va), (.int (0 : Int32))]))
  obtain ⟨cl67, Ar67, -, S67, P67, -, -⟩ := (id VA)
  refine Go.by' (fun t k => (X0.arraylength hx (by rw [e0]; exact Ar67.1) (State.isArrayOf_alike hZ.alike Ar67.2.1) (g := (mkF m 11 #[.val (.ref va), .val (.ref vb), .val (.int (0 : Int32))] [(.ref va), (.int (0 : Int32))])) rfl rfl (hb hby d18_11) t k)) ?_
  rw [len_of S67 P67]
  show Go p.tables e below Pf (s₁.setTop (mkF m 12 #[.val (.ref va), .val (.ref vb), .val (.int (0 : Int32))] [(.int (1 : Int32)), (.int (0 : Int32))]))
  refine Go.by' (fun t k => (XS.icmpNo X0.here hx rfl (hb hby d18_12) rfl (tlt (by decide)).2.1 (XS.aloadN X0.here hx rfl (hb hby d18_15) rfl rfl (XS.iloadN X0.here hx rfl (hb hby d18_16) rfl k)))) ?_
  show Go p.tables e below Pf (s₁.setTop (mkF m 17 #[.val (.ref va), .val (.ref vb), .val (.int (0 : Int32))] [(.int (0 : Int32)), (.ref va)]))
  obtain ⟨cl68, Ar68, q68, S68, P68, H68, G68⟩ := (id VA)
  have hin68 : ¬ ((0 : Int32) < 0 ∨ cl68.slots.size ≤ ((0 : Int32)).toNatClampNeg) := inb_of S68 ⟨by decide, by decide⟩
  refine Go.by' (fun t k => (X0.baloadBytes hx (j := (0 : Int32)) (v := (.int (42 : Int32))) (by rw [e0]; exact Ar68.1) (State.isArrayOf_alike hZ.alike Ar68.2.1) Ar68.2.2 hin68 (H68.at hin68 rfl) (g := (mkF m 17 #[.val (.ref va), .val (.ref vb), .val (.int (0 : Int32))] [(.int (0 : Int32)), (.ref va)])) rfl rfl (hb hby d18_17) t (XS.aloadN X0.here hx rfl (hb hby d18_18) rfl rfl (XS.iloadN X0.here hx rfl (hb hby d18_19) rfl k)))) ?_
  show Go p.tables e below Pf (s₁.setTop (mkF m 20 #[.val (.ref va), .val (.ref vb), .val (.int (0 : Int32))] [(.int (0 : Int32)), (.ref vb), (.int (42 : Int32))]))
  obtain ⟨cl69, Ar69, q69, S69, P69, H69, G69⟩ := (id VB)
  have hin69 : ¬ ((0 : Int32) < 0 ∨ cl69.slots.size ≤ ((0 : Int32)).toNatClampNeg) := inb_of S69 ⟨by decide, by decide⟩
  refine Go.by' (fun t k => (X0.baloadBytes hx (j := (0 : Int32)) (v := (.int y0)) (by rw [e0]; exact Ar69.1) (State.isArrayOf_alike hZ.alike Ar69.2.1) Ar69.2.2 hin69 (H69.at hin69 rfl) (g := (mkF m 20 #[.val (.ref va), .val (.ref vb), .val (.int (0 : Int32))] [(.int (0 : Int32)), (.ref vb), (.int (42 : Int32))])) rfl rfl (hb hby d18_20) t k)) ?_
  show Go p.tables e below Pf (s₁.setTop (mkF m 21 #[.val (.ref va), .val (.ref vb), .val (.int (0 : Int32))] [(.int y0), (.int (42 : Int32))]))
  by_cases hc70 : (42 : Int32) = y0
  · refine Go.by' (fun t k => (XS.icmpYes X0.here hx rfl (pc0 := 21) (pc' := 26) rfl (hb hby d18_21) rfl (teq hc70).1 (by decide) (by decide) (XS.iinc X0.here hx rfl (hb hby d18_26) rfl (l' := #[.val (.ref va), .val (.ref vb), .val (.int ((0 : Int32) + (1 : Int32)))]) rfl k))) ?_
    show Go p.tables e below Pf (s₁.setTop (mkF m 29 #[.val (.ref va), .val (.ref vb), .val (.int ((0 : Int32) + (1 : Int32)))] []))
    refine Go.castF (a := ((0 : Int32) + (1 : Int32))) (b := (1 : Int32)) (fun z' : Int32 => mkF m 29 #[.val (.ref va), .val (.ref vb), .val (.int z')] []) (by decide) ?_
    show Go p.tables e below Pf (s₁.setTop (mkF m 29 #[.val (.ref va), .val (.ref vb), .val (.int (1 : Int32))] []))
    refine Go.by' (fun t k => (XS.goto X0.here hx rfl (pc0 := 29) (pc' := 9) rfl (hb hby d18_29) (by decide) (by decide) (XS.iloadN X0.here hx rfl (hb hby d18_9) rfl (XS.aloadN X0.here hx rfl (hb hby d18_10) rfl rfl k)))) ?_
    show Go p.tables e below Pf (s₁.setTop (mkF m 11 #[.val (.ref va), .val (.ref vb), .val (.int (1 : Int32))] [(.ref va), (.int (1 : Int32))]))
    obtain ⟨cl71, Ar71, -, S71, P71, -, -⟩ := (id VA)
    refine Go.by' (fun t k => (X0.arraylength hx (by rw [e0]; exact Ar71.1) (State.isArrayOf_alike hZ.alike Ar71.2.1) (g := (mkF m 11 #[.val (.ref va), .val (.ref vb), .val (.int (1 : Int32))] [(.ref va), (.int (1 : Int32))])) rfl rfl (hb hby d18_11) t k)) ?_
    rw [len_of S71 P71]
    show Go p.tables e below Pf (s₁.setTop (mkF m 12 #[.val (.ref va), .val (.ref vb), .val (.int (1 : Int32))] [(.int (1 : Int32)), (.int (1 : Int32))]))
    refine Go.by' (fun t k => (XS.icmpYes X0.here hx rfl (pc0 := 12) (pc' := 32) rfl (hb hby d18_12) rfl (flt (by decide)).2.1 (by decide) (by decide) (XS.iconst X0.here hx rfl (hb hby d18_32) k))) ?_
    show Go p.tables e below Pf (s₁.setTop (mkF m 33 #[.val (.ref va), .val (.ref vb), .val (.int (1 : Int32))] [(.int (1 : Int32))]))
    rw [hPf]
    exact Go.retI' X0 hx hret hlk (by simp) rfl (hb hby d18_33) (by decide) (by decide) ⟨(1 : Int32), rfl, rfl, e0, (Or.inl ⟨hc70, rfl⟩)⟩
  · refine Go.by' (fun t k => (XS.icmpNo X0.here hx rfl (hb hby d18_21) rfl (feq hc70).1 (XS.iconst X0.here hx rfl (hb hby d18_24) k))) ?_
    show Go p.tables e below Pf (s₁.setTop (mkF m 25 #[.val (.ref va), .val (.ref vb), .val (.int (0 : Int32))] [(.int (0 : Int32))]))
    rw [hPf]
    exact Go.retI' X0 hx hret hlk (by simp) rfl (hb hby d18_25) (by decide) (by decide) ⟨(0 : Int32), rfl, rfl, e0, (Or.inr ⟨hc70, rfl⟩)⟩
set_option maxHeartbeats 4000000 in
theorem ef_rmLS_2 (m : MethodId) {va : Addr} {vb : Addr} : entryFrame m #[(.ref va), (.ref vb)] 3 = mkF m 0 #[.val (.ref va), .val (.ref vb), .unset] [] := by first | (simp [entryFrame, mkF, argsToLocals, Value.category]; done) | rfl
def QrmLS_2 (Z : State) (vcs : Int32) (va : Addr) (vb : Addr) (ka : ClassId) (kb : ClassId) (y0 : Int32) (y1 : Int32) (h0 : Heap) (n0 : Nat) (v : Option Value) (h : Heap) (L : List Loc) : Prop := (v = some (.int (0 : Int32))) ∧ (L = []) ∧ (h = h0)
set_option maxRecDepth 65536 in
set_option maxHeartbeats 40000000 in
theorem rmLS_2 (l : Launch) (Z : State) (a0 : Array Value) (hw : ∀ d ∈ tables_1, d.before a0 Z = true) (ws : List Jvm.Cond) (vcs : Int32) (G : Gh Z vcs) (va : Addr) (vb : Addr) (ka : ClassId) (kb : ClassId) (y0 : Int32) (y1 : Int32) (h0 : Heap) (n0 : Nat) (O0 : Old Z n0 h0) (VA : Arv Z h0 va ka .byte (1 : Int32) [(.int (42 : Int32))] (.int (0 : Int32))) (VB : Arv Z h0 vb kb .byte (2 : Int32) [(.int y0), (.int y1)] (.int (0 : Int32))) :
    MetFree l (⟨"java/lang/StringLatin1", "equals", "([B[B)Z"⟩ : MethodName) (head1 (Jvm.Cond.code (⟨"java/lang/StringLatin1", "equals", "([B[B)Z"⟩ : MethodName) jdk_43_method_13_code 3 (some .boolean) :: ws) ({ frames := 0, cells := 0, slots := 0, locals := 0 } : Room)) (fun aa' UU' => aa' = #[(.ref va), (.ref vb)] ∧ Z.Warmed39 UU'.vm ∧ UU'.heap = h0) (fun _ _ _ _ _ => True) (fun _ UU' oo' VV' => ∃ v' L', oo' = .returned v' ∧ QrmLS_2 Z vcs va vb ka kb y0 y1 h0 n0 v' VV'.heap L' ∧ FrameEnd UU' oo' VV' L' ({ frames := 0, cells := 0, slots := 0, locals := 0 } : Room).cells ({ frames := 0, cells := 0, slots := 0, locals := 0 } : Room).slots) := by
  refine MetFree.of_bodySF (plainFor_of_name pn_18) hisR ?_
  intro p e s m args below meth c s₁ Bd hml0 hP hK
  obtain ⟨rfl, hZ, hh⟩ := hP
  have hx := Bd.exec
  have hby := Bd.bytes
  have hlk := Bd.notSynchronized
  have hml : c.maxLocals = 3 := hml0
  have hown : s.vm.findClass "java/lang/StringLatin1" = some m.cls := findClass_of_methodNamed Bd.named
  have hnm := (name_of_methodNamed Bd.named Bd.method).1
  have hret := Bd.returns
  have X0 : Stand p l e ({ frames := 0, cells := 0, slots := 0, locals := 0 } : Room) s m #[(.ref va), (.ref vb)] below meth c s₁ [] 0 0 := Stand.of_body Bd
  have e0 : s₁.heap = h0 := by rw [← hh, Bd.state]; rfl
  have N0 := Fr.nil n0
  refine Go.body ?_
  obtain ⟨Pf, hPf⟩ : ∃ P, P = Fin' s below ({ frames := 0, cells := 0, slots := 0, locals := 0 } : Room).cells ({ frames := 0, cells := 0, slots := 0, locals := 0 } : Room).slots (QrmLS_2 Z vcs va vb ka kb y0 y1 h0 n0) := ⟨_, rfl⟩
  rw [← hPf]
  refine Go.cast (ef_rmLS_2 m) ?_
  show Go p.tables e below Pf (s₁.setTop (mkF m 0 #[.val (.ref va), .val (.ref vb), .unset] []))
  refine Go.by' (fun t k => (XS.aloadN X0.here hx rfl (hb hby d18_0) rfl rfl k)) ?_
  show Go p.tables e below Pf (s₁.setTop (mkF m 1 #[.val (.ref va), .val (.ref vb), .unset] [(.ref va)]))
  obtain ⟨cl72, Ar72, -, S72, P72, -, -⟩ := (id VA)
  refine Go.by' (fun t k => (X0.arraylength hx (by rw [e0]; exact Ar72.1) (State.isArrayOf_alike hZ.alike Ar72.2.1) (g := (mkF m 1 #[.val (.ref va), .val (.ref vb), .unset] [(.ref va)])) rfl rfl (hb hby d18_1) t k)) ?_
  rw [len_of S72 P72]
  show Go p.tables e below Pf (s₁.setTop (mkF m 2 #[.val (.ref va), .val (.ref vb), .unset] [(.int (1 : Int32))]))
  refine Go.by' (fun t k => (XS.aloadN X0.here hx rfl (hb hby d18_2) rfl rfl k)) ?_
  show Go p.tables e below Pf (s₁.setTop (mkF m 3 #[.val (.ref va), .val (.ref vb), .unset] [(.ref vb), (.int (1 : Int32))]))
  obtain ⟨cl73, Ar73, -, S73, P73, -, -⟩ := (id VB)
  refine Go.by' (fun t k => (X0.arraylength hx (by rw [e0]; exact Ar73.1) (State.isArrayOf_alike hZ.alike Ar73.2.1) (g := (mkF m 3 #[.val (.ref va), .val (.ref vb), .unset] [(.ref vb), (.int (1 : Int32))])) rfl rfl (hb hby d18_3) t k)) ?_
  rw [len_of S73 P73]
  show Go p.tables e below Pf (s₁.setTop (mkF m 4 #[.val (.ref va), .val (.ref vb), .unset] [(.int (2 : Int32)), (.int (1 : Int32))]))
  refine Go.by' (fun t k => (XS.icmpYes X0.here hx rfl (pc0 := 4) (pc' := 34) rfl (hb hby d18_4) rfl (feq (by decide)).2 (by decide) (by decide) (XS.iconst X0.here hx rfl (hb hby d18_34) k))) ?_
  show Go p.tables e below Pf (s₁.setTop (mkF m 35 #[.val (.ref va), .val (.ref vb), .unset] [(.int (0 : Int32))]))
  rw [hPf]
  exact Go.retI' X0 hx hret hlk (by simp) rfl (hb hby d18_35) (by decide) (by decide) ⟨rfl, rfl, e0⟩
theorem d17_0 : decode jdk_42_method_66_code 0 = .ok (.aload_n 0, 1) := by decide +kernel
theorem d17_1 : decode jdk_42_method_66_code 1 = .ok (.aload_n 1, 1) := by decide +kernel
theorem d17_2 : decode jdk_42_method_66_code 2 = .ok (.if_acmp .ne 5, 3) := by decide +kernel
theorem d17_7 : decode jdk_42_method_66_code 7 = .ok (.aload_n 1, 1) := by decide +kernel
theorem d17_8 : decode jdk_42_method_66_code 8 = .ok (.instanceof 10, 3) := by decide +kernel
theorem d17_11 : decode jdk_42_method_66_code 11 = .ok (.ifCond .eq 43, 3) := by decide +kernel
theorem d17_14 : decode jdk_42_method_66_code 14 = .ok (.aload_n 1, 1) := by decide +kernel
theorem d17_15 : decode jdk_42_method_66_code 15 = .ok (.checkcast 10, 3) := by decide +kernel
theorem d17_18 : decode jdk_42_method_66_code 18 = .ok (.astore_n 2, 1) := by decide +kernel
theorem d17_19 : decode jdk_42_method_66_code 19 = .ok (.getstatic 38, 3) := by decide +kernel
theorem d17_22 : decode jdk_42_method_66_code 22 = .ok (.ifCond .eq 14, 3) := by decide +kernel
theorem d17_25 : decode jdk_42_method_66_code 25 = .ok (.aload_n 0, 1) := by decide +kernel
theorem d17_26 : decode jdk_42_method_66_code 26 = .ok (.getfield 15, 3) := by decide +kernel
theorem d17_29 : decode jdk_42_method_66_code 29 = .ok (.aload_n 2, 1) := by decide +kernel
theorem d17_30 : decode jdk_42_method_66_code 30 = .ok (.getfield 15, 3) := by decide +kernel
theorem d17_33 : decode jdk_42_method_66_code 33 = .ok (.if_icmp .ne 21, 3) := by decide +kernel
theorem d17_36 : decode jdk_42_method_66_code 36 = .ok (.aload_n 0, 1) := by decide +kernel
theorem d17_37 : decode jdk_42_method_66_code 37 = .ok (.getfield 9, 3) := by decide +kernel
theorem d17_40 : decode jdk_42_method_66_code 40 = .ok (.aload_n 2, 1) := by decide +kernel
theorem d17_41 : decode jdk_42_method_66_code 41 = .ok (.getfield 9, 3) := by decide +kernel
theorem d17_44 : decode jdk_42_method_66_code 44 = .ok (.invokestatic 541, 3) := by decide +kernel
theorem pd_7 : parseMethodDescriptor "([B[B)Z" = some ⟨[(.array .byte), (.array .byte)], some .boolean⟩ := by decide +kernel
theorem d17_47 : decode jdk_42_method_66_code 47 = .ok (.ifCond .eq 7, 3) := by decide +kernel
theorem d17_54 : decode jdk_42_method_66_code 54 = .ok (.iconst 0, 1) := by decide +kernel
theorem d17_55 : decode jdk_42_method_66_code 55 = .ok (.ireturn, 1) := by decide +kernel
theorem d17_50 : decode jdk_42_method_66_code 50 = .ok (.iconst 1, 1) := by decide +kernel
theorem d17_51 : decode jdk_42_method_66_code 51 = .ok (.goto 4, 3) := by decide +kernel
theorem pn_17 : plainName "java/lang/String" = true := by first | (simp [plainName, overriddenIn]; done) | decide +kernel
set_option maxHeartbeats 4000000 in
theorem ef_rmSEs (m : MethodId) {sa : Addr} {sb : Addr} : entryFrame m #[(.ref sa), (.ref sb)] 3 = mkF m 0 #[.val (.ref sa), .val (.ref sb), .unset] [] := by first | (simp [entryFrame, mkF, argsToLocals, Value.category]; done) | rfl
def QrmSEs (Z : State) (vcs : Int32) (sa : Addr) (sb : Addr) (va : Addr) (vb : Addr) (ka : ClassId) (kb : ClassId) (zb : Int32) (vsb : (List Value)) (h0 : Heap) (n0 : Nat) (v : Option Value) (h : Heap) (L : List Loc) : Prop := ∃ (r : Int32), (v = some (.int r)) ∧ (L = []) ∧ (h = h0) ∧ ((vsb = [(.int (42 : Int32))] ∧ r = (1 : Int32)) ∨ (¬ (vsb = [(.int (42 : Int32))]) ∧ r = (0 : Int32)))
set_option maxRecDepth 65536 in
set_option maxHeartbeats 40000000 in
theorem rmSEs (l : Launch) (Z : State) (a0 : Array Value) (hw : ∀ d ∈ tables_1, d.before a0 Z = true) (ws : List Jvm.Cond) (vcs : Int32) (G : Gh Z vcs) (sa : Addr) (sb : Addr) (va : Addr) (vb : Addr) (ka : ClassId) (kb : ClassId) (zb : Int32) (vsb : (List Value)) (h0 : Heap) (n0 : Nat) (O0 : Old Z n0 h0) (EA : Exa Z h0 sa "java/lang/String") (EB : Exa Z h0 sb "java/lang/String") (FA : Fld Z h0 sa "java/lang/String" "value" "[B" (.ref va)) (FB : Fld Z h0 sb "java/lang/String" "value" "[B" (.ref vb)) (CA : Fld Z h0 sa "java/lang/String" "coder" "B" (.int (0 : Int32))) (CB : Fld Z h0 sb "java/lang/String" "coder" "B" (.int (0 : Int32))) (hne : sa ≠ sb) (VA : Arv Z h0 va ka .byte (1 : Int32) [(.int (42 : Int32))] (.int (0 : Int32))) (VB : Arv Z h0 vb kb .byte zb vsb (.int (0 : Int32))) (hKn : Knd zb vsb) :
    MetFree l (⟨"java/lang/String", "equals", "(Ljava/lang/Object;)Z"⟩ : MethodName) (head1 (Jvm.Cond.code (⟨"java/lang/String", "equals", "(Ljava/lang/Object;)Z"⟩ : MethodName) jdk_42_method_66_code 3 (some .boolean) :: ws) ({ frames := 1, cells := 0, slots := 0, locals := 14 } : Room)) (fun aa' UU' => aa' = #[(.ref sa), (.ref sb)] ∧ Z.Warmed39 UU'.vm ∧ UU'.heap = h0) (fun _ _ _ _ _ => True) (fun _ UU' oo' VV' => ∃ v' L', oo' = .returned v' ∧ QrmSEs Z vcs sa sb va vb ka kb zb vsb h0 n0 v' VV'.heap L' ∧ FrameEnd UU' oo' VV' L' ({ frames := 1, cells := 0, slots := 0, locals := 14 } : Room).cells ({ frames := 1, cells := 0, slots := 0, locals := 14 } : Room).slots) := by
  refine MetFree.of_bodySF (plainFor_of_name pn_17) hisR ?_
  intro p e s m args below meth c s₁ Bd hml0 hP hK
  obtain ⟨rfl, hZ, hh⟩ := hP
  have hx := Bd.exec
  have hby := Bd.bytes
  have hlk := Bd.notSynchronized
  have hml : c.maxLocals = 3 := hml0
  have hown : s.vm.findClass "java/lang/String" = some m.cls := findClass_of_methodNamed Bd.named
  have hnm := (name_of_methodNamed Bd.named Bd.method).1
  have hret := Bd.returns
  have X0 : Stand p l e ({ frames := 1, cells := 0, slots := 0, locals := 14 } : Room) s m #[(.ref sa), (.ref sb)] below meth c s₁ [] 0 0 := Stand.of_body Bd
  have e0 : s₁.heap = h0 := by rw [← hh, Bd.state]; rfl
  have N0 := Fr.nil n0
  refine Go.body ?_
  obtain ⟨Pf, hPf⟩ : ∃ P, P = Fin' s below ({ frames := 1, cells := 0, slots := 0, locals := 14 } : Room).cells ({ frames := 1, cells := 0, slots := 0, locals := 14 } : Room).slots (QrmSEs Z vcs sa sb va vb ka kb zb vsb h0 n0) := ⟨_, rfl⟩
  rw [← hPf]
  refine Go.cast (ef_rmSEs m) ?_
  have hw24 := (hw _ (List.mem_of_getElem? (i := 24) rfl))
  have hw25 := (hw _ (List.mem_of_getElem? (i := 25) rfl))
  have hw26 := (hw _ (List.mem_of_getElem? (i := 26) rfl))
  have hw42 := (hw _ (List.mem_of_getElem? (i := 42) rfl))
  have hw44 := (hw _ (List.mem_of_getElem? (i := 44) rfl))
  have hw93 := (hw _ (List.mem_of_getElem? (i := 93) rfl))
  have hw94 := (hw _ (List.mem_of_getElem? (i := 94) rfl))
  have hw95 := (hw _ (List.mem_of_getElem? (i := 95) rfl))
  show Go p.tables e below Pf (s₁.setTop (mkF m 0 #[.val (.ref sa), .val (.ref sb), .unset] []))
  rcases hKn with ⟨rfl, rfl⟩ | ⟨y0, rfl, rfl⟩ | ⟨y0, y1, rfl, rfl⟩
  · show Go p.tables e below Pf (s₁.setTop (mkF m 0 #[.val (.ref sa), .val (.ref sb), .unset] []))
    refine Go.by' (fun t k => (XS.aloadN X0.here hx rfl (hb hby d17_0) rfl rfl (XS.aloadN X0.here hx rfl (hb hby d17_1) rfl rfl k))) ?_
    show Go p.tables e below Pf (s₁.setTop (mkF m 2 #[.val (.ref sa), .val (.ref sb), .unset] [(.ref sb), (.ref sa)]))
    refine Go.by' (fun t k => Jvm.RoadKit.acmp (g := (mkF m 2 #[.val (.ref sa), .val (.ref sb), .unset] [(.ref sb), (.ref sa)])) X0 hx rfl rfl rfl (pc0 := 2) (pc' := 7) (same := false) rfl (hb hby d17_2) rfl (decide_eq_false (fun q => hne (Value.ref.inj q))) (by decide) (by decide) k) ?_
    show Go p.tables e below Pf (s₁.setTop (mkF m 7 #[.val (.ref sa), .val (.ref sb), .unset] []))
    refine Go.by' (fun t k => (XS.aloadN X0.here hx rfl (hb hby d17_7) rfl rfl k)) ?_
    show Go p.tables e below Pf (s₁.setTop (mkF m 8 #[.val (.ref sa), .val (.ref sb), .unset] [(.ref sb)]))
    obtain ⟨T74, X74, e74, st74⟩ := instY X0 hx hZ hown hw44 e0 (Ins.self EB) (g := (mkF m 8 #[.val (.ref sa), .val (.ref sb), .unset] [(.ref sb)])) rfl rfl (hb hby d17_8)
    refine Go.by' st74 ?_
    show Go p.tables e below Pf (T74.setTop (mkF m 11 #[.val (.ref sa), .val (.ref sb), .unset] [(.int (1 : Int32))]))
    refine Go.by' (fun t k => (XS.ifNo X74.here hx rfl (hb hby d17_11) rfl ((if0 _ _).trans (feq (by decide)).1) (XS.aloadN X74.here hx rfl (hb hby d17_14) rfl rfl k))) ?_
    show Go p.tables e below Pf (T74.setTop (mkF m 15 #[.val (.ref sa), .val (.ref sb), .unset] [(.ref sb)]))
    obtain ⟨T75, X75, e75, st75⟩ := castY X74 hx hZ hown hw44 e74 (Ins.self EB) (g := (mkF m 15 #[.val (.ref sa), .val (.ref sb), .unset] [(.ref sb)])) rfl rfl (hb hby d17_15)
    refine Go.by' st75 ?_
    show Go p.tables e below Pf (T75.setTop (mkF m 18 #[.val (.ref sa), .val (.ref sb), .unset] [(.ref sb)]))
    refine Go.by' (fun t k => (XS.astoreN X75.here hx rfl (hb hby d17_18) rfl rfl (l' := #[.val (.ref sa), .val (.ref sb), .val (.ref sb)]) rfl k)) ?_
    show Go p.tables e below Pf (T75.setTop (mkF m 19 #[.val (.ref sa), .val (.ref sb), .val (.ref sb)] []))
    obtain ⟨T76, X76, e76, st76⟩ := getS2 X75 hx hZ hown (host := "") (Or.inl hw26) Via.refl e75 (G.1.ext O0.2) (g := (mkF m 19 #[.val (.ref sa), .val (.ref sb), .val (.ref sb)] [])) rfl (hb hby d17_19)
    refine Go.by' st76 ?_
    show Go p.tables e below Pf (T76.setTop (mkF m 22 #[.val (.ref sa), .val (.ref sb), .val (.ref sb)] [(.int vcs)]))
    refine Go.by' (fun t k => (XS.ifNo X76.here hx rfl (hb hby d17_22) rfl ((if0 _ _).trans (feq G.2).1) (XS.aloadN X76.here hx rfl (hb hby d17_25) rfl rfl k))) ?_
    show Go p.tables e below Pf (T76.setTop (mkF m 26 #[.val (.ref sa), .val (.ref sb), .val (.ref sb)] [(.ref sa)]))
    obtain ⟨T77, X77, e77, st77⟩ := getF X76 hx hZ hown (host := "") (Or.inl hw25) Via.refl e76 CA (g := (mkF m 26 #[.val (.ref sa), .val (.ref sb), .val (.ref sb)] [(.ref sa)])) rfl rfl (hb hby d17_26)
    refine Go.by' st77 ?_
    show Go p.tables e below Pf (T77.setTop (mkF m 29 #[.val (.ref sa), .val (.ref sb), .val (.ref sb)] [(.int (0 : Int32))]))
    refine Go.by' (fun t k => (XS.aloadN X77.here hx rfl (hb hby d17_29) rfl rfl k)) ?_
    show Go p.tables e below Pf (T77.setTop (mkF m 30 #[.val (.ref sa), .val (.ref sb), .val (.ref sb)] [(.ref sb), (.int (0 : Int32))]))
    obtain ⟨T78, X78, e78, st78⟩ := getF X77 hx hZ hown (host := "") (Or.inl hw25) Via.refl e77 CB (g := (mkF m 30 #[.val (.ref sa), .val (.ref sb), .val (.ref sb)] [(.ref sb), (.int (0 : Int32))])) rfl rfl (hb hby d17_30)
    refine Go.by' st78 ?_
    show Go p.tables e below Pf (T78.setTop (mkF m 33 #[.val (.ref sa), .val (.ref sb), .val (.ref sb)] [(.int (0 : Int32)), (.int (0 : Int32))]))
    refine Go.by' (fun t k => (XS.icmpNo X78.here hx rfl (hb hby d17_33) rfl (teq (by decide)).2 (XS.aloadN X78.here hx rfl (hb hby d17_36) rfl rfl k))) ?_
    show Go p.tables e below Pf (T78.setTop (mkF m 37 #[.val (.ref sa), .val (.ref sb), .val (.ref sb)] [(.ref sa)]))
    obtain ⟨T79, X79, e79, st79⟩ := getF X78 hx hZ hown (host := "") (Or.inl hw24) Via.refl e78 FA (g := (mkF m 37 #[.val (.ref sa), .val (.ref sb), .val (.ref sb)] [(.ref sa)])) rfl rfl (hb hby d17_37)
    refine Go.by' st79 ?_
    show Go p.tables e below Pf (T79.setTop (mkF m 40 #[.val (.ref sa), .val (.ref sb), .val (.ref sb)] [(.ref va)]))
    refine Go.by' (fun t k => (XS.aloadN X79.here hx rfl (hb hby d17_40) rfl rfl k)) ?_
    show Go p.tables e below Pf (T79.setTop (mkF m 41 #[.val (.ref sa), .val (.ref sb), .val (.ref sb)] [(.ref sb), (.ref va)]))
    obtain ⟨T80, X80, e80, st80⟩ := getF X79 hx hZ hown (host := "") (Or.inl hw24) Via.refl e79 FB (g := (mkF m 41 #[.val (.ref sa), .val (.ref sb), .val (.ref sb)] [(.ref sb), (.ref va)])) rfl rfl (hb hby d17_41)
    refine Go.by' st80 ?_
    show Go p.tables e below Pf (T80.setTop (mkF m 44 #[.val (.ref sa), .val (.ref sb), .val (.ref sb)] [(.ref vb), (.ref va)]))
    obtain ⟨_, _, ⟨T81, L81, k81, n81⟩, -, X81, ⟨Lc81, hQ81, l81, y81, z81⟩, st81⟩ := Jvm.LawKit.callS X80 hx (y := (⟨"java/lang/StringLatin1", "equals", "([B[B)Z"⟩ : MethodName)) hown (mvT hZ hw93) (mvT hZ hw94) (mvT hZ hw42) (mvT hZ hw95) (by decide) (backOf (W := 0) (rmLS_0 l Z a0 hw [] vcs G va vb ka kb h0 n0 O0 VA VB) hZ hw95 hw42 (by decide) (by decide)) (g := (mkF m 44 #[.val (.ref sa), .val (.ref sb), .val (.ref sb)] [(.ref vb), (.ref va)])) rfl (by rw [hml]; rfl) (argsL := [(.ref va), (.ref vb)]) (rest := []) (lenOf pd_7 rfl) rfl (by show 2 * 0 + _ ≤ _; exact Nat.le_of_eq rfl) (hb hby d17_44) (fun _ _ => ⟨rfl, e80, (by decide : 0 + 0 ≤ _), (by decide : 0 + 0 ≤ _)⟩)
    dsimp only [Pt.U, Pt.locs, Pt.cells, Pt.slots] at X81 l81 y81 z81 st81 hQ81
    subst l81 y81 z81
    obtain ⟨rfl, rfl, e81⟩ := hQ81
    try replace X81 := own_nil X81
    refine Go.by' st81 ?_
    show Go p.tables e below Pf (T81.setTop (mkF m 47 #[.val (.ref sa), .val (.ref sb), .val (.ref sb)] [(.int (0 : Int32))]))
    refine Go.by' (fun t k => (XS.ifYes X81.here hx rfl (pc0 := 47) (pc' := 54) rfl (hb hby d17_47) rfl ((if0 _ _).trans (teq (by decide)).1) (by decide) (by decide) (XS.iconst X81.here hx rfl (hb hby d17_54) k))) ?_
    show Go p.tables e below Pf (T81.setTop (mkF m 55 #[.val (.ref sa), .val (.ref sb), .val (.ref sb)] [(.int (0 : Int32))]))
    rw [hPf]
    exact Go.retI' X81 hx hret hlk (by simp) rfl (hb hby d17_55) (by decide) (by decide) ⟨(0 : Int32), rfl, rfl, e81, (Or.inr ⟨by simp, rfl⟩)⟩
  · show Go p.tables e below Pf (s₁.setTop (mkF m 0 #[.val (.ref sa), .val (.ref sb), .unset] []))
    refine Go.by' (fun t k => (XS.aloadN X0.here hx rfl (hb hby d17_0) rfl rfl (XS.aloadN X0.here hx rfl (hb hby d17_1) rfl rfl k))) ?_
    show Go p.tables e below Pf (s₁.setTop (mkF m 2 #[.val (.ref sa), .val (.ref sb), .unset] [(.ref sb), (.ref sa)]))
    refine Go.by' (fun t k => Jvm.RoadKit.acmp (g := (mkF m 2 #[.val (.ref sa), .val (.ref sb), .unset] [(.ref sb), (.ref sa)])) X0 hx rfl rfl rfl (pc0 := 2) (pc' := 7) (same := false) rfl (hb hby d17_2) rfl (decide_eq_false (fun q => hne (Value.ref.inj q))) (by decide) (by decide) k) ?_
    show Go p.tables e below Pf (s₁.setTop (mkF m 7 #[.val (.ref sa), .val (.ref sb), .unset] []))
    refine Go.by' (fun t k => (XS.aloadN X0.here hx rfl (hb hby d17_7) rfl rfl k)) ?_
    show Go p.tables e below Pf (s₁.setTop (mkF m 8 #[.val (.ref sa), .val (.ref sb), .unset] [(.ref sb)]))
    obtain ⟨T82, X82, e82, st82⟩ := instY X0 hx hZ hown hw44 e0 (Ins.self EB) (g := (mkF m 8 #[.val (.ref sa), .val (.ref sb), .unset] [(.ref sb)])) rfl rfl (hb hby d17_8)
    refine Go.by' st82 ?_
    show Go p.tables e below Pf (T82.setTop (mkF m 11 #[.val (.ref sa), .val (.ref sb), .unset] [(.int (1 : Int32))]))
    refine Go.by' (fun t k => (XS.ifNo X82.here hx rfl (hb hby d17_11) rfl ((if0 _ _).trans (feq (by decide)).1) (XS.aloadN X82.here hx rfl (hb hby d17_14) rfl rfl k))) ?_
    show Go p.tables e below Pf (T82.setTop (mkF m 15 #[.val (.ref sa), .val (.ref sb), .unset] [(.ref sb)]))
    obtain ⟨T83, X83, e83, st83⟩ := castY X82 hx hZ hown hw44 e82 (Ins.self EB) (g := (mkF m 15 #[.val (.ref sa), .val (.ref sb), .unset] [(.ref sb)])) rfl rfl (hb hby d17_15)
    refine Go.by' st83 ?_
    show Go p.tables e below Pf (T83.setTop (mkF m 18 #[.val (.ref sa), .val (.ref sb), .unset] [(.ref sb)]))
    refine Go.by' (fun t k => (XS.astoreN X83.here hx rfl (hb hby d17_18) rfl rfl (l' := #[.val (.ref sa), .val (.ref sb), .val (.ref sb)]) rfl k)) ?_
    show Go p.tables e below Pf (T83.setTop (mkF m 19 #[.val (.ref sa), .val (.ref sb), .val (.ref sb)] []))
    obtain ⟨T84, X84, e84, st84⟩ := getS2 X83 hx hZ hown (host := "") (Or.inl hw26) Via.refl e83 (G.1.ext O0.2) (g := (mkF m 19 #[.val (.ref sa), .val (.ref sb), .val (.ref sb)] [])) rfl (hb hby d17_19)
    refine Go.by' st84 ?_
    show Go p.tables e below Pf (T84.setTop (mkF m 22 #[.val (.ref sa), .val (.ref sb), .val (.ref sb)] [(.int vcs)]))
    refine Go.by' (fun t k => (XS.ifNo X84.here hx rfl (hb hby d17_22) rfl ((if0 _ _).trans (feq G.2).1) (XS.aloadN X84.here hx rfl (hb hby d17_25) rfl rfl k))) ?_
    show Go p.tables e below Pf (T84.setTop (mkF m 26 #[.val (.ref sa), .val (.ref sb), .val (.ref sb)] [(.ref sa)]))
    obtain ⟨T85, X85, e85, st85⟩ := getF X84 hx hZ hown (host := "") (Or.inl hw25) Via.refl e84 CA (g := (mkF m 26 #[.val (.ref sa), .val (.ref sb), .val (.ref sb)] [(.ref sa)])) rfl rfl (hb hby d17_26)
    refine Go.by' st85 ?_
    show Go p.tables e below Pf (T85.setTop (mkF m 29 #[.val (.ref sa), .val (.ref sb), .val (.ref sb)] [(.int (0 : Int32))]))
    refine Go.by' (fun t k => (XS.aloadN X85.here hx rfl (hb hby d17_29) rfl rfl k)) ?_
    show Go p.tables e below Pf (T85.setTop (mkF m 30 #[.val (.ref sa), .val (.ref sb), .val (.ref sb)] [(.ref sb), (.int (0 : Int32))]))
    obtain ⟨T86, X86, e86, st86⟩ := getF X85 hx hZ hown (host := "") (Or.inl hw25) Via.refl e85 CB (g := (mkF m 30 #[.val (.ref sa), .val (.ref sb), .val (.ref sb)] [(.ref sb), (.int (0 : Int32))])) rfl rfl (hb hby d17_30)
    refine Go.by' st86 ?_
    show Go p.tables e below Pf (T86.setTop (mkF m 33 #[.val (.ref sa), .val (.ref sb), .val (.ref sb)] [(.int (0 : Int32)), (.int (0 : Int32))]))
    refine Go.by' (fun t k => (XS.icmpNo X86.here hx rfl (hb hby d17_33) rfl (teq (by decide)).2 (XS.aloadN X86.here hx rfl (hb hby d17_36) rfl rfl k))) ?_
    show Go p.tables e below Pf (T86.setTop (mkF m 37 #[.val (.ref sa), .val (.ref sb), .val (.ref sb)] [(.ref sa)]))
    obtain ⟨T87, X87, e87, st87⟩ := getF X86 hx hZ hown (host := "") (Or.inl hw24) Via.refl e86 FA (g := (mkF m 37 #[.val (.ref sa), .val (.ref sb), .val (.ref sb)] [(.ref sa)])) rfl rfl (hb hby d17_37)
    refine Go.by' st87 ?_
    show Go p.tables e below Pf (T87.setTop (mkF m 40 #[.val (.ref sa), .val (.ref sb), .val (.ref sb)] [(.ref va)]))
    refine Go.by' (fun t k => (XS.aloadN X87.here hx rfl (hb hby d17_40) rfl rfl k)) ?_
    show Go p.tables e below Pf (T87.setTop (mkF m 41 #[.val (.ref sa), .val (.ref sb), .val (.ref sb)] [(.ref sb), (.ref va)]))
    obtain ⟨T88, X88, e88, st88⟩ := getF X87 hx hZ hown (host := "") (Or.inl hw24) Via.refl e87 FB (g := (mkF m 41 #[.val (.ref sa), .val (.ref sb), .val (.ref sb)] [(.ref sb), (.ref va)])) rfl rfl (hb hby d17_41)
    refine Go.by' st88 ?_
    show Go p.tables e below Pf (T88.setTop (mkF m 44 #[.val (.ref sa), .val (.ref sb), .val (.ref sb)] [(.ref vb), (.ref va)]))
    obtain ⟨_, _, ⟨T89, L89, k89, n89⟩, -, X89, ⟨Lc89, hQ89, l89, y89, z89⟩, st89⟩ := Jvm.LawKit.callS X88 hx (y := (⟨"java/lang/StringLatin1", "equals", "([B[B)Z"⟩ : MethodName)) hown (mvT hZ hw93) (mvT hZ hw94) (mvT hZ hw42) (mvT hZ hw95) (by decide) (backOf (W := 0) (rmLS_1 l Z a0 hw [] vcs G va vb ka kb y0 h0 n0 O0 VA VB) hZ hw95 hw42 (by decide) (by decide)) (g := (mkF m 44 #[.val (.ref sa), .val (.ref sb), .val (.ref sb)] [(.ref vb), (.ref va)])) rfl (by rw [hml]; rfl) (argsL := [(.ref va), (.ref vb)]) (rest := []) (lenOf pd_7 rfl) rfl (by show 2 * 0 + _ ≤ _; exact Nat.le_of_eq rfl) (hb hby d17_44) (fun _ _ => ⟨rfl, e88, (by decide : 0 + 0 ≤ _), (by decide : 0 + 0 ≤ _)⟩)
    dsimp only [Pt.U, Pt.locs, Pt.cells, Pt.slots] at X89 l89 y89 z89 st89 hQ89
    subst l89 y89 z89
    obtain ⟨r_89, rfl, rfl, e89, r89_0⟩ := hQ89
    try replace X89 := own_nil X89
    refine Go.by' st89 ?_
    rcases r89_0 with ⟨hq, hz⟩ | ⟨hq, hz⟩
    · subst hz
      show Go p.tables e below Pf (T89.setTop (mkF m 47 #[.val (.ref sa), .val (.ref sb), .val (.ref sb)] [(.int (1 : Int32))]))
      refine Go.by' (fun t k => (XS.ifNo X89.here hx rfl (hb hby d17_47) rfl ((if0 _ _).trans (feq (by decide)).1) (XS.iconst X89.here hx rfl (hb hby d17_50) (XS.goto X89.here hx rfl (pc0 := 51) (pc' := 55) rfl (hb hby d17_51) (by decide) (by decide) k)))) ?_
      show Go p.tables e below Pf (T89.setTop (mkF m 55 #[.val (.ref sa), .val (.ref sb), .val (.ref sb)] [(.int (1 : Int32))]))
      rw [hPf]
      exact Go.retI' X89 hx hret hlk (by simp) rfl (hb hby d17_55) (by decide) (by decide) ⟨(1 : Int32), rfl, rfl, e89, (Or.inl ⟨by rw [← hq], rfl⟩)⟩
    · subst hz
      show Go p.tables e below Pf (T89.setTop (mkF m 47 #[.val (.ref sa), .val (.ref sb), .val (.ref sb)] [(.int (0 : Int32))]))
      refine Go.by' (fun t k => (XS.ifYes X89.here hx rfl (pc0 := 47) (pc' := 54) rfl (hb hby d17_47) rfl ((if0 _ _).trans (teq (by decide)).1) (by decide) (by decide) (XS.iconst X89.here hx rfl (hb hby d17_54) k))) ?_
      show Go p.tables e below Pf (T89.setTop (mkF m 55 #[.val (.ref sa), .val (.ref sb), .val (.ref sb)] [(.int (0 : Int32))]))
      rw [hPf]
      exact Go.retI' X89 hx hret hlk (by simp) rfl (hb hby d17_55) (by decide) (by decide) ⟨(0 : Int32), rfl, rfl, e89, (Or.inr ⟨fun q => hq (by simpa using q.symm), rfl⟩)⟩
  · show Go p.tables e below Pf (s₁.setTop (mkF m 0 #[.val (.ref sa), .val (.ref sb), .unset] []))
    refine Go.by' (fun t k => (XS.aloadN X0.here hx rfl (hb hby d17_0) rfl rfl (XS.aloadN X0.here hx rfl (hb hby d17_1) rfl rfl k))) ?_
    show Go p.tables e below Pf (s₁.setTop (mkF m 2 #[.val (.ref sa), .val (.ref sb), .unset] [(.ref sb), (.ref sa)]))
    refine Go.by' (fun t k => Jvm.RoadKit.acmp (g := (mkF m 2 #[.val (.ref sa), .val (.ref sb), .unset] [(.ref sb), (.ref sa)])) X0 hx rfl rfl rfl (pc0 := 2) (pc' := 7) (same := false) rfl (hb hby d17_2) rfl (decide_eq_false (fun q => hne (Value.ref.inj q))) (by decide) (by decide) k) ?_
    show Go p.tables e below Pf (s₁.setTop (mkF m 7 #[.val (.ref sa), .val (.ref sb), .unset] []))
    refine Go.by' (fun t k => (XS.aloadN X0.here hx rfl (hb hby d17_7) rfl rfl k)) ?_
    show Go p.tables e below Pf (s₁.setTop (mkF m 8 #[.val (.ref sa), .val (.ref sb), .unset] [(.ref sb)]))
    obtain ⟨T90, X90, e90, st90⟩ := instY X0 hx hZ hown hw44 e0 (Ins.self EB) (g := (mkF m 8 #[.val (.ref sa), .val (.ref sb), .unset] [(.ref sb)])) rfl rfl (hb hby d17_8)
    refine Go.by' st90 ?_
    show Go p.tables e below Pf (T90.setTop (mkF m 11 #[.val (.ref sa), .val (.ref sb), .unset] [(.int (1 : Int32))]))
    refine Go.by' (fun t k => (XS.ifNo X90.here hx rfl (hb hby d17_11) rfl ((if0 _ _).trans (feq (by decide)).1) (XS.aloadN X90.here hx rfl (hb hby d17_14) rfl rfl k))) ?_
    show Go p.tables e below Pf (T90.setTop (mkF m 15 #[.val (.ref sa), .val (.ref sb), .unset] [(.ref sb)]))
    obtain ⟨T91, X91, e91, st91⟩ := castY X90 hx hZ hown hw44 e90 (Ins.self EB) (g := (mkF m 15 #[.val (.ref sa), .val (.ref sb), .unset] [(.ref sb)])) rfl rfl (hb hby d17_15)
    refine Go.by' st91 ?_
    show Go p.tables e below Pf (T91.setTop (mkF m 18 #[.val (.ref sa), .val (.ref sb), .unset] [(.ref sb)]))
    refine Go.by' (fun t k => (XS.astoreN X91.here hx rfl (hb hby d17_18) rfl rfl (l' := #[.val (.ref sa), .val (.ref sb), .val (.ref sb)]) rfl k)) ?_
    show Go p.tables e below Pf (T91.setTop (mkF m 19 #[.val (.ref sa), .val (.ref sb), .val (.ref sb)] []))
    obtain ⟨T92, X92, e92, st92⟩ := getS2 X91 hx hZ hown (host := "") (Or.inl hw26) Via.refl e91 (G.1.ext O0.2) (g := (mkF m 19 #[.val (.ref sa), .val (.ref sb), .val (.ref sb)] [])) rfl (hb hby d17_19)
    refine Go.by' st92 ?_
    show Go p.tables e below Pf (T92.setTop (mkF m 22 #[.val (.ref sa), .val (.ref sb), .val (.ref sb)] [(.int vcs)]))
    refine Go.by' (fun t k => (XS.ifNo X92.here hx rfl (hb hby d17_22) rfl ((if0 _ _).trans (feq G.2).1) (XS.aloadN X92.here hx rfl (hb hby d17_25) rfl rfl k))) ?_
    show Go p.tables e below Pf (T92.setTop (mkF m 26 #[.val (.ref sa), .val (.ref sb), .val (.ref sb)] [(.ref sa)]))
    obtain ⟨T93, X93, e93, st93⟩ := getF X92 hx hZ hown (host := "") (Or.inl hw25) Via.refl e92 CA (g := (mkF m 26 #[.val (.ref sa), .val (.ref sb), .val (.ref sb)] [(.ref sa)])) rfl rfl (hb hby d17_26)
    refine Go.by' st93 ?_
    show Go p.tables e below Pf (T93.setTop (mkF m 29 #[.val (.ref sa), .val (.ref sb), .val (.ref sb)] [(.int (0 : Int32))]))
    refine Go.by' (fun t k => (XS.aloadN X93.here hx rfl (hb hby d17_29) rfl rfl k)) ?_
    show Go p.tables e below Pf (T93.setTop (mkF m 30 #[.val (.ref sa), .val (.ref sb), .val (.ref sb)] [(.ref sb), (.int (0 : Int32))]))
    obtain ⟨T94, X94, e94, st94⟩ := getF X93 hx hZ hown (host := "") (Or.inl hw25) Via.refl e93 CB (g := (mkF m 30 #[.val (.ref sa), .val (.ref sb), .val (.ref sb)] [(.ref sb), (.int (0 : Int32))])) rfl rfl (hb hby d17_30)
    refine Go.by' st94 ?_
    show Go p.tables e below Pf (T94.setTop (mkF m 33 #[.val (.ref sa), .val (.ref sb), .val (.ref sb)] [(.int (0 : Int32)), (.int (0 : Int32))]))
    refine Go.by' (fun t k => (XS.icmpNo X94.here hx rfl (hb hby d17_33) rfl (teq (by decide)).2 (XS.aloadN X94.here hx rfl (hb hby d17_36) rfl rfl k))) ?_
    show Go p.tables e below Pf (T94.setTop (mkF m 37 #[.val (.ref sa), .val (.ref sb), .val (.ref sb)] [(.ref sa)]))
    obtain ⟨T95, X95, e95, st95⟩ := getF X94 hx hZ hown (host := "") (Or.inl hw24) Via.refl e94 FA (g := (mkF m 37 #[.val (.ref sa), .val (.ref sb), .val (.ref sb)] [(.ref sa)])) rfl rfl (hb hby d17_37)
    refine Go.by' st95 ?_
    show Go p.tables e below Pf (T95.setTop (mkF m 40 #[.val (.ref sa), .val (.ref sb), .val (.ref sb)] [(.ref va)]))
    refine Go.by' (fun t k => (XS.aloadN X95.here hx rfl (hb hby d17_40) rfl rfl k)) ?_
    show Go p.tables e below Pf (T95.setTop (mkF m 41 #[.val (.ref sa), .val (.ref sb), .val (.ref sb)] [(.ref sb), (.ref va)]))
    obtain ⟨T96, X96, e96, st96⟩ := getF X95 hx hZ hown (host := "") (Or.inl hw24) Via.refl e95 FB (g := (mkF m 41 #[.val (.ref sa), .val (.ref sb), .val (.ref sb)] [(.ref sb), (.ref va)])) rfl rfl (hb hby d17_41)
    refine Go.by' st96 ?_
    show Go p.tables e below Pf (T96.setTop (mkF m 44 #[.val (.ref sa), .val (.ref sb), .val (.ref sb)] [(.ref vb), (.ref va)]))
    obtain ⟨_, _, ⟨T97, L97, k97, n97⟩, -, X97, ⟨Lc97, hQ97, l97, y97, z97⟩, st97⟩ := Jvm.LawKit.callS X96 hx (y := (⟨"java/lang/StringLatin1", "equals", "([B[B)Z"⟩ : MethodName)) hown (mvT hZ hw93) (mvT hZ hw94) (mvT hZ hw42) (mvT hZ hw95) (by decide) (backOf (W := 0) (rmLS_2 l Z a0 hw [] vcs G va vb ka kb y0 y1 h0 n0 O0 VA VB) hZ hw95 hw42 (by decide) (by decide)) (g := (mkF m 44 #[.val (.ref sa), .val (.ref sb), .val (.ref sb)] [(.ref vb), (.ref va)])) rfl (by rw [hml]; rfl) (argsL := [(.ref va), (.ref vb)]) (rest := []) (lenOf pd_7 rfl) rfl (by show 2 * 0 + _ ≤ _; exact Nat.le_of_eq rfl) (hb hby d17_44) (fun _ _ => ⟨rfl, e96, (by decide : 0 + 0 ≤ _), (by decide : 0 + 0 ≤ _)⟩)
    dsimp only [Pt.U, Pt.locs, Pt.cells, Pt.slots] at X97 l97 y97 z97 st97 hQ97
    subst l97 y97 z97
    obtain ⟨rfl, rfl, e97⟩ := hQ97
    try replace X97 := own_nil X97
    refine Go.by' st97 ?_
    show Go p.tables e below Pf (T97.setTop (mkF m 47 #[.val (.ref sa), .val (.ref sb), .val (.ref sb)] [(.int (0 : Int32))]))
    refine Go.by' (fun t k => (XS.ifYes X97.here hx rfl (pc0 := 47) (pc' := 54) rfl (hb hby d17_47) rfl ((if0 _ _).trans (teq (by decide)).1) (by decide) (by decide) (XS.iconst X97.here hx rfl (hb hby d17_54) k))) ?_
    show Go p.tables e below Pf (T97.setTop (mkF m 55 #[.val (.ref sa), .val (.ref sb), .val (.ref sb)] [(.int (0 : Int32))]))
    rw [hPf]
    exact Go.retI' X97 hx hret hlk (by simp) rfl (hb hby d17_55) (by decide) (by decide) ⟨(0 : Int32), rfl, rfl, e97, (Or.inr ⟨by simp, rfl⟩)⟩
theorem d1_0 : decode method_2_code 0 = .ok (.iload_n 0, 1) := by decide +kernel
theorem d1_1 : decode method_2_code 1 = .ok (.iconst 3, 1) := by decide +kernel
theorem d1_2 : decode method_2_code 2 = .ok (.iand, 1) := by decide +kernel
theorem d1_3 : decode method_2_code 3 = .ok (.istore_n 1, 1) := by decide +kernel
theorem d1_4 : decode method_2_code 4 = .ok (.iload_n 0, 1) := by decide +kernel
theorem d1_5 : decode method_2_code 5 = .ok (.iconst 2, 1) := by decide +kernel
theorem d1_6 : decode method_2_code 6 = .ok (.iushr, 1) := by decide +kernel
theorem d1_7 : decode method_2_code 7 = .ok (.sipush 255, 3) := by decide +kernel
theorem d1_10 : decode method_2_code 10 = .ok (.iand, 1) := by decide +kernel
theorem d1_11 : decode method_2_code 11 = .ok (.i2c, 1) := by decide +kernel
theorem d1_12 : decode method_2_code 12 = .ok (.istore_n 2, 1) := by decide +kernel
theorem d1_13 : decode method_2_code 13 = .ok (.iload_n 0, 1) := by decide +kernel
theorem d1_14 : decode method_2_code 14 = .ok (.bipush 10, 2) := by decide +kernel
theorem d1_16 : decode method_2_code 16 = .ok (.iushr, 1) := by decide +kernel
theorem d1_17 : decode method_2_code 17 = .ok (.sipush 255, 3) := by decide +kernel
theorem d1_20 : decode method_2_code 20 = .ok (.iand, 1) := by decide +kernel
theorem d1_21 : decode method_2_code 21 = .ok (.i2c, 1) := by decide +kernel
theorem d1_22 : decode method_2_code 22 = .ok (.istore_n 3, 1) := by decide +kernel
theorem d1_23 : decode method_2_code 23 = .ok (.iload_n 1, 1) := by decide +kernel
theorem d1_24 : decode method_2_code 24 = .ok (.ifCond .ne 14, 3) := by decide +kernel
theorem d1_27 : decode method_2_code 27 = .ok (.new 7, 3) := by decide +kernel
theorem d1_30 : decode method_2_code 30 = .ok (.dup, 1) := by decide +kernel
theorem d1_31 : decode method_2_code 31 = .ok (.iconst 0, 1) := by decide +kernel
theorem d1_32 : decode method_2_code 32 = .ok (.newarray .char, 2) := by decide +kernel
theorem d1_34 : decode method_2_code 34 = .ok (.invokespecial 9, 3) := by decide +kernel
theorem pd_8 : parseMethodDescriptor "([C)V" = some ⟨[(.array .char)], none⟩ := by decide +kernel
theorem d1_37 : decode method_2_code 37 = .ok (.areturn, 1) := by decide +kernel
theorem d1_38 : decode method_2_code 38 = .ok (.iload_n 1, 1) := by decide +kernel
theorem d1_39 : decode method_2_code 39 = .ok (.iconst 1, 1) := by decide +kernel
theorem d1_40 : decode method_2_code 40 = .ok (.if_icmp .ne 8, 3) := by decide +kernel
theorem d1_43 : decode method_2_code 43 = .ok (.iload_n 2, 1) := by decide +kernel
theorem d1_44 : decode method_2_code 44 = .ok (.invokestatic 12, 3) := by decide +kernel
theorem pd_9 : parseMethodDescriptor "(C)Ljava/lang/String;" = some ⟨[.char], some (.object "java/lang/String")⟩ := by decide +kernel
theorem d1_47 : decode method_2_code 47 = .ok (.areturn, 1) := by decide +kernel
theorem d1_48 : decode method_2_code 48 = .ok (.iload_n 1, 1) := by decide +kernel
theorem d1_49 : decode method_2_code 49 = .ok (.iconst 2, 1) := by decide +kernel
theorem d1_50 : decode method_2_code 50 = .ok (.if_icmp .ne 24, 3) := by decide +kernel
theorem d1_53 : decode method_2_code 53 = .ok (.iconst 1, 1) := by decide +kernel
theorem d1_54 : decode method_2_code 54 = .ok (.newarray .char, 2) := by decide +kernel
theorem d1_56 : decode method_2_code 56 = .ok (.astore 4, 2) := by decide +kernel
theorem d1_58 : decode method_2_code 58 = .ok (.aload 4, 2) := by decide +kernel
theorem d1_60 : decode method_2_code 60 = .ok (.iconst 0, 1) := by decide +kernel
theorem d1_61 : decode method_2_code 61 = .ok (.bipush 42, 2) := by decide +kernel
theorem d1_63 : decode method_2_code 63 = .ok (.castore, 1) := by decide +kernel
theorem d1_64 : decode method_2_code 64 = .ok (.new 7, 3) := by decide +kernel
theorem d1_67 : decode method_2_code 67 = .ok (.dup, 1) := by decide +kernel
theorem d1_68 : decode method_2_code 68 = .ok (.aload 4, 2) := by decide +kernel
theorem d1_70 : decode method_2_code 70 = .ok (.invokespecial 9, 3) := by decide +kernel
theorem d1_73 : decode method_2_code 73 = .ok (.areturn, 1) := by decide +kernel
theorem d1_74 : decode method_2_code 74 = .ok (.iconst 2, 1) := by decide +kernel
theorem d1_75 : decode method_2_code 75 = .ok (.newarray .char, 2) := by decide +kernel
theorem d1_77 : decode method_2_code 77 = .ok (.astore 4, 2) := by decide +kernel
theorem d1_79 : decode method_2_code 79 = .ok (.aload 4, 2) := by decide +kernel
theorem d1_81 : decode method_2_code 81 = .ok (.iconst 0, 1) := by decide +kernel
theorem d1_82 : decode method_2_code 82 = .ok (.iload_n 2, 1) := by decide +kernel
theorem d1_83 : decode method_2_code 83 = .ok (.castore, 1) := by decide +kernel
theorem d1_84 : decode method_2_code 84 = .ok (.aload 4, 2) := by decide +kernel
theorem d1_86 : decode method_2_code 86 = .ok (.iconst 1, 1) := by decide +kernel
theorem d1_87 : decode method_2_code 87 = .ok (.iload_n 3, 1) := by decide +kernel
theorem d1_88 : decode method_2_code 88 = .ok (.castore, 1) := by decide +kernel
theorem d1_89 : decode method_2_code 89 = .ok (.new 7, 3) := by decide +kernel
theorem d1_92 : decode method_2_code 92 = .ok (.dup, 1) := by decide +kernel
theorem d1_93 : decode method_2_code 93 = .ok (.aload 4, 2) := by decide +kernel
theorem d1_95 : decode method_2_code 95 = .ok (.invokespecial 9, 3) := by decide +kernel
theorem d1_98 : decode method_2_code 98 = .ok (.areturn, 1) := by decide +kernel
theorem pn_1 : plainName "com/example/meterline/meterline/core/EndDeviceEventTypeIsSpecificPinLaw" = true := by first | (simp [plainName, overriddenIn]; done) | decide +kernel
set_option maxHeartbeats 4000000 in
theorem ef_rmPart (m : MethodId) {ix : Int32} : entryFrame m #[(.int ix)] 5 = mkF m 0 #[.val (.int ix), .unset, .unset, .unset, .unset] [] := by first | (simp [entryFrame, mkF, argsToLocals, Value.category]; done) | rfl
def QrmPart (Z : State) (vcs : Int32) (ix : Int32) (h0 : Heap) (n0 : Nat) (v : Option Value) (h : Heap) (vm : Vm) (L : List Loc) : Prop := ∃ (r : Addr) (rb : Addr) (kb : ClassId) (zs : Int32) (vsr : (List Value)), (v = some (.ref r)) ∧ (Fr n0 L) ∧ (Keep h0 h []) ∧ (Exa Z h r "java/lang/String") ∧ (h0.size ≤ r) ∧ (Fld Z h r "java/lang/String" "value" "[B" (.ref rb)) ∧ (Fld Z h r "java/lang/String" "coder" "B" (.int (0 : Int32))) ∧ (Arv Z h rb kb .byte zs vsr (.int (0 : Int32))) ∧ (Safe Z consts_1 vm h r) ∧ (Knd zs vsr) ∧ (vsr = [(.int (42 : Int32))] ↔ ((ix &&& (3 : Int32)) = (2 : Int32) ∨ ((ix &&& (3 : Int32)) = (1 : Int32) ∧ (((ix.toUInt32 >>> ((2 : Int32) &&& 31).toUInt32).toInt32) &&& (255 : Int32)) = (42 : Int32))))
set_option maxRecDepth 65536 in
set_option maxHeartbeats 40000000 in
theorem rmPart (l : Launch) (Z : State) (a0 : Array Value) (hw : ∀ d ∈ tables_1, d.before a0 Z = true) (ws : List Jvm.Cond) (vcs : Int32) (G : Gh Z vcs) (ix : Int32) (h0 : Heap) (n0 : Nat) (O0 : Old Z n0 h0) :
    MetFree l (⟨"com/example/meterline/meterline/core/EndDeviceEventTypeIsSpecificPinLaw", "part", "(I)Ljava/lang/String;"⟩ : MethodName) (head1 (Jvm.Cond.code (⟨"com/example/meterline/meterline/core/EndDeviceEventTypeIsSpecificPinLaw", "part", "(I)Ljava/lang/String;"⟩ : MethodName) method_2_code 5 (some (.object "java/lang/String")) :: ws) ({ frames := 4, cells := 6, slots := 12, locals := 66 } : Room)) (fun aa' UU' => aa' = #[(.int ix)] ∧ Z.Warmed39 UU'.vm ∧ UU'.heap = h0 ∧ CHv Z consts_1 UU'.vm h0 ∧ ∀ x ∈ ([] : List Addr), Safe Z consts_1 UU'.vm h0 x) (fun _ _ _ _ _ => True) (fun _ UU' oo' VV' => ∃ v' L', oo' = .returned v' ∧ QrmPart Z vcs ix h0 n0 v' VV'.heap VV'.vm L' ∧ CHr Z consts_1 UU'.vm UU'.heap VV'.vm VV'.heap ∧ ReturnedEndW UU' oo' VV' L' ({ frames := 4, cells := 6, slots := 12, locals := 66 } : Room).cells ({ frames := 4, cells := 6, slots := 12, locals := 66 } : Room).slots) := by
  refine MetFree.of_bodySF (plainFor_of_name pn_1) hisR ?_
  intro p e s m args below meth c s₁ Bd hml0 hP hK
  obtain ⟨rfl, hZ, hh, hCH, hSf⟩ := hP
  have hx := Bd.exec
  have hby := Bd.bytes
  have hlk := Bd.notSynchronized
  have hml : c.maxLocals = 5 := hml0
  have hown : s.vm.findClass "com/example/meterline/meterline/core/EndDeviceEventTypeIsSpecificPinLaw" = some m.cls := findClass_of_methodNamed Bd.named
  have hnm := (name_of_methodNamed Bd.named Bd.method).1
  have hret := Bd.returns
  have X0 : Stand p l e ({ frames := 4, cells := 6, slots := 12, locals := 66 } : Room) (s.setVm s.vm) m #[(.int ix)] below meth c s₁ [] 0 0 := Stand.of_body Bd
  have e0 : s₁.heap = h0 := by rw [← hh, Bd.state]; rfl
  have N0 := Fr.nil n0
  have KC0 : Keep h0 h0 [] := Keep.refl _ _
  have Sb0 := Sb.start hZ hown hCH
  have hEL := own_EW hw
  have hSA := own_SA hw
  refine Go.bodyS ?_
  obtain ⟨Pf, hPf⟩ : ∃ P, P = FinS Z consts_1 s below ({ frames := 4, cells := 6, slots := 12, locals := 66 } : Room).cells ({ frames := 4, cells := 6, slots := 12, locals := 66 } : Room).slots (QrmPart Z vcs ix h0 n0) := ⟨_, rfl⟩
  rw [← hPf]
  refine Go.cast (ef_rmPart m) ?_
  have hw4 := (hw _ (List.mem_of_getElem? (i := 4) rfl))
  have hw5 := (hw _ (List.mem_of_getElem? (i := 5) rfl))
  have hw6 := (hw _ (List.mem_of_getElem? (i := 6) rfl))
  have hw7 := (hw _ (List.mem_of_getElem? (i := 7) rfl))
  have hw8 := (hw _ (List.mem_of_getElem? (i := 8) rfl))
  have hw9 := (hw _ (List.mem_of_getElem? (i := 9) rfl))
  have hw10 := (hw _ (List.mem_of_getElem? (i := 10) rfl))
  have hw20 := (hw _ (List.mem_of_getElem? (i := 20) rfl))
  have hw21 := (hw _ (List.mem_of_getElem? (i := 21) rfl))
  have hw37 := (hw _ (List.mem_of_getElem? (i := 37) rfl))
  have hw38 := (hw _ (List.mem_of_getElem? (i := 38) rfl))
  have hw39 := (hw _ (List.mem_of_getElem? (i := 39) rfl))
  show Go p.tables e below Pf (s₁.setTop (mkF m 0 #[.val (.int ix), .unset, .unset, .unset, .unset] []))
  refine Go.by' (fun t k => (XS.iloadN X0.here hx rfl (hb hby d1_0) rfl (XS.iconst X0.here hx rfl (hb hby d1_1) (XS.iand X0.here hx rfl (hb hby d1_2) rfl (XS.istoreN X0.here hx rfl (hb hby d1_3) rfl (l' := #[.val (.int ix), .val (.int (ix &&& (3 : Int32))), .unset, .unset, .unset]) rfl (XS.iloadN X0.here hx rfl (hb hby d1_4) rfl (XS.iconst X0.here hx rfl (hb hby d1_5) k))))))) ?_
  show Go p.tables e below Pf (s₁.setTop (mkF m 6 #[.val (.int ix), .val (.int (ix &&& (3 : Int32))), .unset, .unset, .unset] [(.int (2 : Int32)), (.int ix)]))
  refine Go.by' (fun t k => (XS.iushr X0.here hx rfl (hb hby d1_6) rfl (XS.sipush X0.here hx rfl (hb hby d1_7) (XS.iand X0.here hx rfl (hb hby d1_10) rfl (XS.i2c X0.here hx rfl (hb hby d1_11) rfl k))))) ?_
  show Go p.tables e below Pf (s₁.setTop (mkF m 12 #[.val (.int ix), .val (.int (ix &&& (3 : Int32))), .unset, .unset, .unset] [(.int ((((ix.toUInt32 >>> ((2 : Int32) &&& 31).toUInt32).toInt32) &&& (255 : Int32)).toUInt32.toUInt16.toUInt32.toInt32))]))
  refine Go.castF (a := ((((ix.toUInt32 >>> ((2 : Int32) &&& 31).toUInt32).toInt32) &&& (255 : Int32)).toUInt32.toUInt16.toUInt32.toInt32)) (b := (((ix.toUInt32 >>> ((2 : Int32) &&& 31).toUInt32).toInt32) &&& (255 : Int32))) (fun z' : Int32 => mkF m 12 #[.val (.int ix), .val (.int (ix &&& (3 : Int32))), .unset, .unset, .unset] [(.int z')]) (i2c_mask _) ?_
  show Go p.tables e below Pf (s₁.setTop (mkF m 12 #[.val (.int ix), .val (.int (ix &&& (3 : Int32))), .unset, .unset, .unset] [(.int (((ix.toUInt32 >>> ((2 : Int32) &&& 31).toUInt32).toInt32) &&& (255 : Int32)))]))
  refine Go.by' (fun t k => (XS.istoreN X0.here hx rfl (hb hby d1_12) rfl (l' := #[.val (.int ix), .val (.int (ix &&& (3 : Int32))), .val (.int (((ix.toUInt32 >>> ((2 : Int32) &&& 31).toUInt32).toInt32) &&& (255 : Int32))), .unset, .unset]) rfl (XS.iloadN X0.here hx rfl (hb hby d1_13) rfl (XS.bipush X0.here hx rfl (hb hby d1_14) (XS.iushr X0.here hx rfl (hb hby d1_16) rfl (XS.sipush X0.here hx rfl (hb hby d1_17) (XS.iand X0.here hx rfl (hb hby d1_20) rfl k))))))) ?_
  show Go p.tables e below Pf (s₁.setTop (mkF m 21 #[.val (.int ix), .val (.int (ix &&& (3 : Int32))), .val (.int (((ix.toUInt32 >>> ((2 : Int32) &&& 31).toUInt32).toInt32) &&& (255 : Int32))), .unset, .unset] [(.int (((ix.toUInt32 >>> ((10 : Int32) &&& 31).toUInt32).toInt32) &&& (255 : Int32)))]))
  refine Go.by' (fun t k => (XS.i2c X0.here hx rfl (hb hby d1_21) rfl k)) ?_
  show Go p.tables e below Pf (s₁.setTop (mkF m 22 #[.val (.int ix), .val (.int (ix &&& (3 : Int32))), .val (.int (((ix.toUInt32 >>> ((2 : Int32) &&& 31).toUInt32).toInt32) &&& (255 : Int32))), .unset, .unset] [(.int ((((ix.toUInt32 >>> ((10 : Int32) &&& 31).toUInt32).toInt32) &&& (255 : Int32)).toUInt32.toUInt16.toUInt32.toInt32))]))
  refine Go.castF (a := ((((ix.toUInt32 >>> ((10 : Int32) &&& 31).toUInt32).toInt32) &&& (255 : Int32)).toUInt32.toUInt16.toUInt32.toInt32)) (b := (((ix.toUInt32 >>> ((10 : Int32) &&& 31).toUInt32).toInt32) &&& (255 : Int32))) (fun z' : Int32 => mkF m 22 #[.val (.int ix), .val (.int (ix &&& (3 : Int32))), .val (.int (((ix.toUInt32 >>> ((2 : Int32) &&& 31).toUInt32).toInt32) &&& (255 : Int32))), .unset, .unset] [(.int z')]) (i2c_mask _) ?_
  show Go p.tables e below Pf (s₁.setTop (mkF m 22 #[.val (.int ix), .val (.int (ix &&& (3 : Int32))), .val (.int (((ix.toUInt32 >>> ((2 : Int32) &&& 31).toUInt32).toInt32) &&& (255 : Int32))), .unset, .unset] [(.int (((ix.toUInt32 >>> ((10 : Int32) &&& 31).toUInt32).toInt32) &&& (255 : Int32)))]))
  refine Go.by' (fun t k => (XS.istoreN X0.here hx rfl (hb hby d1_22) rfl (l' := #[.val (.int ix), .val (.int (ix &&& (3 : Int32))), .val (.int (((ix.toUInt32 >>> ((2 : Int32) &&& 31).toUInt32).toInt32) &&& (255 : Int32))), .val (.int (((ix.toUInt32 >>> ((10 : Int32) &&& 31).toUInt32).toInt32) &&& (255 : Int32))), .unset]) rfl (XS.iloadN X0.here hx rfl (hb hby d1_23) rfl k))) ?_
  show Go p.tables e below Pf (s₁.setTop (mkF m 24 #[.val (.int ix), .val (.int (ix &&& (3 : Int32))), .val (.int (((ix.toUInt32 >>> ((2 : Int32) &&& 31).toUInt32).toInt32) &&& (255 : Int32))), .val (.int (((ix.toUInt32 >>> ((10 : Int32) &&& 31).toUInt32).toInt32) &&& (255 : Int32))), .unset] [(.int (ix &&& (3 : Int32)))]))
  by_cases hc98 : (ix &&& (3 : Int32)) = (0 : Int32)
  · refine Go.by' (fun t k => (XS.ifNo X0.here hx rfl (hb hby d1_24) rfl ((if0 _ _).trans (teq hc98).2) k)) ?_
    show Go p.tables e below Pf (s₁.setTop (mkF m 27 #[.val (.int ix), .val (.int (ix &&& (3 : Int32))), .val (.int (((ix.toUInt32 >>> ((2 : Int32) &&& 31).toUInt32).toInt32) &&& (255 : Int32))), .val (.int (((ix.toUInt32 >>> ((10 : Int32) &&& 31).toUInt32).toInt32) &&& (255 : Int32))), .unset] []))
    obtain ⟨T99, h99, X99, e99, E99, A99, D99, -, st99⟩ := newO X0 hx hZ hown hw4 hw5 hw6 e0 (g := (mkF m 27 #[.val (.int ix), .val (.int (ix &&& (3 : Int32))), .val (.int (((ix.toUInt32 >>> ((2 : Int32) &&& 31).toUInt32).toInt32) &&& (255 : Int32))), .val (.int (((ix.toUInt32 >>> ((10 : Int32) &&& 31).toUInt32).toInt32) &&& (255 : Int32))), .unset] [])) rfl (hb hby d1_27) (by decide) (by decide)
    obtain ⟨b99, g99⟩ : ∃ z, z = h0.size := ⟨_, rfl⟩
    rw [← g99] at A99 D99 st99
    refine Go.by' st99 ?_
    have Sf_b99 : Safe Z consts_1 s.vm h0 b99 := Safe.new (Nat.le_of_eq g99.symm)
    have g_b99 : n0 ≤ b99 := Nat.le_trans (own_le O0) (Nat.le_of_eq g99.symm)
    have sz_b99 : h0.size ≤ b99 := Nat.le_trans KC0.1 (Nat.le_of_eq g99.symm)
    have Sb99 := Sb0.ext E99
    have O99 := O0.ext E99
    have KC99 : Keep h0 h99 [] := KC0.ext E99
    have Fn99_20 : Fld Z h99 b99 "java/lang/String" "value" "[B" Value.null := D99 (Or.inr hw20) (ty := (.array .byte)) (by decide)
    have Fn99_21 : Fld Z h99 b99 "java/lang/String" "coder" "B" (Value.int (0 : Int32)) := D99 (Or.inr hw21) (ty := .byte) (by decide)
    show Go p.tables e below Pf (T99.setTop (mkF m 30 #[.val (.int ix), .val (.int (ix &&& (3 : Int32))), .val (.int (((ix.toUInt32 >>> ((2 : Int32) &&& 31).toUInt32).toInt32) &&& (255 : Int32))), .val (.int (((ix.toUInt32 >>> ((10 : Int32) &&& 31).toUInt32).toInt32) &&& (255 : Int32))), .unset] [(.ref b99)]))
    refine Go.by' (fun t k => (XS.dup X99.here hx rfl (hb hby d1_30) rfl rfl (XS.iconst X99.here hx rfl (hb hby d1_31) k))) ?_
    show Go p.tables e below Pf (T99.setTop (mkF m 32 #[.val (.int ix), .val (.int (ix &&& (3 : Int32))), .val (.int (((ix.toUInt32 >>> ((2 : Int32) &&& 31).toUInt32).toInt32) &&& (255 : Int32))), .val (.int (((ix.toUInt32 >>> ((10 : Int32) &&& 31).toUInt32).toInt32) &&& (255 : Int32))), .unset] [(.int (0 : Int32)), (.ref b99), (.ref b99)]))
    obtain ⟨T100, h100, k100, X100, e100, E100, A100, st100⟩ := newP (aty := .char) X99 hx hZ hw7 e99 (g := (mkF m 32 #[.val (.int ix), .val (.int (ix &&& (3 : Int32))), .val (.int (((ix.toUInt32 >>> ((2 : Int32) &&& 31).toUInt32).toInt32) &&& (255 : Int32))), .val (.int (((ix.toUInt32 >>> ((10 : Int32) &&& 31).toUInt32).toInt32) &&& (255 : Int32))), .unset] [(.int (0 : Int32)), (.ref b99), (.ref b99)])) rfl (hb hby d1_32) rfl (by decide) (cap := 0) (by decide) (by decide) (by decide) (by decide)
    obtain ⟨b100, g100⟩ : ∃ z, z = h99.size := ⟨_, rfl⟩
    rw [← g100] at A100 st100
    refine Go.by' st100 ?_
    have Sf_b100 : Safe Z consts_1 s.vm h99 b100 := Safe.new (Nat.le_of_eq g100.symm)
    have g_b100 : n0 ≤ b100 := Nat.le_trans (own_le O99) (Nat.le_of_eq g100.symm)
    have sz_b100 : h0.size ≤ b100 := Nat.le_trans KC99.1 (Nat.le_of_eq g100.symm)
    have Sb100 := Sb99.ext E100
    have O100 := O99.ext E100
    have KC100 : Keep h0 h100 [] := KC99.ext E100
    have V100 : Arv Z h100 b100 k100 .char (0 : Int32) [] (Value.int (0 : Int32)) := (Arv.new A100 (by decide)).pad (pad_rep [] (Value.int (0 : Int32)) 0)
    show Go p.tables e below Pf (T100.setTop (mkF m 34 #[.val (.int ix), .val (.int (ix &&& (3 : Int32))), .val (.int (((ix.toUInt32 >>> ((2 : Int32) &&& 31).toUInt32).toInt32) &&& (255 : Int32))), .val (.int (((ix.toUInt32 >>> ((10 : Int32) &&& 31).toUInt32).toInt32) &&& (255 : Int32))), .unset] [(.ref b100), (.ref b99), (.ref b99)]))
    obtain ⟨_, _, ⟨T101, L101, k101, n101⟩, -, X101, Si101, Gr101, ⟨Lc101, hQ101, l101, y101, z101, A101⟩, st101⟩ := X100.specialBackS hx (y := (⟨"java/lang/String", "<init>", "([C)V"⟩ : MethodName)) rfl hown (mvT hZ hw8) (mvT hZ hw9) (mvT hZ hw10) (by decide) (own_backS (W := 1) (rmS1_0 l Z a0 hw [] vcs G b99 b100 k100 h100 n0 O100 (A99.ext E100) (Fn99_20.ext E100) (Fn99_21.ext E100) g_b99 V100) Sb100 hw10 hw6 (by decide) (by decide) hEL (allS ⟨(Nat.lt_of_lt_of_le A99.lt E100.1), (Safe.ext E100 Sb99.ch (Safe.ext E99 Sb0.ch Sf_b99))⟩ all0)) (g := (mkF m 34 #[.val (.int ix), .val (.int (ix &&& (3 : Int32))), .val (.int (((ix.toUInt32 >>> ((2 : Int32) &&& 31).toUInt32).toInt32) &&& (255 : Int32))), .val (.int (((ix.toUInt32 >>> ((10 : Int32) &&& 31).toUInt32).toInt32) &&& (255 : Int32))), .unset] [(.ref b100), (.ref b99), (.ref b99)])) rfl (by rw [hml]; rfl) (Steps.refl _) (a := b99) (argsL := [(.ref b100)]) (rest := [(.ref b99)]) (lenOf pd_8 rfl) rfl (by show 2 * 0 + _ ≤ _; exact Nat.le_of_eq rfl) (hb hby d1_34) (fun _ _ => ⟨rfl, e100, (by decide : 2 + 4 ≤ _), (by decide : 4 + 8 ≤ _)⟩)
    dsimp only [Pt.U, Pt.locs, Pt.cells, Pt.slots] at X101 l101 y101 z101 st101 hQ101 Si101 Gr101 A101
    subst l101 y101 z101
    obtain ⟨rb_101, kb_101, rfl, N101q, K101, f101_0, f101_1, f101_2, f101_3, f101_4⟩ := hQ101
    have N101 := Fr.app N0 N101q
    obtain ⟨lc101, X101, N101⟩ := own_pack X101 N101
    replace X101 := own_reb X101
    have Sb101 := Sb100.called Si101 (by rw [← e100]; exact Gr101) A101
    have hZ101 := Sb101.hZ
    have hO101 := Sb101.hO
    refine Go.by' (fun t k => st101.trans k) ?_
    have O101 := O100.keep K101 (allS g_b99 all0)
    have KC101 : Keep h0 T101.heap [] := KC100.trans K101 (allS (Or.inr sz_b99) all0)
    show Go p.tables e below Pf (T101.setTop (mkF m 37 #[.val (.int ix), .val (.int (ix &&& (3 : Int32))), .val (.int (((ix.toUInt32 >>> ((2 : Int32) &&& 31).toUInt32).toInt32) &&& (255 : Int32))), .val (.int (((ix.toUInt32 >>> ((10 : Int32) &&& 31).toUInt32).toInt32) &&& (255 : Int32))), .unset] [(.ref b99)]))
    rw [hPf]
    exact Go.retAS X101 hx hEL Sb101 rfl hh hret hlk rfl rfl (hb hby d1_37) (by decide) (by decide) ⟨b99, rb_101, kb_101, (0 : Int32), [], rfl, N101, KC101, f101_0, sz_b99, f101_1, f101_2, f101_3, ((CHv.at X101 hZ101 hEL Sb101.ch).safe (Nat.lt_of_lt_of_le A99.lt (Nat.le_trans E100.1 K101.1)) f101_4), (Or.inl ⟨rfl, rfl⟩), (own_p0 hc98 (by decide))⟩
  · refine Go.by' (fun t k => (XS.ifYes X0.here hx rfl (pc0 := 24) (pc' := 38) rfl (hb hby d1_24) rfl ((if0 _ _).trans (feq hc98).2) (by decide) (by decide) (XS.iloadN X0.here hx rfl (hb hby d1_38) rfl (XS.iconst X0.here hx rfl (hb hby d1_39) k)))) ?_
    show Go p.tables e below Pf (s₁.setTop (mkF m 40 #[.val (.int ix), .val (.int (ix &&& (3 : Int32))), .val (.int (((ix.toUInt32 >>> ((2 : Int32) &&& 31).toUInt32).toInt32) &&& (255 : Int32))), .val (.int (((ix.toUInt32 >>> ((10 : Int32) &&& 31).toUInt32).toInt32) &&& (255 : Int32))), .unset] [(.int (1 : Int32)), (.int (ix &&& (3 : Int32)))]))
    by_cases hc102 : (ix &&& (3 : Int32)) = (1 : Int32)
    · refine Go.by' (fun t k => (XS.icmpNo X0.here hx rfl (hb hby d1_40) rfl (teq hc102).2 (XS.iloadN X0.here hx rfl (hb hby d1_43) rfl k))) ?_
      show Go p.tables e below Pf (s₁.setTop (mkF m 44 #[.val (.int ix), .val (.int (ix &&& (3 : Int32))), .val (.int (((ix.toUInt32 >>> ((2 : Int32) &&& 31).toUInt32).toInt32) &&& (255 : Int32))), .val (.int (((ix.toUInt32 >>> ((10 : Int32) &&& 31).toUInt32).toInt32) &&& (255 : Int32))), .unset] [(.int (((ix.toUInt32 >>> ((2 : Int32) &&& 31).toUInt32).toInt32) &&& (255 : Int32)))]))
      obtain ⟨_, _, ⟨T103, L103, k103, n103⟩, -, X103, ⟨Lc103, hQ103, l103, y103, z103⟩, st103⟩ := Jvm.LawKit.callS X0 hx (y := (⟨"java/lang/String", "valueOf", "(C)Ljava/lang/String;"⟩ : MethodName)) hown (mvT hZ hw37) (mvT hZ hw38) (mvT hZ hw6) (mvT hZ hw39) (by decide) (backOf (W := 0) (rmVC l Z a0 hw [] vcs G ((((ix.toUInt32 >>> ((2 : Int32) &&& 31).toUInt32).toInt32) &&& (255 : Int32))) h0 n0 O0 (own_m _).2) hZ hw39 hw6 (by decide) (by decide)) (g := (mkF m 44 #[.val (.int ix), .val (.int (ix &&& (3 : Int32))), .val (.int (((ix.toUInt32 >>> ((2 : Int32) &&& 31).toUInt32).toInt32) &&& (255 : Int32))), .val (.int (((ix.toUInt32 >>> ((10 : Int32) &&& 31).toUInt32).toInt32) &&& (255 : Int32))), .unset] [(.int (((ix.toUInt32 >>> ((2 : Int32) &&& 31).toUInt32).toInt32) &&& (255 : Int32)))])) rfl (by rw [hml]; rfl) (argsL := [(.int (((ix.toUInt32 >>> ((2 : Int32) &&& 31).toUInt32).toInt32) &&& (255 : Int32)))]) (rest := []) (lenOf pd_9 rfl) rfl (by show 2 * 0 + _ ≤ _; exact Nat.le_of_eq rfl) (hb hby d1_44) (fun _ _ => ⟨rfl, e0, (by decide : 0 + 2 ≤ _), (by decide : 0 + 5 ≤ _)⟩)
      dsimp only [Pt.U, Pt.locs, Pt.cells, Pt.slots] at X103 l103 y103 z103 st103 hQ103
      subst l103 y103 z103
      obtain ⟨r_103, rb_103, kb_103, rfl, N103q, K103, f103_0, f103_1, f103_2, f103_3, f103_4, f103_5⟩ := hQ103
      have N103 := Fr.app N0 N103q
      obtain ⟨lc103, X103, N103⟩ := own_pack X103 N103
      refine Go.by' st103 ?_
      have Sf_r_103 : Safe Z consts_1 s.vm h0 r_103 := Safe.new f103_1
      have g_r_103 : n0 ≤ r_103 := Nat.le_trans (own_le O0) f103_1
      have sz_r_103 : h0.size ≤ r_103 := Nat.le_trans KC0.1 f103_1
      have Sf_rb_103 : Safe Z consts_1 s.vm h0 rb_103 := Safe.new f103_5
      have g_rb_103 : n0 ≤ rb_103 := Nat.le_trans (own_le O0) f103_5
      have sz_rb_103 : h0.size ≤ rb_103 := Nat.le_trans KC0.1 f103_5
      have Sb103 := Sb0.keep K103 sf0
      have O103 := O0.keep K103 all0
      have KC103 : Keep h0 T103.heap [] := KC0.trans K103 all0
      show Go p.tables e below Pf (T103.setTop (mkF m 47 #[.val (.int ix), .val (.int (ix &&& (3 : Int32))), .val (.int (((ix.toUInt32 >>> ((2 : Int32) &&& 31).toUInt32).toInt32) &&& (255 : Int32))), .val (.int (((ix.toUInt32 >>> ((10 : Int32) &&& 31).toUInt32).toInt32) &&& (255 : Int32))), .unset] [(.ref r_103)]))
      rw [hPf]
      exact Go.retAS X103 hx hEL Sb103 rfl hh hret hlk rfl rfl (hb hby d1_47) (by decide) (by decide) ⟨r_103, rb_103, kb_103, (1 : Int32), [(Value.int ((((ix.toUInt32 >>> ((2 : Int32) &&& 31).toUInt32).toInt32) &&& (255 : Int32)).toInt8.toInt32))], rfl, N103, KC103, f103_0, sz_r_103, f103_2, f103_3, f103_4, ((CHv.at X103 hZ hEL Sb103.ch).safe f103_0.lt (Safe.keep K103 sf0 Sb0.ch Sf_r_103)), (Or.inr (Or.inl ⟨_, rfl, rfl⟩)), (own_p1 hc102 (by decide))⟩
    · refine Go.by' (fun t k => (XS.icmpYes X0.here hx rfl (pc0 := 40) (pc' := 48) rfl (hb hby d1_40) rfl (feq hc102).2 (by decide) (by decide) (XS.iloadN X0.here hx rfl (hb hby d1_48) rfl (XS.iconst X0.here hx rfl (hb hby d1_49) k)))) ?_
      show Go p.tables e below Pf (s₁.setTop (mkF m 50 #[.val (.int ix), .val (.int (ix &&& (3 : Int32))), .val (.int (((ix.toUInt32 >>> ((2 : Int32) &&& 31).toUInt32).toInt32) &&& (255 : Int32))), .val (.int (((ix.toUInt32 >>> ((10 : Int32) &&& 31).toUInt32).toInt32) &&& (255 : Int32))), .unset] [(.int (2 : Int32)), (.int (ix &&& (3 : Int32)))]))
      by_cases hc104 : (ix &&& (3 : Int32)) = (2 : Int32)
      · refine Go.by' (fun t k => (XS.icmpNo X0.here hx rfl (hb hby d1_50) rfl (teq hc104).2 (XS.iconst X0.here hx rfl (hb hby d1_53) k))) ?_
        show Go p.tables e below Pf (s₁.setTop (mkF m 54 #[.val (.int ix), .val (.int (ix &&& (3 : Int32))), .val (.int (((ix.toUInt32 >>> ((2 : Int32) &&& 31).toUInt32).toInt32) &&& (255 : Int32))), .val (.int (((ix.toUInt32 >>> ((10 : Int32) &&& 31).toUInt32).toInt32) &&& (255 : Int32))), .unset] [(.int (1 : Int32))]))
        obtain ⟨T105, h105, k105, X105, e105, E105, A105, st105⟩ := newP (aty := .char) X0 hx hZ hw7 e0 (g := (mkF m 54 #[.val (.int ix), .val (.int (ix &&& (3 : Int32))), .val (.int (((ix.toUInt32 >>> ((2 : Int32) &&& 31).toUInt32).toInt32) &&& (255 : Int32))), .val (.int (((ix.toUInt32 >>> ((10 : Int32) &&& 31).toUInt32).toInt32) &&& (255 : Int32))), .unset] [(.int (1 : Int32))])) rfl (hb hby d1_54) rfl (by decide) (cap := 1) (by decide) (by decide) (by decide) (by decide)
        obtain ⟨b105, g105⟩ : ∃ z, z = h0.size := ⟨_, rfl⟩
        rw [← g105] at A105 st105
        refine Go.by' st105 ?_
        have Sf_b105 : Safe Z consts_1 s.vm h0 b105 := Safe.new (Nat.le_of_eq g105.symm)
        have g_b105 : n0 ≤ b105 := Nat.le_trans (own_le O0) (Nat.le_of_eq g105.symm)
        have sz_b105 : h0.size ≤ b105 := Nat.le_trans KC0.1 (Nat.le_of_eq g105.symm)
        have Sb105 := Sb0.ext E105
        have O105 := O0.ext E105
        have KC105 : Keep h0 h105 [] := KC0.ext E105
        have V105 : Arv Z h105 b105 k105 .char (1 : Int32) [(.int (0 : Int32))] (Value.int (0 : Int32)) := (Arv.new A105 (by decide)).pad (pad_rep [] (Value.int (0 : Int32)) 1)
        show Go p.tables e below Pf (T105.setTop (mkF m 56 #[.val (.int ix), .val (.int (ix &&& (3 : Int32))), .val (.int (((ix.toUInt32 >>> ((2 : Int32) &&& 31).toUInt32).toInt32) &&& (255 : Int32))), .val (.int (((ix.toUInt32 >>> ((10 : Int32) &&& 31).toUInt32).toInt32) &&& (255 : Int32))), .unset] [(.ref b105)]))
        refine Go.by' (fun t k => (XS.astore X105.here hx rfl (hb hby d1_56) rfl rfl (l' := #[.val (.int ix), .val (.int (ix &&& (3 : Int32))), .val (.int (((ix.toUInt32 >>> ((2 : Int32) &&& 31).toUInt32).toInt32) &&& (255 : Int32))), .val (.int (((ix.toUInt32 >>> ((10 : Int32) &&& 31).toUInt32).toInt32) &&& (255 : Int32))), .val (.ref b105)]) rfl (XS.aload X105.here hx rfl (hb hby d1_58) rfl rfl (XS.iconst X105.here hx rfl (hb hby d1_60) (XS.bipush X105.here hx rfl (hb hby d1_61) k))))) ?_
        show Go p.tables e below Pf (T105.setTop (mkF m 63 #[.val (.int ix), .val (.int (ix &&& (3 : Int32))), .val (.int (((ix.toUInt32 >>> ((2 : Int32) &&& 31).toUInt32).toInt32) &&& (255 : Int32))), .val (.int (((ix.toUInt32 >>> ((10 : Int32) &&& 31).toUInt32).toInt32) &&& (255 : Int32))), .val (.ref b105)] [(.int (42 : Int32)), (.int (0 : Int32)), (.ref b105)]))
        obtain ⟨cl106, Ar106, q106, S106, P106, H106, G106⟩ := (id V105)
        have hin106 : ¬ ((0 : Int32) < 0 ∨ cl106.slots.size ≤ ((0 : Int32)).toNatClampNeg) := inb_of S106 ⟨by decide, by decide⟩
        obtain ⟨T107, h107, X107, e107, W107, st107⟩ := stC X105 hx hZ e105 Ar106 (j := (0 : Int32)) hin106 (g := (mkF m 63 #[.val (.int ix), .val (.int (ix &&& (3 : Int32))), .val (.int (((ix.toUInt32 >>> ((2 : Int32) &&& 31).toUInt32).toInt32) &&& (255 : Int32))), .val (.int (((ix.toUInt32 >>> ((10 : Int32) &&& 31).toUInt32).toInt32) &&& (255 : Int32))), .val (.ref b105)] [(.int (42 : Int32)), (.int (0 : Int32)), (.ref b105)])) rfl rfl (hb hby d1_63)
        refine Go.by' st107 ?_
        rw [(by decide : nar .char (42 : Int32) = (42 : Int32))] at W107
        have V107 : Arv Z h107 b105 k105 .char (1 : Int32) [(.int (42 : Int32))] (Value.int (0 : Int32)) := Arv.set Ar106 q106 S106 P106 H106 G106 (by have q := fits_nar_char (42 : Int32); rw [(by decide : nar .char (42 : Int32) = (42 : Int32))] at q; exact q) W107 0 rfl (Nat.le_of_ble_eq_true rfl)
        have N107 := Fr.snoc X107 N0 g_b105
        obtain ⟨lc107, X107, N107⟩ := own_pack X107 N107
        have Sb107 := Sb105.wr W107 (Safe.ext E105 Sb0.ch Sf_b105)
        have O107 := O105.wr W107 g_b105
        have KC107 : Keep h0 h107 [] := KC105.wr W107 (Or.inr sz_b105)
        show Go p.tables e below Pf (T107.setTop (mkF m 64 #[.val (.int ix), .val (.int (ix &&& (3 : Int32))), .val (.int (((ix.toUInt32 >>> ((2 : Int32) &&& 31).toUInt32).toInt32) &&& (255 : Int32))), .val (.int (((ix.toUInt32 >>> ((10 : Int32) &&& 31).toUInt32).toInt32) &&& (255 : Int32))), .val (.ref b105)] []))
        obtain ⟨T108, h108, X108, e108, E108, A108, D108, -, st108⟩ := newO X107 hx hZ hown hw4 hw5 hw6 e107 (g := (mkF m 64 #[.val (.int ix), .val (.int (ix &&& (3 : Int32))), .val (.int (((ix.toUInt32 >>> ((2 : Int32) &&& 31).toUInt32).toInt32) &&& (255 : Int32))), .val (.int (((ix.toUInt32 >>> ((10 : Int32) &&& 31).toUInt32).toInt32) &&& (255 : Int32))), .val (.ref b105)] [])) rfl (hb hby d1_64) (by decide) (by decide)
        obtain ⟨b108, g108⟩ : ∃ z, z = h107.size := ⟨_, rfl⟩
        rw [← g108] at A108 D108 st108
        refine Go.by' st108 ?_
        have Sf_b108 : Safe Z consts_1 s.vm h107 b108 := Safe.new (Nat.le_of_eq g108.symm)
        have g_b108 : n0 ≤ b108 := Nat.le_trans (own_le O107) (Nat.le_of_eq g108.symm)
        have sz_b108 : h0.size ≤ b108 := Nat.le_trans KC107.1 (Nat.le_of_eq g108.symm)
        have Sb108 := Sb107.ext E108
        have O108 := O107.ext E108
        have KC108 : Keep h0 h108 [] := KC107.ext E108
        have Fn108_20 : Fld Z h108 b108 "java/lang/String" "value" "[B" Value.null := D108 (Or.inr hw20) (ty := (.array .byte)) (by decide)
        have Fn108_21 : Fld Z h108 b108 "java/lang/String" "coder" "B" (Value.int (0 : Int32)) := D108 (Or.inr hw21) (ty := .byte) (by decide)
        show Go p.tables e below Pf (T108.setTop (mkF m 67 #[.val (.int ix), .val (.int (ix &&& (3 : Int32))), .val (.int (((ix.toUInt32 >>> ((2 : Int32) &&& 31).toUInt32).toInt32) &&& (255 : Int32))), .val (.int (((ix.toUInt32 >>> ((10 : Int32) &&& 31).toUInt32).toInt32) &&& (255 : Int32))), .val (.ref b105)] [(.ref b108)]))
        refine Go.by' (fun t k => (XS.dup X108.here hx rfl (hb hby d1_67) rfl rfl (XS.aload X108.here hx rfl (hb hby d1_68) rfl rfl k))) ?_
        show Go p.tables e below Pf (T108.setTop (mkF m 70 #[.val (.int ix), .val (.int (ix &&& (3 : Int32))), .val (.int (((ix.toUInt32 >>> ((2 : Int32) &&& 31).toUInt32).toInt32) &&& (255 : Int32))), .val (.int (((ix.toUInt32 >>> ((10 : Int32) &&& 31).toUInt32).toInt32) &&& (255 : Int32))), .val (.ref b105)] [(.ref b105), (.ref b108), (.ref b108)]))
        obtain ⟨_, _, ⟨T109, L109, k109, n109⟩, -, X109, ⟨Lc109, hQ109, l109, y109, z109⟩, st109⟩ := X108.specialBack hx (y := (⟨"java/lang/String", "<init>", "([C)V"⟩ : MethodName)) rfl hown (mvT hZ hw8) (mvT hZ hw9) (mvT hZ hw10) (by decide) (backOf (W := 1) (rmS1_1 l Z a0 hw [] vcs G b108 b105 k105 ((42 : Int32)) h108 n0 O108 A108 Fn108_20 Fn108_21 g_b108 (V107.ext E108) (Ne.symm (Nat.ne_of_lt (Nat.lt_of_lt_of_le (Nat.lt_of_lt_of_le V105.lt (Nat.le_of_eq W107.size.symm)) (Nat.le_of_eq g108.symm)))) (by decide)) hZ hw10 hw6 (by decide) (by decide)) (g := (mkF m 70 #[.val (.int ix), .val (.int (ix &&& (3 : Int32))), .val (.int (((ix.toUInt32 >>> ((2 : Int32) &&& 31).toUInt32).toInt32) &&& (255 : Int32))), .val (.int (((ix.toUInt32 >>> ((10 : Int32) &&& 31).toUInt32).toInt32) &&& (255 : Int32))), .val (.ref b105)] [(.ref b105), (.ref b108), (.ref b108)])) rfl (by rw [hml]; rfl) (Steps.refl _) (a := b108) (argsL := [(.ref b105)]) (rest := [(.ref b108)]) (lenOf pd_8 rfl) rfl (by show 2 * 0 + _ ≤ _; exact Nat.le_of_eq rfl) (hb hby d1_70) (fun _ _ => ⟨rfl, e108, (by decide : 2 + 1 ≤ _), (by decide : 5 + 1 ≤ _)⟩)
        dsimp only [Pt.U, Pt.locs, Pt.cells, Pt.slots] at X109 l109 y109 z109 st109 hQ109
        subst l109 y109 z109
        obtain ⟨rb_109, kb_109, rfl, N109q, K109, f109_0, f109_1, f109_2, f109_3, f109_4⟩ := hQ109
        have N109 := Fr.app N107 N109q
        obtain ⟨lc109, X109, N109⟩ := own_pack X109 N109
        refine Go.by' (fun t k => st109.trans k) ?_
        have Sf_rb_109 : Safe Z consts_1 s.vm h108 rb_109 := Safe.new f109_4
        have g_rb_109 : n0 ≤ rb_109 := Nat.le_trans (own_le O108) f109_4
        have sz_rb_109 : h0.size ≤ rb_109 := Nat.le_trans KC108.1 f109_4
        have Sb109 := Sb108.keep K109 (sfS (Safe.ext E108 Sb107.ch Sf_b108) sf0)
        have O109 := O108.keep K109 (allS g_b108 all0)
        have KC109 : Keep h0 T109.heap [] := KC108.trans K109 (allS (Or.inr sz_b108) all0)
        show Go p.tables e below Pf (T109.setTop (mkF m 73 #[.val (.int ix), .val (.int (ix &&& (3 : Int32))), .val (.int (((ix.toUInt32 >>> ((2 : Int32) &&& 31).toUInt32).toInt32) &&& (255 : Int32))), .val (.int (((ix.toUInt32 >>> ((10 : Int32) &&& 31).toUInt32).toInt32) &&& (255 : Int32))), .val (.ref b105)] [(.ref b108)]))
        rw [hPf]
        exact Go.retAS X109 hx hEL Sb109 rfl hh hret hlk rfl rfl (hb hby d1_73) (by decide) (by decide) ⟨b108, rb_109, kb_109, (1 : Int32), [(Value.int ((42 : Int32).toInt8.toInt32))], rfl, N109, KC109, f109_0, sz_b108, f109_1, f109_2, f109_3, ((CHv.at X109 hZ hEL Sb109.ch).safe (Nat.lt_of_lt_of_le A108.lt K109.1) (Safe.keep K109 (sfS (Safe.ext E108 Sb107.ch Sf_b108) sf0) Sb108.ch (Safe.ext E108 Sb107.ch Sf_b108))), (Or.inr (Or.inl ⟨_, rfl, rfl⟩)), (own_p2 hc104)⟩
      · refine Go.by' (fun t k => (XS.icmpYes X0.here hx rfl (pc0 := 50) (pc' := 74) rfl (hb hby d1_50) rfl (feq hc104).2 (by decide) (by decide) (XS.iconst X0.here hx rfl (hb hby d1_74) k))) ?_
        show Go p.tables e below Pf (s₁.setTop (mkF m 75 #[.val (.int ix), .val (.int (ix &&& (3 : Int32))), .val (.int (((ix.toUInt32 >>> ((2 : Int32) &&& 31).toUInt32).toInt32) &&& (255 : Int32))), .val (.int (((ix.toUInt32 >>> ((10 : Int32) &&& 31).toUInt32).toInt32) &&& (255 : Int32))), .unset] [(.int (2 : Int32))]))
        obtain ⟨T110, h110, k110, X110, e110, E110, A110, st110⟩ := newP (aty := .char) X0 hx hZ hw7 e0 (g := (mkF m 75 #[.val (.int ix), .val (.int (ix &&& (3 : Int32))), .val (.int (((ix.toUInt32 >>> ((2 : Int32) &&& 31).toUInt32).toInt32) &&& (255 : Int32))), .val (.int (((ix.toUInt32 >>> ((10 : Int32) &&& 31).toUInt32).toInt32) &&& (255 : Int32))), .unset] [(.int (2 : Int32))])) rfl (hb hby d1_75) rfl (by decide) (cap := 2) (by decide) (by decide) (by decide) (by decide)
        obtain ⟨b110, g110⟩ : ∃ z, z = h0.size := ⟨_, rfl⟩
        rw [← g110] at A110 st110
        refine Go.by' st110 ?_
        have Sf_b110 : Safe Z consts_1 s.vm h0 b110 := Safe.new (Nat.le_of_eq g110.symm)
        have g_b110 : n0 ≤ b110 := Nat.le_trans (own_le O0) (Nat.le_of_eq g110.symm)
        have sz_b110 : h0.size ≤ b110 := Nat.le_trans KC0.1 (Nat.le_of_eq g110.symm)
        have Sb110 := Sb0.ext E110
        have O110 := O0.ext E110
        have KC110 : Keep h0 h110 [] := KC0.ext E110
        have V110 : Arv Z h110 b110 k110 .char (2 : Int32) [(.int (0 : Int32)), (.int (0 : Int32))] (Value.int (0 : Int32)) := (Arv.new A110 (by decide)).pad (pad_rep [] (Value.int (0 : Int32)) 2)
        show Go p.tables e below Pf (T110.setTop (mkF m 77 #[.val (.int ix), .val (.int (ix &&& (3 : Int32))), .val (.int (((ix.toUInt32 >>> ((2 : Int32) &&& 31).toUInt32).toInt32) &&& (255 : Int32))), .val (.int (((ix.toUInt32 >>> ((10 : Int32) &&& 31).toUInt32).toInt32) &&& (255 : Int32))), .unset] [(.ref b110)]))
        refine Go.by' (fun t k => (XS.astore X110.here hx rfl (hb hby d1_77) rfl rfl (l' := #[.val (.int ix), .val (.int (ix &&& (3 : Int32))), .val (.int (((ix.toUInt32 >>> ((2 : Int32) &&& 31).toUInt32).toInt32) &&& (255 : Int32))), .val (.int (((ix.toUInt32 >>> ((10 : Int32) &&& 31).toUInt32).toInt32) &&& (255 : Int32))), .val (.ref b110)]) rfl (XS.aload X110.here hx rfl (hb hby d1_79) rfl rfl (XS.iconst X110.here hx rfl (hb hby d1_81) (XS.iloadN X110.here hx rfl (hb hby d1_82) rfl k))))) ?_
        show Go p.tables e below Pf (T110.setTop (mkF m 83 #[.val (.int ix), .val (.int (ix &&& (3 : Int32))), .val (.int (((ix.toUInt32 >>> ((2 : Int32) &&& 31).toUInt32).toInt32) &&& (255 : Int32))), .val (.int (((ix.toUInt32 >>> ((10 : Int32) &&& 31).toUInt32).toInt32) &&& (255 : Int32))), .val (.ref b110)] [(.int (((ix.toUInt32 >>> ((2 : Int32) &&& 31).toUInt32).toInt32) &&& (255 : Int32))), (.int (0 : Int32)), (.ref b110)]))
        obtain ⟨cl111, Ar111, q111, S111, P111, H111, G111⟩ := (id V110)
        have hin111 : ¬ ((0 : Int32) < 0 ∨ cl111.slots.size ≤ ((0 : Int32)).toNatClampNeg) := inb_of S111 ⟨by decide, by decide⟩
        obtain ⟨T112, h112, X112, e112, W112, st112⟩ := stC X110 hx hZ e110 Ar111 (j := (0 : Int32)) hin111 (g := (mkF m 83 #[.val (.int ix), .val (.int (ix &&& (3 : Int32))), .val (.int (((ix.toUInt32 >>> ((2 : Int32) &&& 31).toUInt32).toInt32) &&& (255 : Int32))), .val (.int (((ix.toUInt32 >>> ((10 : Int32) &&& 31).toUInt32).toInt32) &&& (255 : Int32))), .val (.ref b110)] [(.int (((ix.toUInt32 >>> ((2 : Int32) &&& 31).toUInt32).toInt32) &&& (255 : Int32))), (.int (0 : Int32)), (.ref b110)])) rfl rfl (hb hby d1_83)
        refine Go.by' st112 ?_
        rw [(own_nm _ : nar .char (((ix.toUInt32 >>> ((2 : Int32) &&& 31).toUInt32).toInt32) &&& (255 : Int32)) = (((ix.toUInt32 >>> ((2 : Int32) &&& 31).toUInt32).toInt32) &&& (255 : Int32)))] at W112
        have V112 : Arv Z h112 b110 k110 .char (2 : Int32) [(.int (((ix.toUInt32 >>> ((2 : Int32) &&& 31).toUInt32).toInt32) &&& (255 : Int32))), (.int (0 : Int32))] (Value.int (0 : Int32)) := Arv.set Ar111 q111 S111 P111 H111 G111 (by have q := fits_nar_char (((ix.toUInt32 >>> ((2 : Int32) &&& 31).toUInt32).toInt32) &&& (255 : Int32)); rw [(own_nm _ : nar .char (((ix.toUInt32 >>> ((2 : Int32) &&& 31).toUInt32).toInt32) &&& (255 : Int32)) = (((ix.toUInt32 >>> ((2 : Int32) &&& 31).toUInt32).toInt32) &&& (255 : Int32)))] at q; exact q) W112 0 rfl (Nat.le_of_ble_eq_true rfl)
        have N112 := Fr.snoc X112 N0 g_b110
        obtain ⟨lc112, X112, N112⟩ := own_pack X112 N112
        have Sb112 := Sb110.wr W112 (Safe.ext E110 Sb0.ch Sf_b110)
        have O112 := O110.wr W112 g_b110
        have KC112 : Keep h0 h112 [] := KC110.wr W112 (Or.inr sz_b110)
        show Go p.tables e below Pf (T112.setTop (mkF m 84 #[.val (.int ix), .val (.int (ix &&& (3 : Int32))), .val (.int (((ix.toUInt32 >>> ((2 : Int32) &&& 31).toUInt32).toInt32) &&& (255 : Int32))), .val (.int (((ix.toUInt32 >>> ((10 : Int32) &&& 31).toUInt32).toInt32) &&& (255 : Int32))), .val (.ref b110)] []))
        refine Go.by' (fun t k => (XS.aload X112.here hx rfl (hb hby d1_84) rfl rfl (XS.iconst X112.here hx rfl (hb hby d1_86) (XS.iloadN X112.here hx rfl (hb hby d1_87) rfl k)))) ?_
        show Go p.tables e below Pf (T112.setTop (mkF m 88 #[.val (.int ix), .val (.int (ix &&& (3 : Int32))), .val (.int (((ix.toUInt32 >>> ((2 : Int32) &&& 31).toUInt32).toInt32) &&& (255 : Int32))), .val (.int (((ix.toUInt32 >>> ((10 : Int32) &&& 31).toUInt32).toInt32) &&& (255 : Int32))), .val (.ref b110)] [(.int (((ix.toUInt32 >>> ((10 : Int32) &&& 31).toUInt32).toInt32) &&& (255 : Int32))), (.int (1 : Int32)), (.ref b110)]))
        obtain ⟨cl113, Ar113, q113, S113, P113, H113, G113⟩ := (id V112)
        have hin113 : ¬ ((1 : Int32) < 0 ∨ cl113.slots.size ≤ ((1 : Int32)).toNatClampNeg) := inb_of S113 ⟨by decide, by decide⟩
        obtain ⟨T114, h114, X114, e114, W114, st114⟩ := stC X112 hx hZ e112 Ar113 (j := (1 : Int32)) hin113 (g := (mkF m 88 #[.val (.int ix), .val (.int (ix &&& (3 : Int32))), .val (.int (((ix.toUInt32 >>> ((2 : Int32) &&& 31).toUInt32).toInt32) &&& (255 : Int32))), .val (.int (((ix.toUInt32 >>> ((10 : Int32) &&& 31).toUInt32).toInt32) &&& (255 : Int32))), .val (.ref b110)] [(.int (((ix.toUInt32 >>> ((10 : Int32) &&& 31).toUInt32).toInt32) &&& (255 : Int32))), (.int (1 : Int32)), (.ref b110)])) rfl rfl (hb hby d1_88)
        refine Go.by' st114 ?_
        rw [(own_nm _ : nar .char (((ix.toUInt32 >>> ((10 : Int32) &&& 31).toUInt32).toInt32) &&& (255 : Int32)) = (((ix.toUInt32 >>> ((10 : Int32) &&& 31).toUInt32).toInt32) &&& (255 : Int32)))] at W114
        have V114 : Arv Z h114 b110 k110 .char (2 : Int32) [(.int (((ix.toUInt32 >>> ((2 : Int32) &&& 31).toUInt32).toInt32) &&& (255 : Int32))), (.int (((ix.toUInt32 >>> ((10 : Int32) &&& 31).toUInt32).toInt32) &&& (255 : Int32)))] (Value.int (0 : Int32)) := Arv.set Ar113 q113 S113 P113 H113 G113 (by have q := fits_nar_char (((ix.toUInt32 >>> ((10 : Int32) &&& 31).toUInt32).toInt32) &&& (255 : Int32)); rw [(own_nm _ : nar .char (((ix.toUInt32 >>> ((10 : Int32) &&& 31).toUInt32).toInt32) &&& (255 : Int32)) = (((ix.toUInt32 >>> ((10 : Int32) &&& 31).toUInt32).toInt32) &&& (255 : Int32)))] at q; exact q) W114 1 rfl (Nat.le_of_ble_eq_true rfl)
        have N114 := Fr.snoc X114 N112 g_b110
        obtain ⟨lc114, X114, N114⟩ := own_pack X114 N114
        have Sb114 := Sb112.wr W114 (Safe.wr W112 (Safe.ext E110 Sb0.ch Sf_b110) Sb110.ch (Safe.ext E110 Sb0.ch Sf_b110))
        have O114 := O112.wr W114 g_b110
        have KC114 : Keep h0 h114 [] := KC112.wr W114 (Or.inr sz_b110)
        show Go p.tables e below Pf (T114.setTop (mkF m 89 #[.val (.int ix), .val (.int (ix &&& (3 : Int32))), .val (.int (((ix.toUInt32 >>> ((2 : Int32) &&& 31).toUInt32).toInt32) &&& (255 : Int32))), .val (.int (((ix.toUInt32 >>> ((10 : Int32) &&& 31).toUInt32).toInt32) &&& (255 : Int32))), .val (.ref b110)] []))
        obtain ⟨T115, h115, X115, e115, E115, A115, D115, -, st115⟩ := newO X114 hx hZ hown hw4 hw5 hw6 e114 (g := (mkF m 89 #[.val (.int ix), .val (.int (ix &&& (3 : Int32))), .val (.int (((ix.toUInt32 >>> ((2 : Int32) &&& 31).toUInt32).toInt32) &&& (255 : Int32))), .val (.int (((ix.toUInt32 >>> ((10 : Int32) &&& 31).toUInt32).toInt32) &&& (255 : Int32))), .val (.ref b110)] [])) rfl (hb hby d1_89) (by decide) (by decide)
        obtain ⟨b115, g115⟩ : ∃ z, z = h114.size := ⟨_, rfl⟩
        rw [← g115] at A115 D115 st115
        refine Go.by' st115 ?_
        have Sf_b115 : Safe Z consts_1 s.vm h114 b115 := Safe.new (Nat.le_of_eq g115.symm)
        have g_b115 : n0 ≤ b115 := Nat.le_trans (own_le O114) (Nat.le_of_eq g115.symm)
        have sz_b115 : h0.size ≤ b115 := Nat.le_trans KC114.1 (Nat.le_of_eq g115.symm)
        have Sb115 := Sb114.ext E115
        have O115 := O114.ext E115
        have KC115 : Keep h0 h115 [] := KC114.ext E115
        have Fn115_20 : Fld Z h115 b115 "java/lang/String" "value" "[B" Value.null := D115 (Or.inr hw20) (ty := (.array .byte)) (by decide)
        have Fn115_21 : Fld Z h115 b115 "java/lang/String" "coder" "B" (Value.int (0 : Int32)) := D115 (Or.inr hw21) (ty := .byte) (by decide)
        show Go p.tables e below Pf (T115.setTop (mkF m 92 #[.val (.int ix), .val (.int (ix &&& (3 : Int32))), .val (.int (((ix.toUInt32 >>> ((2 : Int32) &&& 31).toUInt32).toInt32) &&& (255 : Int32))), .val (.int (((ix.toUInt32 >>> ((10 : Int32) &&& 31).toUInt32).toInt32) &&& (255 : Int32))), .val (.ref b110)] [(.ref b115)]))
        refine Go.by' (fun t k => (XS.dup X115.here hx rfl (hb hby d1_92) rfl rfl (XS.aload X115.here hx rfl (hb hby d1_93) rfl rfl k))) ?_
        show Go p.tables e below Pf (T115.setTop (mkF m 95 #[.val (.int ix), .val (.int (ix &&& (3 : Int32))), .val (.int (((ix.toUInt32 >>> ((2 : Int32) &&& 31).toUInt32).toInt32) &&& (255 : Int32))), .val (.int (((ix.toUInt32 >>> ((10 : Int32) &&& 31).toUInt32).toInt32) &&& (255 : Int32))), .val (.ref b110)] [(.ref b110), (.ref b115), (.ref b115)]))
        obtain ⟨_, _, ⟨T116, L116, k116, n116⟩, -, X116, ⟨Lc116, hQ116, l116, y116, z116⟩, st116⟩ := X115.specialBack hx (y := (⟨"java/lang/String", "<init>", "([C)V"⟩ : MethodName)) rfl hown (mvT hZ hw8) (mvT hZ hw9) (mvT hZ hw10) (by decide) (backOf (W := 1) (rmS1_2 l Z a0 hw [] vcs G b115 b110 k110 ((((ix.toUInt32 >>> ((2 : Int32) &&& 31).toUInt32).toInt32) &&& (255 : Int32))) ((((ix.toUInt32 >>> ((10 : Int32) &&& 31).toUInt32).toInt32) &&& (255 : Int32))) h115 n0 O115 A115 Fn115_20 Fn115_21 g_b115 (V114.ext E115) (Ne.symm (Nat.ne_of_lt (Nat.lt_of_lt_of_le (Nat.lt_of_lt_of_le V110.lt (Nat.le_trans (Nat.le_of_eq W112.size.symm) (Nat.le_of_eq W114.size.symm))) (Nat.le_of_eq g115.symm)))) (own_m _).2 (own_m _).2) hZ hw10 hw6 (by decide) (by decide)) (g := (mkF m 95 #[.val (.int ix), .val (.int (ix &&& (3 : Int32))), .val (.int (((ix.toUInt32 >>> ((2 : Int32) &&& 31).toUInt32).toInt32) &&& (255 : Int32))), .val (.int (((ix.toUInt32 >>> ((10 : Int32) &&& 31).toUInt32).toInt32) &&& (255 : Int32))), .val (.ref b110)] [(.ref b110), (.ref b115), (.ref b115)])) rfl (by rw [hml]; rfl) (Steps.refl _) (a := b115) (argsL := [(.ref b110)]) (rest := [(.ref b115)]) (lenOf pd_8 rfl) rfl (by show 2 * 0 + _ ≤ _; exact Nat.le_of_eq rfl) (hb hby d1_95) (fun _ _ => ⟨rfl, e115, (by decide : 2 + 1 ≤ _), (by decide : 6 + 2 ≤ _)⟩)
        dsimp only [Pt.U, Pt.locs, Pt.cells, Pt.slots] at X116 l116 y116 z116 st116 hQ116
        subst l116 y116 z116
        obtain ⟨rb_116, kb_116, rfl, N116q, K116, f116_0, f116_1, f116_2, f116_3, f116_4⟩ := hQ116
        have N116 := Fr.app N114 N116q
        obtain ⟨lc116, X116, N116⟩ := own_pack X116 N116
        refine Go.by' (fun t k => st116.trans k) ?_
        have Sf_rb_116 : Safe Z consts_1 s.vm h115 rb_116 := Safe.new f116_4
        have g_rb_116 : n0 ≤ rb_116 := Nat.le_trans (own_le O115) f116_4
        have sz_rb_116 : h0.size ≤ rb_116 := Nat.le_trans KC115.1 f116_4
        have Sb116 := Sb115.keep K116 (sfS (Safe.ext E115 Sb114.ch Sf_b115) sf0)
        have O116 := O115.keep K116 (allS g_b115 all0)
        have KC116 : Keep h0 T116.heap [] := KC115.trans K116 (allS (Or.inr sz_b115) all0)
        show Go p.tables e below Pf (T116.setTop (mkF m 98 #[.val (.int ix), .val (.int (ix &&& (3 : Int32))), .val (.int (((ix.toUInt32 >>> ((2 : Int32) &&& 31).toUInt32).toInt32) &&& (255 : Int32))), .val (.int (((ix.toUInt32 >>> ((10 : Int32) &&& 31).toUInt32).toInt32) &&& (255 : Int32))), .val (.ref b110)] [(.ref b115)]))
        rw [hPf]
        exact Go.retAS X116 hx hEL Sb116 rfl hh hret hlk rfl rfl (hb hby d1_98) (by decide) (by decide) ⟨b115, rb_116, kb_116, (2 : Int32), [(Value.int ((((ix.toUInt32 >>> ((2 : Int32) &&& 31).toUInt32).toInt32) &&& (255 : Int32)).toInt8.toInt32)), (Value.int ((((ix.toUInt32 >>> ((10 : Int32) &&& 31).toUInt32).toInt32) &&& (255 : Int32)).toInt8.toInt32))], rfl, N116, KC116, f116_0, sz_b115, f116_1, f116_2, f116_3, ((CHv.at X116 hZ hEL Sb116.ch).safe (Nat.lt_of_lt_of_le A115.lt K116.1) (Safe.keep K116 (sfS (Safe.ext E115 Sb114.ch Sf_b115) sf0) Sb115.ch (Safe.ext E115 Sb114.ch Sf_b115))), (Or.inr (Or.inr ⟨_, _, rfl, rfl⟩)), (own_p3 hc102 hc104)⟩
theorem d15_0 : decode method_3_code 0 = .ok (.iload_n 0, 1) := by decide +kernel
theorem d15_1 : decode method_3_code 1 = .ok (.iconst 3, 1) := by decide +kernel
theorem d15_2 : decode method_3_code 2 = .ok (.iand, 1) := by decide +kernel
theorem d15_3 : decode method_3_code 3 = .ok (.istore_n 1, 1) := by decide +kernel
theorem d15_4 : decode method_3_code 4 = .ok (.iload_n 0, 1) := by decide +kernel
theorem d15_5 : decode method_3_code 5 = .ok (.iconst 2, 1) := by decide +kernel
theorem d15_6 : decode method_3_code 6 = .ok (.iushr, 1) := by decide +kernel
theorem d15_7 : decode method_3_code 7 = .ok (.sipush 255, 3) := by decide +kernel
theorem d15_10 : decode method_3_code 10 = .ok (.iand, 1) := by decide +kernel
theorem d15_11 : decode method_3_code 11 = .ok (.i2c, 1) := by decide +kernel
theorem d15_12 : decode method_3_code 12 = .ok (.istore_n 2, 1) := by decide +kernel
theorem d15_13 : decode method_3_code 13 = .ok (.iload_n 1, 1) := by decide +kernel
theorem d15_14 : decode method_3_code 14 = .ok (.iconst 2, 1) := by decide +kernel
theorem d15_15 : decode method_3_code 15 = .ok (.if_icmp .ne 5, 3) := by decide +kernel
theorem d15_18 : decode method_3_code 18 = .ok (.iconst 1, 1) := by decide +kernel
theorem d15_19 : decode method_3_code 19 = .ok (.ireturn, 1) := by decide +kernel
theorem d15_20 : decode method_3_code 20 = .ok (.iload_n 1, 1) := by decide +kernel
theorem d15_21 : decode method_3_code 21 = .ok (.iconst 1, 1) := by decide +kernel
theorem d15_22 : decode method_3_code 22 = .ok (.if_icmp .ne 15, 3) := by decide +kernel
theorem d15_25 : decode method_3_code 25 = .ok (.iload_n 2, 1) := by decide +kernel
theorem d15_26 : decode method_3_code 26 = .ok (.bipush 42, 2) := by decide +kernel
theorem d15_28 : decode method_3_code 28 = .ok (.if_icmp .ne 7, 3) := by decide +kernel
theorem d15_31 : decode method_3_code 31 = .ok (.iconst 1, 1) := by decide +kernel
theorem d15_32 : decode method_3_code 32 = .ok (.goto 4, 3) := by decide +kernel
theorem d15_35 : decode method_3_code 35 = .ok (.iconst 0, 1) := by decide +kernel
theorem d15_36 : decode method_3_code 36 = .ok (.ireturn, 1) := by decide +kernel
theorem d15_37 : decode method_3_code 37 = .ok (.iconst 0, 1) := by decide +kernel
theorem d15_38 : decode method_3_code 38 = .ok (.ireturn, 1) := by decide +kernel
theorem pn_15 : plainName "com/example/meterline/meterline/core/EndDeviceEventTypeIsSpecificPinLaw" = true := by first | (simp [plainName, overriddenIn]; done) | decide +kernel
set_option maxHeartbeats 4000000 in
theorem ef_rmStar (m : MethodId) {ix : Int32} : entryFrame m #[(.int ix)] 3 = mkF m 0 #[.val (.int ix), .unset, .unset] [] := by first | (simp [entryFrame, mkF, argsToLocals, Value.category]; done) | rfl
def QrmStar (Z : State) (vcs : Int32) (ix : Int32) (h0 : Heap) (n0 : Nat) (v : Option Value) (h : Heap) (L : List Loc) : Prop := ∃ (r : Int32), (v = some (.int r)) ∧ (L = []) ∧ (h = h0) ∧ ((((ix &&& (3 : Int32)) = (2 : Int32) ∨ ((ix &&& (3 : Int32)) = (1 : Int32) ∧ (((ix.toUInt32 >>> ((2 : Int32) &&& 31).toUInt32).toInt32) &&& (255 : Int32)) = (42 : Int32))) ∧ r = (1 : Int32)) ∨ (¬ ((ix &&& (3 : Int32)) = (2 : Int32) ∨ ((ix &&& (3 : Int32)) = (1 : Int32) ∧ (((ix.toUInt32 >>> ((2 : Int32) &&& 31).toUInt32).toInt32) &&& (255 : Int32)) = (42 : Int32))) ∧ r = (0 : Int32)))
set_option maxRecDepth 65536 in
set_option maxHeartbeats 40000000 in
theorem rmStar (l : Launch) (Z : State) (a0 : Array Value) (hw : ∀ d ∈ tables_1, d.before a0 Z = true) (ws : List Jvm.Cond) (vcs : Int32) (G : Gh Z vcs) (ix : Int32) (h0 : Heap) (n0 : Nat) (O0 : Old Z n0 h0) :
    MetFree l (⟨"com/example/meterline/meterline/core/EndDeviceEventTypeIsSpecificPinLaw", "star", "(I)Z"⟩ : MethodName) (head1 (Jvm.Cond.code (⟨"com/example/meterline/meterline/core/EndDeviceEventTypeIsSpecificPinLaw", "star", "(I)Z"⟩ : MethodName) method_3_code 3 (some .boolean) :: ws) ({ frames := 0, cells := 0, slots := 0, locals := 0 } : Room)) (fun aa' UU' => aa' = #[(.int ix)] ∧ Z.Warmed39 UU'.vm ∧ UU'.heap = h0) (fun _ _ _ _ _ => True) (fun _ UU' oo' VV' => ∃ v' L', oo' = .returned v' ∧ QrmStar Z vcs ix h0 n0 v' VV'.heap L' ∧ FrameEnd UU' oo' VV' L' ({ frames := 0, cells := 0, slots := 0, locals := 0 } : Room).cells ({ frames := 0, cells := 0, slots := 0, locals := 0 } : Room).slots) := by
  refine MetFree.of_bodySF (plainFor_of_name pn_15) hisR ?_
  intro p e s m args below meth c s₁ Bd hml0 hP hK
  obtain ⟨rfl, hZ, hh⟩ := hP
  have hx := Bd.exec
  have hby := Bd.bytes
  have hlk := Bd.notSynchronized
  have hml : c.maxLocals = 3 := hml0
  have hown : s.vm.findClass "com/example/meterline/meterline/core/EndDeviceEventTypeIsSpecificPinLaw" = some m.cls := findClass_of_methodNamed Bd.named
  have hnm := (name_of_methodNamed Bd.named Bd.method).1
  have hret := Bd.returns
  have X0 : Stand p l e ({ frames := 0, cells := 0, slots := 0, locals := 0 } : Room) s m #[(.int ix)] below meth c s₁ [] 0 0 := Stand.of_body Bd
  have e0 : s₁.heap = h0 := by rw [← hh, Bd.state]; rfl
  have N0 := Fr.nil n0
  refine Go.body ?_
  obtain ⟨Pf, hPf⟩ : ∃ P, P = Fin' s below ({ frames := 0, cells := 0, slots := 0, locals := 0 } : Room).cells ({ frames := 0, cells := 0, slots := 0, locals := 0 } : Room).slots (QrmStar Z vcs ix h0 n0) := ⟨_, rfl⟩
  rw [← hPf]
  refine Go.cast (ef_rmStar m) ?_
  show Go p.tables e below Pf (s₁.setTop (mkF m 0 #[.val (.int ix), .unset, .unset] []))
  refine Go.by' (fun t k => (XS.iloadN X0.here hx rfl (hb hby d15_0) rfl (XS.iconst X0.here hx rfl (hb hby d15_1) (XS.iand X0.here hx rfl (hb hby d15_2) rfl (XS.istoreN X0.here hx rfl (hb hby d15_3) rfl (l' := #[.val (.int ix), .val (.int (ix &&& (3 : Int32))), .unset]) rfl (XS.iloadN X0.here hx rfl (hb hby d15_4) rfl (XS.iconst X0.here hx rfl (hb hby d15_5) k))))))) ?_
  show Go p.tables e below Pf (s₁.setTop (mkF m 6 #[.val (.int ix), .val (.int (ix &&& (3 : Int32))), .unset] [(.int (2 : Int32)), (.int ix)]))
  refine Go.by' (fun t k => (XS.iushr X0.here hx rfl (hb hby d15_6) rfl (XS.sipush X0.here hx rfl (hb hby d15_7) (XS.iand X0.here hx rfl (hb hby d15_10) rfl (XS.i2c X0.here hx rfl (hb hby d15_11) rfl k))))) ?_
  show Go p.tables e below Pf (s₁.setTop (mkF m 12 #[.val (.int ix), .val (.int (ix &&& (3 : Int32))), .unset] [(.int ((((ix.toUInt32 >>> ((2 : Int32) &&& 31).toUInt32).toInt32) &&& (255 : Int32)).toUInt32.toUInt16.toUInt32.toInt32))]))
  refine Go.castF (a := ((((ix.toUInt32 >>> ((2 : Int32) &&& 31).toUInt32).toInt32) &&& (255 : Int32)).toUInt32.toUInt16.toUInt32.toInt32)) (b := (((ix.toUInt32 >>> ((2 : Int32) &&& 31).toUInt32).toInt32) &&& (255 : Int32))) (fun z' : Int32 => mkF m 12 #[.val (.int ix), .val (.int (ix &&& (3 : Int32))), .unset] [(.int z')]) (i2c_mask _) ?_
  show Go p.tables e below Pf (s₁.setTop (mkF m 12 #[.val (.int ix), .val (.int (ix &&& (3 : Int32))), .unset] [(.int (((ix.toUInt32 >>> ((2 : Int32) &&& 31).toUInt32).toInt32) &&& (255 : Int32)))]))
  refine Go.by' (fun t k => (XS.istoreN X0.here hx rfl (hb hby d15_12) rfl (l' := #[.val (.int ix), .val (.int (ix &&& (3 : Int32))), .val (.int (((ix.toUInt32 >>> ((2 : Int32) &&& 31).toUInt32).toInt32) &&& (255 : Int32)))]) rfl (XS.iloadN X0.here hx rfl (hb hby d15_13) rfl (XS.iconst X0.here hx rfl (hb hby d15_14) k)))) ?_
  show Go p.tables e below Pf (s₁.setTop (mkF m 15 #[.val (.int ix), .val (.int (ix &&& (3 : Int32))), .val (.int (((ix.toUInt32 >>> ((2 : Int32) &&& 31).toUInt32).toInt32) &&& (255 : Int32)))] [(.int (2 : Int32)), (.int (ix &&& (3 : Int32)))]))
  by_cases hc117 : (ix &&& (3 : Int32)) = (2 : Int32)
  · refine Go.by' (fun t k => (XS.icmpNo X0.here hx rfl (hb hby d15_15) rfl (teq hc117).2 (XS.iconst X0.here hx rfl (hb hby d15_18) k))) ?_
    show Go p.tables e below Pf (s₁.setTop (mkF m 19 #[.val (.int ix), .val (.int (ix &&& (3 : Int32))), .val (.int (((ix.toUInt32 >>> ((2 : Int32) &&& 31).toUInt32).toInt32) &&& (255 : Int32)))] [(.int (1 : Int32))]))
    rw [hPf]
    exact Go.retI' X0 hx hret hlk (by simp) rfl (hb hby d15_19) (by decide) (by decide) ⟨(1 : Int32), rfl, rfl, e0, (Or.inl ⟨Or.inl hc117, rfl⟩)⟩
  · refine Go.by' (fun t k => (XS.icmpYes X0.here hx rfl (pc0 := 15) (pc' := 20) rfl (hb hby d15_15) rfl (feq hc117).2 (by decide) (by decide) (XS.iloadN X0.here hx rfl (hb hby d15_20) rfl (XS.iconst X0.here hx rfl (hb hby d15_21) k)))) ?_
    show Go p.tables e below Pf (s₁.setTop (mkF m 22 #[.val (.int ix), .val (.int (ix &&& (3 : Int32))), .val (.int (((ix.toUInt32 >>> ((2 : Int32) &&& 31).toUInt32).toInt32) &&& (255 : Int32)))] [(.int (1 : Int32)), (.int (ix &&& (3 : Int32)))]))
    by_cases hc118 : (ix &&& (3 : Int32)) = (1 : Int32)
    · refine Go.by' (fun t k => (XS.icmpNo X0.here hx rfl (hb hby d15_22) rfl (teq hc118).2 (XS.iloadN X0.here hx rfl (hb hby d15_25) rfl (XS.bipush X0.here hx rfl (hb hby d15_26) k)))) ?_
      show Go p.tables e below Pf (s₁.setTop (mkF m 28 #[.val (.int ix), .val (.int (ix &&& (3 : Int32))), .val (.int (((ix.toUInt32 >>> ((2 : Int32) &&& 31).toUInt32).toInt32) &&& (255 : Int32)))] [(.int (42 : Int32)), (.int (((ix.toUInt32 >>> ((2 : Int32) &&& 31).toUInt32).toInt32) &&& (255 : Int32)))]))
      have jn120 : ∀ (T' : State) (w120_0 : Int32), Like X0 T' → T'.heap = h0 → (((((ix.toUInt32 >>> ((2 : Int32) &&& 31).toUInt32).toInt32) &&& (255 : Int32)) = (42 : Int32) ∧ w120_0 = (1 : Int32)) ∨ (¬ ((((ix.toUInt32 >>> ((2 : Int32) &&& 31).toUInt32).toInt32) &&& (255 : Int32)) = (42 : Int32)) ∧ w120_0 = (0 : Int32))) → Go p.tables e below Pf (T'.setTop (mkF m 36 #[.val (.int ix), .val (.int (ix &&& (3 : Int32))), .val (.int (((ix.toUInt32 >>> ((2 : Int32) &&& 31).toUInt32).toInt32) &&& (255 : Int32)))] [(.int w120_0)])) := by
        intro T120 w120_0 X120 e120 hm120
        unfold Like at X120
        have bw120_0 : w120_0 = 0 ∨ w120_0 = 1 := by rcases hm120 with ⟨_, h⟩ | ⟨_, h⟩ <;> first | exact Or.inl h | exact Or.inr h
        show Go p.tables e below Pf (T120.setTop (mkF m 36 #[.val (.int ix), .val (.int (ix &&& (3 : Int32))), .val (.int (((ix.toUInt32 >>> ((2 : Int32) &&& 31).toUInt32).toInt32) &&& (255 : Int32)))] [(.int w120_0)]))
        rw [hPf]
        exact Go.retI' X120 hx hret hlk (by simp) (own_nb bw120_0) (hb hby d15_36) (by decide) (by decide) ⟨w120_0, rfl, rfl, e120, (hm120.elim (fun q => Or.inl ⟨Or.inr ⟨hc118, q.1⟩, q.2⟩) (fun q => Or.inr ⟨fun z => z.elim hc117 (fun z => q.1 z.2), q.2⟩))⟩
      by_cases hc121 : (((ix.toUInt32 >>> ((2 : Int32) &&& 31).toUInt32).toInt32) &&& (255 : Int32)) = (42 : Int32)
      · refine Go.by' (fun t k => (XS.icmpNo X0.here hx rfl (hb hby d15_28) rfl (teq hc121).2 (XS.iconst X0.here hx rfl (hb hby d15_31) (XS.goto X0.here hx rfl (pc0 := 32) (pc' := 36) rfl (hb hby d15_32) (by decide) (by decide) k)))) ?_
        show Go p.tables e below Pf (s₁.setTop (mkF m 36 #[.val (.int ix), .val (.int (ix &&& (3 : Int32))), .val (.int (((ix.toUInt32 >>> ((2 : Int32) &&& 31).toUInt32).toInt32) &&& (255 : Int32)))] [(.int (1 : Int32))]))
        exact jn120 s₁ ((1 : Int32)) X0 e0  (Or.inl ⟨hc121, rfl⟩)
      · refine Go.by' (fun t k => (XS.icmpYes X0.here hx rfl (pc0 := 28) (pc' := 35) rfl (hb hby d15_28) rfl (feq hc121).2 (by decide) (by decide) (XS.iconst X0.here hx rfl (hb hby d15_35) k))) ?_
        show Go p.tables e below Pf (s₁.setTop (mkF m 36 #[.val (.int ix), .val (.int (ix &&& (3 : Int32))), .val (.int (((ix.toUInt32 >>> ((2 : Int32) &&& 31).toUInt32).toInt32) &&& (255 : Int32)))] [(.int (0 : Int32))]))
        exact jn120 s₁ ((0 : Int32)) X0 e0  (Or.inr ⟨hc121, rfl⟩)
    · refine Go.by' (fun t k => (XS.icmpYes X0.here hx rfl (pc0 := 22) (pc' := 37) rfl (hb hby d15_22) rfl (feq hc118).2 (by decide) (by decide) (XS.iconst X0.here hx rfl (hb hby d15_37) k))) ?_
      show Go p.tables e below Pf (s₁.setTop (mkF m 38 #[.val (.int ix), .val (.int (ix &&& (3 : Int32))), .val (.int (((ix.toUInt32 >>> ((2 : Int32) &&& 31).toUInt32).toInt32) &&& (255 : Int32)))] [(.int (0 : Int32))]))
      rw [hPf]
      exact Go.retI' X0 hx hret hlk (by simp) rfl (hb hby d15_38) (by decide) (by decide) ⟨(0 : Int32), rfl, rfl, e0, (Or.inr ⟨fun z => z.elim hc117 (fun z => hc118 z.1), rfl⟩)⟩
theorem d14_0 : decode jdk_31_method_11_code 0 = .ok (.aload_n 0, 1) := by decide +kernel
theorem d14_1 : decode jdk_31_method_11_code 1 = .ok (.ifnonnull 12, 3) := by decide +kernel
theorem d14_13 : decode jdk_31_method_11_code 13 = .ok (.aload_n 0, 1) := by decide +kernel
theorem d14_14 : decode jdk_31_method_11_code 14 = .ok (.areturn, 1) := by decide +kernel
theorem pn_14 : plainName "java/util/Objects" = true := by first | (simp [plainName, overriddenIn]; done) | decide +kernel
set_option maxHeartbeats 4000000 in
theorem ef_rmRN (m : MethodId) {ao : Addr} {am : Addr} : entryFrame m #[(.ref ao), (.ref am)] 2 = mkF m 0 #[.val (.ref ao), .val (.ref am)] [] := by first | (simp [entryFrame, mkF, argsToLocals, Value.category]; done) | rfl
def QrmRN (Z : State) (vcs : Int32) (ao : Addr) (am : Addr) (h0 : Heap) (n0 : Nat) (v : Option Value) (h : Heap) (L : List Loc) : Prop := (v = some (.ref ao)) ∧ (L = []) ∧ (h = h0)
set_option maxRecDepth 65536 in
set_option maxHeartbeats 40000000 in
theorem rmRN (l : Launch) (Z : State) (a0 : Array Value) (hw : ∀ d ∈ tables_1, d.before a0 Z = true) (ws : List Jvm.Cond) (vcs : Int32) (G : Gh Z vcs) (ao : Addr) (am : Addr) (h0 : Heap) (n0 : Nat) (O0 : Old Z n0 h0) :
    MetFree l (⟨"java/util/Objects", "requireNonNull", "(Ljava/lang/Object;Ljava/lang/String;)Ljava/lang/Object;"⟩ : MethodName) (head1 (Jvm.Cond.code (⟨"java/util/Objects", "requireNonNull", "(Ljava/lang/Object;Ljava/lang/String;)Ljava/lang/Object;"⟩ : MethodName) jdk_31_method_11_code 2 (some (.object "java/lang/Object")) :: ws) ({ frames := 0, cells := 0, slots := 0, locals := 0 } : Room)) (fun aa' UU' => aa' = #[(.ref ao), (.ref am)] ∧ Z.Warmed39 UU'.vm ∧ UU'.heap = h0) (fun _ _ _ _ _ => True) (fun _ UU' oo' VV' => ∃ v' L', oo' = .returned v' ∧ QrmRN Z vcs ao am h0 n0 v' VV'.heap L' ∧ FrameEnd UU' oo' VV' L' ({ frames := 0, cells := 0, slots := 0, locals := 0 } : Room).cells ({ frames := 0, cells := 0, slots := 0, locals := 0 } : Room).slots) := by
  refine MetFree.of_bodySF (plainFor_of_name pn_14) hisR ?_
  intro p e s m args below meth c s₁ Bd hml0 hP hK
  obtain ⟨rfl, hZ, hh⟩ := hP
  have hx := Bd.exec
  have hby := Bd.bytes
  have hlk := Bd.notSynchronized
  have hml : c.maxLocals = 2 := hml0
  have hown : s.vm.findClass "java/util/Objects" = some m.cls := findClass_of_methodNamed Bd.named
  have hnm := (name_of_methodNamed Bd.named Bd.method).1
  have hret := Bd.returns
  have X0 : Stand p l e ({ frames := 0, cells := 0, slots := 0, locals := 0 } : Room) s m #[(.ref ao), (.ref am)] below meth c s₁ [] 0 0 := Stand.of_body Bd
  have e0 : s₁.heap = h0 := by rw [← hh, Bd.state]; rfl
  have N0 := Fr.nil n0
  refine Go.body ?_
  obtain ⟨Pf, hPf⟩ : ∃ P, P = Fin' s below ({ frames := 0, cells := 0, slots := 0, locals := 0 } : Room).cells ({ frames := 0, cells := 0, slots := 0, locals := 0 } : Room).slots (QrmRN Z vcs ao am h0 n0) := ⟨_, rfl⟩
  rw [← hPf]
  refine Go.cast (ef_rmRN m) ?_
  show Go p.tables e below Pf (s₁.setTop (mkF m 0 #[.val (.ref ao), .val (.ref am)] []))
  refine Go.by' (fun t k => (XS.aloadN X0.here hx rfl (hb hby d14_0) rfl rfl (XS.ifnonnullYes X0.here hx rfl (pc0 := 1) (pc' := 13) rfl (hb hby d14_1) rfl (by decide) (by decide) (XS.aloadN X0.here hx rfl (hb hby d14_13) rfl rfl k)))) ?_
  show Go p.tables e below Pf (s₁.setTop (mkF m 14 #[.val (.ref ao), .val (.ref am)] [(.ref ao)]))
  rw [hPf]
  exact Go.retA' X0 hx hret hlk rfl rfl (hb hby d14_14) (by decide) (by decide) ⟨rfl, rfl, e0⟩
theorem d13_0 : decode jdk_30_method_1_code 0 = .ok (.aload_n 0, 1) := by decide +kernel
theorem d13_1 : decode jdk_30_method_1_code 1 = .ok (.invokespecial 1, 3) := by decide +kernel
theorem d13_4 : decode jdk_30_method_1_code 4 = .ok (.return_, 1) := by decide +kernel
theorem pn_13 : plainName "java/lang/Record" = true := by first | (simp [plainName, overriddenIn]; done) | decide +kernel
set_option maxHeartbeats 4000000 in
theorem ef_rmRec (m : MethodId) {al : Addr} : entryFrame m #[(.ref al)] 1 = mkF m 0 #[.val (.ref al)] [] := by first | (simp [entryFrame, mkF, argsToLocals, Value.category]; done) | rfl
def QrmRec (Z : State) (vcs : Int32) (al : Addr) (h0 : Heap) (n0 : Nat) (v : Option Value) (h : Heap) (L : List Loc) : Prop := (v = none) ∧ (L = []) ∧ (h = h0)
set_option maxRecDepth 65536 in
set_option maxHeartbeats 40000000 in
theorem rmRec (l : Launch) (Z : State) (a0 : Array Value) (hw : ∀ d ∈ tables_1, d.before a0 Z = true) (ws : List Jvm.Cond) (vcs : Int32) (G : Gh Z vcs) (al : Addr) (h0 : Heap) (n0 : Nat) (O0 : Old Z n0 h0) :
    MetFree l (⟨"java/lang/Record", "<init>", "()V"⟩ : MethodName) (head1 (Jvm.Cond.code (⟨"java/lang/Record", "<init>", "()V"⟩ : MethodName) jdk_30_method_1_code 1 none :: ws) ({ frames := 1, cells := 0, slots := 0, locals := 12 } : Room)) (fun aa' UU' => aa' = #[(.ref al)] ∧ Z.Warmed39 UU'.vm ∧ UU'.heap = h0) (fun _ _ _ _ _ => True) (fun _ UU' oo' VV' => ∃ v' L', oo' = .returned v' ∧ QrmRec Z vcs al h0 n0 v' VV'.heap L' ∧ FrameEnd UU' oo' VV' L' ({ frames := 1, cells := 0, slots := 0, locals := 12 } : Room).cells ({ frames := 1, cells := 0, slots := 0, locals := 12 } : Room).slots) := by
  refine MetFree.of_bodySF (plainFor_of_name pn_13) hisR ?_
  intro p e s m args below meth c s₁ Bd hml0 hP hK
  obtain ⟨rfl, hZ, hh⟩ := hP
  have hx := Bd.exec
  have hby := Bd.bytes
  have hlk := Bd.notSynchronized
  have hml : c.maxLocals = 1 := hml0
  have hown : s.vm.findClass "java/lang/Record" = some m.cls := findClass_of_methodNamed Bd.named
  have hnm := (name_of_methodNamed Bd.named Bd.method).1
  have hret := Bd.returns
  have X0 : Stand p l e ({ frames := 1, cells := 0, slots := 0, locals := 12 } : Room) s m #[(.ref al)] below meth c s₁ [] 0 0 := Stand.of_body Bd
  have e0 : s₁.heap = h0 := by rw [← hh, Bd.state]; rfl
  have N0 := Fr.nil n0
  refine Go.body ?_
  obtain ⟨Pf, hPf⟩ : ∃ P, P = Fin' s below ({ frames := 1, cells := 0, slots := 0, locals := 12 } : Room).cells ({ frames := 1, cells := 0, slots := 0, locals := 12 } : Room).slots (QrmRec Z vcs al h0 n0) := ⟨_, rfl⟩
  rw [← hPf]
  refine Go.cast (ef_rmRec m) ?_
  have hw16 := (hw _ (List.mem_of_getElem? (i := 16) rfl))
  have hw17 := (hw _ (List.mem_of_getElem? (i := 17) rfl))
  have hw62 := (hw _ (List.mem_of_getElem? (i := 62) rfl))
  show Go p.tables e below Pf (s₁.setTop (mkF m 0 #[.val (.ref al)] []))
  refine Go.by' (fun t k => (XS.aloadN X0.here hx rfl (hb hby d13_0) rfl rfl k)) ?_
  show Go p.tables e below Pf (s₁.setTop (mkF m 1 #[.val (.ref al)] [(.ref al)]))
  obtain ⟨T122, X122, e122, st122⟩ := initO X0 hx hZ hown hw62 hw16 hw17 e0 (g := (mkF m 1 #[.val (.ref al)] [(.ref al)])) rfl (by rw [hml]; rfl) rfl (hb hby d13_1) (by decide) (W := 0) (by show 2 * 0 + _ ≤ _; exact Nat.le_of_eq rfl) (by decide)
  refine Go.by' st122 ?_
  show Go p.tables e below Pf (T122.setTop (mkF m 4 #[.val (.ref al)] []))
  rw [hPf]
  exact Go.retV' X122 hx hret hlk (hb hby d13_4) (by decide) (by decide) ⟨rfl, rfl, e122⟩
theorem d12_0 : decode prog_28_method_1_code 0 = .ok (.aload_n 0, 1) := by decide +kernel
theorem d12_1 : decode prog_28_method_1_code 1 = .ok (.invokespecial 1, 3) := by decide +kernel
theorem pd_10 : parseMethodDescriptor "()V" = some ⟨[], none⟩ := by decide +kernel
theorem d12_4 : decode prog_28_method_1_code 4 = .ok (.aload_n 1, 1) := by decide +kernel
theorem d12_5 : decode prog_28_method_1_code 5 = .ok (.ldc 7, 2) := by decide +kernel
theorem d12_7 : decode prog_28_method_1_code 7 = .ok (.invokestatic 9, 3) := by decide +kernel
theorem pd_11 : parseMethodDescriptor "(Ljava/lang/Object;Ljava/lang/String;)Ljava/lang/Object;" = some ⟨[(.object "java/lang/Object"), (.object "java/lang/String")], some (.object "java/lang/Object")⟩ := by decide +kernel
theorem d12_10 : decode prog_28_method_1_code 10 = .ok (.pop, 1) := by decide +kernel
theorem d12_11 : decode prog_28_method_1_code 11 = .ok (.aload_n 2, 1) := by decide +kernel
theorem d12_12 : decode prog_28_method_1_code 12 = .ok (.ldc 15, 2) := by decide +kernel
theorem d12_14 : decode prog_28_method_1_code 14 = .ok (.invokestatic 9, 3) := by decide +kernel
theorem d12_17 : decode prog_28_method_1_code 17 = .ok (.pop, 1) := by decide +kernel
theorem d12_18 : decode prog_28_method_1_code 18 = .ok (.aload_n 3, 1) := by decide +kernel
theorem d12_19 : decode prog_28_method_1_code 19 = .ok (.ldc 17, 2) := by decide +kernel
theorem d12_21 : decode prog_28_method_1_code 21 = .ok (.invokestatic 9, 3) := by decide +kernel
theorem d12_24 : decode prog_28_method_1_code 24 = .ok (.pop, 1) := by decide +kernel
theorem d12_25 : decode prog_28_method_1_code 25 = .ok (.aload 4, 2) := by decide +kernel
theorem d12_27 : decode prog_28_method_1_code 27 = .ok (.ldc 19, 2) := by decide +kernel
theorem d12_29 : decode prog_28_method_1_code 29 = .ok (.invokestatic 9, 3) := by decide +kernel
theorem d12_32 : decode prog_28_method_1_code 32 = .ok (.pop, 1) := by decide +kernel
theorem d12_33 : decode prog_28_method_1_code 33 = .ok (.aload_n 0, 1) := by decide +kernel
theorem d12_34 : decode prog_28_method_1_code 34 = .ok (.aload_n 1, 1) := by decide +kernel
theorem d12_35 : decode prog_28_method_1_code 35 = .ok (.putfield 21, 3) := by decide +kernel
theorem d12_38 : decode prog_28_method_1_code 38 = .ok (.aload_n 0, 1) := by decide +kernel
theorem d12_39 : decode prog_28_method_1_code 39 = .ok (.aload_n 2, 1) := by decide +kernel
theorem d12_40 : decode prog_28_method_1_code 40 = .ok (.putfield 26, 3) := by decide +kernel
theorem d12_43 : decode prog_28_method_1_code 43 = .ok (.aload_n 0, 1) := by decide +kernel
theorem d12_44 : decode prog_28_method_1_code 44 = .ok (.aload_n 3, 1) := by decide +kernel
theorem d12_45 : decode prog_28_method_1_code 45 = .ok (.putfield 28, 3) := by decide +kernel
theorem d12_48 : decode prog_28_method_1_code 48 = .ok (.aload_n 0, 1) := by decide +kernel
theorem d12_49 : decode prog_28_method_1_code 49 = .ok (.aload 4, 2) := by decide +kernel
theorem d12_51 : decode prog_28_method_1_code 51 = .ok (.putfield 30, 3) := by decide +kernel
theorem d12_54 : decode prog_28_method_1_code 54 = .ok (.return_, 1) := by decide +kernel
theorem pn_12 : plainName "com/example/meterline/meterline/core/EndDeviceEventType" = true := by first | (simp [plainName, overriddenIn]; done) | decide +kernel
set_option maxHeartbeats 4000000 in
theorem ef_rmEv (m : MethodId) {ac : Addr} {p1 : Addr} {p2 : Addr} {p3 : Addr} {p4 : Addr} : entryFrame m #[(.ref ac), (.ref p1), (.ref p2), (.ref p3), (.ref p4)] 5 = mkF m 0 #[.val (.ref ac), .val (.ref p1), .val (.ref p2), .val (.ref p3), .val (.ref p4)] [] := by first | (simp [entryFrame, mkF, argsToLocals, Value.category]; done) | rfl
def QrmEv (Z : State) (vcs : Int32) (ac : Addr) (p1 : Addr) (p2 : Addr) (p3 : Addr) (p4 : Addr) (h0 : Heap) (n0 : Nat) (v : Option Value) (h : Heap) (vm : Vm) (L : List Loc) : Prop := (v = none) ∧ (Fr n0 L) ∧ (Keep h0 h [ac]) ∧ (Exa Z h ac "com/example/meterline/meterline/core/EndDeviceEventType") ∧ (Fld Z h ac "com/example/meterline/meterline/core/EndDeviceEventType" "type" "Ljava/lang/String;" (.ref p1)) ∧ (Fld Z h ac "com/example/meterline/meterline/core/EndDeviceEventType" "domain" "Ljava/lang/String;" (.ref p2)) ∧ (Fld Z h ac "com/example/meterline/meterline/core/EndDeviceEventType" "subdomain" "Ljava/lang/String;" (.ref p3)) ∧ (Fld Z h ac "com/example/meterline/meterline/core/EndDeviceEventType" "eventOrAction" "Ljava/lang/String;" (.ref p4))
set_option maxRecDepth 65536 in
set_option maxHeartbeats 40000000 in
theorem rmEv (l : Launch) (Z : State) (a0 : Array Value) (hw : ∀ d ∈ tables_1, d.before a0 Z = true) (ws : List Jvm.Cond) (vcs : Int32) (G : Gh Z vcs) (ac : Addr) (p1 : Addr) (p2 : Addr) (p3 : Addr) (p4 : Addr) (h0 : Heap) (n0 : Nat) (O0 : Old Z n0 h0) (EX : Exa Z h0 ac "com/example/meterline/meterline/core/EndDeviceEventType") (F_0 : Fld Z h0 ac "com/example/meterline/meterline/core/EndDeviceEventType" "type" "Ljava/lang/String;" .null) (F_1 : Fld Z h0 ac "com/example/meterline/meterline/core/EndDeviceEventType" "domain" "Ljava/lang/String;" .null) (F_2 : Fld Z h0 ac "com/example/meterline/meterline/core/EndDeviceEventType" "subdomain" "Ljava/lang/String;" .null) (F_3 : Fld Z h0 ac "com/example/meterline/meterline/core/EndDeviceEventType" "eventOrAction" "Ljava/lang/String;" .null) (g_ac : n0 ≤ ac) :
    MetFree l (⟨"com/example/meterline/meterline/core/EndDeviceEventType", "<init>", "(Ljava/lang/String;Ljava/lang/String;Ljava/lang/String;Ljava/lang/String;)V"⟩ : MethodName) (head1 (Jvm.Cond.code (⟨"com/example/meterline/meterline/core/EndDeviceEventType", "<init>", "(Ljava/lang/String;Ljava/lang/String;Ljava/lang/String;Ljava/lang/String;)V"⟩ : MethodName) prog_28_method_1_code 5 none :: ws) ({ frames := 2, cells := 8, slots := 144, locals := 24 } : Room)) (fun aa' UU' => aa' = #[(.ref ac), (.ref p1), (.ref p2), (.ref p3), (.ref p4)] ∧ Z.Warmed39 UU'.vm ∧ UU'.heap = h0 ∧ CHv Z consts_1 UU'.vm h0 ∧ ∀ x ∈ ([ac] : List Addr), Safe Z consts_1 UU'.vm h0 x) (fun _ _ _ _ _ => True) (fun _ UU' oo' VV' => ∃ v' L', oo' = .returned v' ∧ QrmEv Z vcs ac p1 p2 p3 p4 h0 n0 v' VV'.heap VV'.vm L' ∧ CHr Z consts_1 UU'.vm UU'.heap VV'.vm VV'.heap ∧ ReturnedEndW UU' oo' VV' L' ({ frames := 2, cells := 8, slots := 144, locals := 24 } : Room).cells ({ frames := 2, cells := 8, slots := 144, locals := 24 } : Room).slots) := by
  refine MetFree.of_bodySF (plainFor_of_name pn_12) hisR ?_
  intro p e s m args below meth c s₁ Bd hml0 hP hK
  obtain ⟨rfl, hZ, hh, hCH, hSf⟩ := hP
  have hx := Bd.exec
  have hby := Bd.bytes
  have hlk := Bd.notSynchronized
  have hml : c.maxLocals = 5 := hml0
  have hown : s.vm.findClass "com/example/meterline/meterline/core/EndDeviceEventType" = some m.cls := findClass_of_methodNamed Bd.named
  have hnm := (name_of_methodNamed Bd.named Bd.method).1
  have hret := Bd.returns
  have X0 : Stand p l e ({ frames := 2, cells := 8, slots := 144, locals := 24 } : Room) (s.setVm s.vm) m #[(.ref ac), (.ref p1), (.ref p2), (.ref p3), (.ref p4)] below meth c s₁ [] 0 0 := Stand.of_body Bd
  have e0 : s₁.heap = h0 := by rw [← hh, Bd.state]; rfl
  have N0 := Fr.nil n0
  have KC0 : Keep h0 h0 [ac] := Keep.refl _ _
  have Sb0 := Sb.start hZ hown hCH
  have hEL := own_EW hw
  have hSA := own_SA hw
  refine Go.bodyS ?_
  obtain ⟨Pf, hPf⟩ : ∃ P, P = FinS Z consts_1 s below ({ frames := 2, cells := 8, slots := 144, locals := 24 } : Room).cells ({ frames := 2, cells := 8, slots := 144, locals := 24 } : Room).slots (QrmEv Z vcs ac p1 p2 p3 p4 h0 n0) := ⟨_, rfl⟩
  rw [← hPf]
  refine Go.cast (ef_rmEv m) ?_
  have hw52 := (hw _ (List.mem_of_getElem? (i := 52) rfl))
  have hw57 := (hw _ (List.mem_of_getElem? (i := 57) rfl))
  have hw58 := (hw _ (List.mem_of_getElem? (i := 58) rfl))
  have hw60 := (hw _ (List.mem_of_getElem? (i := 60) rfl))
  have hw61 := (hw _ (List.mem_of_getElem? (i := 61) rfl))
  have hw63 := (hw _ (List.mem_of_getElem? (i := 63) rfl))
  have hw64 := (hw _ (List.mem_of_getElem? (i := 64) rfl))
  have hw65 := (hw _ (List.mem_of_getElem? (i := 65) rfl))
  have hw66 := (hw _ (List.mem_of_getElem? (i := 66) rfl))
  have hw67 := (hw _ (List.mem_of_getElem? (i := 67) rfl))
  have hw68 := (hw _ (List.mem_of_getElem? (i := 68) rfl))
  have hw69 := (hw _ (List.mem_of_getElem? (i := 69) rfl))
  have hw70 := (hw _ (List.mem_of_getElem? (i := 70) rfl))
  have hw71 := (hw _ (List.mem_of_getElem? (i := 71) rfl))
  have hw72 := (hw _ (List.mem_of_getElem? (i := 72) rfl))
  have hw73 := (hw _ (List.mem_of_getElem? (i := 73) rfl))
  have hw74 := (hw _ (List.mem_of_getElem? (i := 74) rfl))
  have hw75 := (hw _ (List.mem_of_getElem? (i := 75) rfl))
  have hw76 := (hw _ (List.mem_of_getElem? (i := 76) rfl))
  have hw77 := (hw _ (List.mem_of_getElem? (i := 77) rfl))
  have hw78 := (hw _ (List.mem_of_getElem? (i := 78) rfl))
  show Go p.tables e below Pf (s₁.setTop (mkF m 0 #[.val (.ref ac), .val (.ref p1), .val (.ref p2), .val (.ref p3), .val (.ref p4)] []))
  refine Go.by' (fun t k => (XS.aloadN X0.here hx rfl (hb hby d12_0) rfl rfl k)) ?_
  show Go p.tables e below Pf (s₁.setTop (mkF m 1 #[.val (.ref ac), .val (.ref p1), .val (.ref p2), .val (.ref p3), .val (.ref p4)] [(.ref ac)]))
  obtain ⟨_, _, ⟨T123, L123, k123, n123⟩, -, X123, ⟨Lc123, hQ123, l123, y123, z123⟩, st123⟩ := X0.specialBack hx (y := (⟨"java/lang/Record", "<init>", "()V"⟩ : MethodName)) rfl hown (mvT hZ hw57) (mvT hZ hw58) (mvT hZ hw61) (by decide) (backOf (W := 0) (rmRec l Z a0 hw [] vcs G ac h0 n0 O0 ) hZ hw61 hw60 (by decide) (by decide)) (g := (mkF m 1 #[.val (.ref ac), .val (.ref p1), .val (.ref p2), .val (.ref p3), .val (.ref p4)] [(.ref ac)])) rfl (by rw [hml]; rfl) (Steps.refl _) (a := ac) (argsL := []) (rest := []) (lenOf pd_10 rfl) rfl (by show 2 * 0 + _ ≤ _; exact Nat.le_of_eq rfl) (hb hby d12_1) (fun _ _ => ⟨rfl, e0, (by decide : 0 + 0 ≤ _), (by decide : 0 + 0 ≤ _)⟩)
  dsimp only [Pt.U, Pt.locs, Pt.cells, Pt.slots] at X123 l123 y123 z123 st123 hQ123
  subst l123 y123 z123
  obtain ⟨rfl, rfl, e123⟩ := hQ123
  try replace X123 := own_nil X123
  refine Go.by' (fun t k => st123.trans k) ?_
  show Go p.tables e below Pf (T123.setTop (mkF m 4 #[.val (.ref ac), .val (.ref p1), .val (.ref p2), .val (.ref p3), .val (.ref p4)] []))
  refine Go.by' (fun t k => (XS.aloadN X123.here hx rfl (hb hby d12_4) rfl rfl k)) ?_
  show Go p.tables e below Pf (T123.setTop (mkF m 5 #[.val (.ref ac), .val (.ref p1), .val (.ref p2), .val (.ref p3), .val (.ref p4)] [(.ref p1)]))
  obtain ⟨T124, h124, a124, bb124, kb124, X124, e124, E124, Sb124, A124, Ex124, Fc124, Fv124, Vb124, Ne124, st124⟩ := own_ldc X123 hx Sb0 hw63 hSA e123 hEL (List.mem_of_getElem? (i := 0) rfl) (vs := [(.int (116 : Int32)), (.int (121 : Int32)), (.int (112 : Int32)), (.int (101 : Int32))]) (z := (4 : Int32)) (by decide +kernel) (by decide) rfl (g := (mkF m 5 #[.val (.ref ac), .val (.ref p1), .val (.ref p2), .val (.ref p3), .val (.ref p4)] [(.ref p1)])) rfl (hb hby d12_5) (n := 16) (by decide +kernel) (by decide) (by decide) (by decide)
  refine Go.by' st124 ?_
  have O124 := O0.ext E124
  have KC124 : Keep h0 h124 [ac] := KC0.ext E124
  have hZ124 := Sb124.hZ
  have hO124 := Sb124.hO
  show Go p.tables e below Pf (T124.setTop (mkF m 7 #[.val (.ref ac), .val (.ref p1), .val (.ref p2), .val (.ref p3), .val (.ref p4)] [(.ref a124), (.ref p1)]))
  obtain ⟨_, _, ⟨T125, L125, k125, n125⟩, -, X125, ⟨Lc125, hQ125, l125, y125, z125⟩, st125⟩ := Jvm.LawKit.callS X124 hx (y := (⟨"java/util/Objects", "requireNonNull", "(Ljava/lang/Object;Ljava/lang/String;)Ljava/lang/Object;"⟩ : MethodName)) hO124 (mvT hZ124 hw64) (mvT hZ124 hw65) (mvT hZ124 hw66) (mvT hZ124 hw67) (by decide) (backOf (W := 0) (rmRN l Z a0 hw [] vcs G p1 a124 h124 n0 O124 ) hZ124 hw67 hw66 (by decide) (by decide)) (g := (mkF m 7 #[.val (.ref ac), .val (.ref p1), .val (.ref p2), .val (.ref p3), .val (.ref p4)] [(.ref a124), (.ref p1)])) rfl (by rw [hml]; rfl) (argsL := [(.ref p1), (.ref a124)]) (rest := []) (lenOf pd_11 rfl) rfl (by show 2 * 0 + _ ≤ _; exact Nat.le_of_eq rfl) (hb hby d12_7) (fun _ _ => ⟨rfl, e124, (by decide : 2 + 0 ≤ _), (by decide : 20 + 0 ≤ _)⟩)
  dsimp only [Pt.U, Pt.locs, Pt.cells, Pt.slots] at X125 l125 y125 z125 st125 hQ125
  subst l125 y125 z125
  obtain ⟨rfl, rfl, e125⟩ := hQ125
  try replace X125 := own_nil X125
  refine Go.by' st125 ?_
  show Go p.tables e below Pf (T125.setTop (mkF m 10 #[.val (.ref ac), .val (.ref p1), .val (.ref p2), .val (.ref p3), .val (.ref p4)] [(.ref p1)]))
  refine Go.by' (fun t k => (XS.pop X125.here hx rfl (hb hby d12_10) rfl rfl (XS.aloadN X125.here hx rfl (hb hby d12_11) rfl rfl k))) ?_
  show Go p.tables e below Pf (T125.setTop (mkF m 12 #[.val (.ref ac), .val (.ref p1), .val (.ref p2), .val (.ref p3), .val (.ref p4)] [(.ref p2)]))
  obtain ⟨T126, h126, a126, bb126, kb126, X126, e126, E126, Sb126, A126, Ex126, Fc126, Fv126, Vb126, Ne126, st126⟩ := own_ldc X125 hx Sb124 hw68 hSA e125 hEL (List.mem_of_getElem? (i := 1) rfl) (vs := [(.int (100 : Int32)), (.int (111 : Int32)), (.int (109 : Int32)), (.int (97 : Int32)), (.int (105 : Int32)), (.int (110 : Int32))]) (z := (6 : Int32)) (by decide +kernel) (by decide) rfl (g := (mkF m 12 #[.val (.ref ac), .val (.ref p1), .val (.ref p2), .val (.ref p3), .val (.ref p4)] [(.ref p2)])) rfl (hb hby d12_12) (n := 24) (by decide +kernel) (by decide) (by decide) (by decide)
  refine Go.by' st126 ?_
  have O126 := O124.ext E126
  have KC126 : Keep h0 h126 [ac] := KC124.ext E126
  have hZ126 := Sb126.hZ
  have hO126 := Sb126.hO
  show Go p.tables e below Pf (T126.setTop (mkF m 14 #[.val (.ref ac), .val (.ref p1), .val (.ref p2), .val (.ref p3), .val (.ref p4)] [(.ref a126), (.ref p2)]))
  obtain ⟨_, _, ⟨T127, L127, k127, n127⟩, -, X127, ⟨Lc127, hQ127, l127, y127, z127⟩, st127⟩ := Jvm.LawKit.callS X126 hx (y := (⟨"java/util/Objects", "requireNonNull", "(Ljava/lang/Object;Ljava/lang/String;)Ljava/lang/Object;"⟩ : MethodName)) hO126 (mvT hZ126 hw64) (mvT hZ126 hw65) (mvT hZ126 hw66) (mvT hZ126 hw67) (by decide) (backOf (W := 0) (rmRN l Z a0 hw [] vcs G p2 a126 h126 n0 O126 ) hZ126 hw67 hw66 (by decide) (by decide)) (g := (mkF m 14 #[.val (.ref ac), .val (.ref p1), .val (.ref p2), .val (.ref p3), .val (.ref p4)] [(.ref a126), (.ref p2)])) rfl (by rw [hml]; rfl) (argsL := [(.ref p2), (.ref a126)]) (rest := []) (lenOf pd_11 rfl) rfl (by show 2 * 0 + _ ≤ _; exact Nat.le_of_eq rfl) (hb hby d12_14) (fun _ _ => ⟨rfl, e126, (by decide : 4 + 0 ≤ _), (by decide : 48 + 0 ≤ _)⟩)
  dsimp only [Pt.U, Pt.locs, Pt.cells, Pt.slots] at X127 l127 y127 z127 st127 hQ127
  subst l127 y127 z127
  obtain ⟨rfl, rfl, e127⟩ := hQ127
  try replace X127 := own_nil X127
  refine Go.by' st127 ?_
  show Go p.tables e below Pf (T127.setTop (mkF m 17 #[.val (.ref ac), .val (.ref p1), .val (.ref p2), .val (.ref p3), .val (.ref p4)] [(.ref p2)]))
  refine Go.by' (fun t k => (XS.pop X127.here hx rfl (hb hby d12_17) rfl rfl (XS.aloadN X127.here hx rfl (hb hby d12_18) rfl rfl k))) ?_
  show Go p.tables e below Pf (T127.setTop (mkF m 19 #[.val (.ref ac), .val (.ref p1), .val (.ref p2), .val (.ref p3), .val (.ref p4)] [(.ref p3)]))
  obtain ⟨T128, h128, a128, bb128, kb128, X128, e128, E128, Sb128, A128, Ex128, Fc128, Fv128, Vb128, Ne128, st128⟩ := own_ldc X127 hx Sb126 hw69 hSA e127 hEL (List.mem_of_getElem? (i := 2) rfl) (vs := [(.int (115 : Int32)), (.int (117 : Int32)), (.int (98 : Int32)), (.int (100 : Int32)), (.int (111 : Int32)), (.int (109 : Int32)), (.int (97 : Int32)), (.int (105 : Int32)), (.int (110 : Int32))]) (z := (9 : Int32)) (by decide +kernel) (by decide) rfl (g := (mkF m 19 #[.val (.ref ac), .val (.ref p1), .val (.ref p2), .val (.ref p3), .val (.ref p4)] [(.ref p3)])) rfl (hb hby d12_19) (n := 36) (by decide +kernel) (by decide) (by decide) (by decide)
  refine Go.by' st128 ?_
  have O128 := O126.ext E128
  have KC128 : Keep h0 h128 [ac] := KC126.ext E128
  have hZ128 := Sb128.hZ
  have hO128 := Sb128.hO
  show Go p.tables e below Pf (T128.setTop (mkF m 21 #[.val (.ref ac), .val (.ref p1), .val (.ref p2), .val (.ref p3), .val (.ref p4)] [(.ref a128), (.ref p3)]))
  obtain ⟨_, _, ⟨T129, L129, k129, n129⟩, -, X129, ⟨Lc129, hQ129, l129, y129, z129⟩, st129⟩ := Jvm.LawKit.callS X128 hx (y := (⟨"java/util/Objects", "requireNonNull", "(Ljava/lang/Object;Ljava/lang/String;)Ljava/lang/Object;"⟩ : MethodName)) hO128 (mvT hZ128 hw64) (mvT hZ128 hw65) (mvT hZ128 hw66) (mvT hZ128 hw67) (by decide) (backOf (W := 0) (rmRN l Z a0 hw [] vcs G p3 a128 h128 n0 O128 ) hZ128 hw67 hw66 (by decide) (by decide)) (g := (mkF m 21 #[.val (.ref ac), .val (.ref p1), .val (.ref p2), .val (.ref p3), .val (.ref p4)] [(.ref a128), (.ref p3)])) rfl (by rw [hml]; rfl) (argsL := [(.ref p3), (.ref a128)]) (rest := []) (lenOf pd_11 rfl) rfl (by show 2 * 0 + _ ≤ _; exact Nat.le_of_eq rfl) (hb hby d12_21) (fun _ _ => ⟨rfl, e128, (by decide : 6 + 0 ≤ _), (by decide : 88 + 0 ≤ _)⟩)
  dsimp only [Pt.U, Pt.locs, Pt.cells, Pt.slots] at X129 l129 y129 z129 st129 hQ129
  subst l129 y129 z129
  obtain ⟨rfl, rfl, e129⟩ := hQ129
  try replace X129 := own_nil X129
  refine Go.by' st129 ?_
  show Go p.tables e below Pf (T129.setTop (mkF m 24 #[.val (.ref ac), .val (.ref p1), .val (.ref p2), .val (.ref p3), .val (.ref p4)] [(.ref p3)]))
  refine Go.by' (fun t k => (XS.pop X129.here hx rfl (hb hby d12_24) rfl rfl (XS.aload X129.here hx rfl (hb hby d12_25) rfl rfl k))) ?_
  show Go p.tables e below Pf (T129.setTop (mkF m 27 #[.val (.ref ac), .val (.ref p1), .val (.ref p2), .val (.ref p3), .val (.ref p4)] [(.ref p4)]))
  obtain ⟨T130, h130, a130, bb130, kb130, X130, e130, E130, Sb130, A130, Ex130, Fc130, Fv130, Vb130, Ne130, st130⟩ := own_ldc X129 hx Sb128 hw70 hSA e129 hEL (List.mem_of_getElem? (i := 3) rfl) (vs := [(.int (101 : Int32)), (.int (118 : Int32)), (.int (101 : Int32)), (.int (110 : Int32)), (.int (116 : Int32)), (.int (79 : Int32)), (.int (114 : Int32)), (.int (65 : Int32)), (.int (99 : Int32)), (.int (116 : Int32)), (.int (105 : Int32)), (.int (111 : Int32)), (.int (110 : Int32))]) (z := (13 : Int32)) (by decide +kernel) (by decide) rfl (g := (mkF m 27 #[.val (.ref ac), .val (.ref p1), .val (.ref p2), .val (.ref p3), .val (.ref p4)] [(.ref p4)])) rfl (hb hby d12_27) (n := 52) (by decide +kernel) (by decide) (by decide) (by decide)
  refine Go.by' st130 ?_
  have O130 := O128.ext E130
  have KC130 : Keep h0 h130 [ac] := KC128.ext E130
  have hZ130 := Sb130.hZ
  have hO130 := Sb130.hO
  show Go p.tables e below Pf (T130.setTop (mkF m 29 #[.val (.ref ac), .val (.ref p1), .val (.ref p2), .val (.ref p3), .val (.ref p4)] [(.ref a130), (.ref p4)]))
  obtain ⟨_, _, ⟨T131, L131, k131, n131⟩, -, X131, ⟨Lc131, hQ131, l131, y131, z131⟩, st131⟩ := Jvm.LawKit.callS X130 hx (y := (⟨"java/util/Objects", "requireNonNull", "(Ljava/lang/Object;Ljava/lang/String;)Ljava/lang/Object;"⟩ : MethodName)) hO130 (mvT hZ130 hw64) (mvT hZ130 hw65) (mvT hZ130 hw66) (mvT hZ130 hw67) (by decide) (backOf (W := 0) (rmRN l Z a0 hw [] vcs G p4 a130 h130 n0 O130 ) hZ130 hw67 hw66 (by decide) (by decide)) (g := (mkF m 29 #[.val (.ref ac), .val (.ref p1), .val (.ref p2), .val (.ref p3), .val (.ref p4)] [(.ref a130), (.ref p4)])) rfl (by rw [hml]; rfl) (argsL := [(.ref p4), (.ref a130)]) (rest := []) (lenOf pd_11 rfl) rfl (by show 2 * 0 + _ ≤ _; exact Nat.le_of_eq rfl) (hb hby d12_29) (fun _ _ => ⟨rfl, e130, (by decide : 8 + 0 ≤ _), (by decide : 144 + 0 ≤ _)⟩)
  dsimp only [Pt.U, Pt.locs, Pt.cells, Pt.slots] at X131 l131 y131 z131 st131 hQ131
  subst l131 y131 z131
  obtain ⟨rfl, rfl, e131⟩ := hQ131
  try replace X131 := own_nil X131
  refine Go.by' st131 ?_
  show Go p.tables e below Pf (T131.setTop (mkF m 32 #[.val (.ref ac), .val (.ref p1), .val (.ref p2), .val (.ref p3), .val (.ref p4)] [(.ref p4)]))
  refine Go.by' (fun t k => (XS.pop X131.here hx rfl (hb hby d12_32) rfl rfl (XS.aloadN X131.here hx rfl (hb hby d12_33) rfl rfl (XS.aloadN X131.here hx rfl (hb hby d12_34) rfl rfl k)))) ?_
  show Go p.tables e below Pf (T131.setTop (mkF m 35 #[.val (.ref ac), .val (.ref p1), .val (.ref p2), .val (.ref p3), .val (.ref p4)] [(.ref p1), (.ref ac)]))
  have c132 := ((((EX.ext E124).ext E126).ext E128).ext E130)
  have c133 := ((((F_0.ext E124).ext E126).ext E128).ext E130)
  obtain ⟨T134, h134, X134, e134, W134, st134⟩ := putF X131 hx hZ130 hO130 (host := "") (Or.inl hw71) Via.refl e131 c133 c132 (Or.inr ⟨hw72, rfl, hnm⟩) hw52 (ty := (.object "java/lang/String")) (by decide) rfl rfl (g := (mkF m 35 #[.val (.ref ac), .val (.ref p1), .val (.ref p2), .val (.ref p3), .val (.ref p4)] [(.ref p1), (.ref ac)])) rfl rfl (hb hby d12_35)
  refine Go.by' st134 ?_
  have Fw134 : Fld Z h134 ac "com/example/meterline/meterline/core/EndDeviceEventType" "type" "Ljava/lang/String;" (Value.ref p1) := c133.same W134
  have N134 := Fr.snoc X134 N0 g_ac
  obtain ⟨lc134, X134, N134⟩ := own_pack X134 N134
  have Sb134 := Sb130.wr W134 (A130.safe (Nat.lt_of_lt_of_le EX.lt (Nat.le_trans E124.1 (Nat.le_trans E126.1 E128.1))) (A128.safe (Nat.lt_of_lt_of_le EX.lt (Nat.le_trans E124.1 E126.1)) (A126.safe (Nat.lt_of_lt_of_le EX.lt E124.1) (A124.safe EX.lt (hSf ac (List.mem_of_getElem? (i := 0) rfl))))))
  have O134 := O130.wr W134 g_ac
  have KC134 : Keep h0 h134 [ac] := KC130.wr W134 (Or.inl (List.mem_of_getElem? (i := 0) rfl))
  show Go p.tables e below Pf (T134.setTop (mkF m 38 #[.val (.ref ac), .val (.ref p1), .val (.ref p2), .val (.ref p3), .val (.ref p4)] []))
  refine Go.by' (fun t k => (XS.aloadN X134.here hx rfl (hb hby d12_38) rfl rfl (XS.aloadN X134.here hx rfl (hb hby d12_39) rfl rfl k))) ?_
  show Go p.tables e below Pf (T134.setTop (mkF m 40 #[.val (.ref ac), .val (.ref p1), .val (.ref p2), .val (.ref p3), .val (.ref p4)] [(.ref p2), (.ref ac)]))
  have c135 := (((((F_1.ext E124).ext E126).ext E128).ext E130).other W134 (Or.inr (slot_ne (Or.inr hw74) (Or.inr hw72) (by decide) (t := (.object "java/lang/String")) (t' := (.object "java/lang/String")) (by decide) (by decide))))
  obtain ⟨T136, h136, X136, e136, W136, st136⟩ := putF X134 hx hZ130 hO130 (host := "") (Or.inl hw73) Via.refl e134 c135 (c132.wr W134) (Or.inr ⟨hw74, rfl, hnm⟩) hw52 (ty := (.object "java/lang/String")) (by decide) rfl rfl (g := (mkF m 40 #[.val (.ref ac), .val (.ref p1), .val (.ref p2), .val (.ref p3), .val (.ref p4)] [(.ref p2), (.ref ac)])) rfl rfl (hb hby d12_40)
  refine Go.by' st136 ?_
  have Fw136 : Fld Z h136 ac "com/example/meterline/meterline/core/EndDeviceEventType" "domain" "Ljava/lang/String;" (Value.ref p2) := c135.same W136
  have N136 := Fr.snoc X136 N134 g_ac
  obtain ⟨lc136, X136, N136⟩ := own_pack X136 N136
  have Sb136 := Sb134.wr W136 (Safe.wr W134 (A130.safe (Nat.lt_of_lt_of_le EX.lt (Nat.le_trans E124.1 (Nat.le_trans E126.1 E128.1))) (A128.safe (Nat.lt_of_lt_of_le EX.lt (Nat.le_trans E124.1 E126.1)) (A126.safe (Nat.lt_of_lt_of_le EX.lt E124.1) (A124.safe EX.lt (hSf ac (List.mem_of_getElem? (i := 0) rfl)))))) Sb130.ch (A130.safe (Nat.lt_of_lt_of_le EX.lt (Nat.le_trans E124.1 (Nat.le_trans E126.1 E128.1))) (A128.safe (Nat.lt_of_lt_of_le EX.lt (Nat.le_trans E124.1 E126.1)) (A126.safe (Nat.lt_of_lt_of_le EX.lt E124.1) (A124.safe EX.lt (hSf ac (List.mem_of_getElem? (i := 0) rfl)))))))
  have O136 := O134.wr W136 g_ac
  have KC136 : Keep h0 h136 [ac] := KC134.wr W136 (Or.inl (List.mem_of_getElem? (i := 0) rfl))
  show Go p.tables e below Pf (T136.setTop (mkF m 43 #[.val (.ref ac), .val (.ref p1), .val (.ref p2), .val (.ref p3), .val (.ref p4)] []))
  refine Go.by' (fun t k => (XS.aloadN X136.here hx rfl (hb hby d12_43) rfl rfl (XS.aloadN X136.here hx rfl (hb hby d12_44) rfl rfl k))) ?_
  show Go p.tables e below Pf (T136.setTop (mkF m 45 #[.val (.ref ac), .val (.ref p1), .val (.ref p2), .val (.ref p3), .val (.ref p4)] [(.ref p3), (.ref ac)]))
  have c137 := ((c132.wr W134).wr W136)
  have c138 := ((((((F_2.ext E124).ext E126).ext E128).ext E130).other W134 (Or.inr (slot_ne (Or.inr hw76) (Or.inr hw72) (by decide) (t := (.object "java/lang/String")) (t' := (.object "java/lang/String")) (by decide) (by decide)))).other W136 (Or.inr (slot_ne (Or.inr hw76) (Or.inr hw74) (by decide) (t := (.object "java/lang/String")) (t' := (.object "java/lang/String")) (by decide) (by decide))))
  obtain ⟨T139, h139, X139, e139, W139, st139⟩ := putF X136 hx hZ130 hO130 (host := "") (Or.inl hw75) Via.refl e136 c138 c137 (Or.inr ⟨hw76, rfl, hnm⟩) hw52 (ty := (.object "java/lang/String")) (by decide) rfl rfl (g := (mkF m 45 #[.val (.ref ac), .val (.ref p1), .val (.ref p2), .val (.ref p3), .val (.ref p4)] [(.ref p3), (.ref ac)])) rfl rfl (hb hby d12_45)
  refine Go.by' st139 ?_
  have Fw139 : Fld Z h139 ac "com/example/meterline/meterline/core/EndDeviceEventType" "subdomain" "Ljava/lang/String;" (Value.ref p3) := c138.same W139
  have N139 := Fr.snoc X139 N136 g_ac
  obtain ⟨lc139, X139, N139⟩ := own_pack X139 N139
  have Sb139 := Sb136.wr W139 (Safe.wr W136 (Safe.wr W134 (A130.safe (Nat.lt_of_lt_of_le EX.lt (Nat.le_trans E124.1 (Nat.le_trans E126.1 E128.1))) (A128.safe (Nat.lt_of_lt_of_le EX.lt (Nat.le_trans E124.1 E126.1)) (A126.safe (Nat.lt_of_lt_of_le EX.lt E124.1) (A124.safe EX.lt (hSf ac (List.mem_of_getElem? (i := 0) rfl)))))) Sb130.ch (A130.safe (Nat.lt_of_lt_of_le EX.lt (Nat.le_trans E124.1 (Nat.le_trans E126.1 E128.1))) (A128.safe (Nat.lt_of_lt_of_le EX.lt (Nat.le_trans E124.1 E126.1)) (A126.safe (Nat.lt_of_lt_of_le EX.lt E124.1) (A124.safe EX.lt (hSf ac (List.mem_of_getElem? (i := 0) rfl))))))) Sb134.ch (Safe.wr W134 (A130.safe (Nat.lt_of_lt_of_le EX.lt (Nat.le_trans E124.1 (Nat.le_trans E126.1 E128.1))) (A128.safe (Nat.lt_of_lt_of_le EX.lt (Nat.le_trans E124.1 E126.1)) (A126.safe (Nat.lt_of_lt_of_le EX.lt E124.1) (A124.safe EX.lt (hSf ac (List.mem_of_getElem? (i := 0) rfl)))))) Sb130.ch (A130.safe (Nat.lt_of_lt_of_le EX.lt (Nat.le_trans E124.1 (Nat.le_trans E126.1 E128.1))) (A128.safe (Nat.lt_of_lt_of_le EX.lt (Nat.le_trans E124.1 E126.1)) (A126.safe (Nat.lt_of_lt_of_le EX.lt E124.1) (A124.safe EX.lt (hSf ac (List.mem_of_getElem? (i := 0) rfl))))))))
  have O139 := O136.wr W139 g_ac
  have KC139 : Keep h0 h139 [ac] := KC136.wr W139 (Or.inl (List.mem_of_getElem? (i := 0) rfl))
  show Go p.tables e below Pf (T139.setTop (mkF m 48 #[.val (.ref ac), .val (.ref p1), .val (.ref p2), .val (.ref p3), .val (.ref p4)] []))
  refine Go.by' (fun t k => (XS.aloadN X139.here hx rfl (hb hby d12_48) rfl rfl (XS.aload X139.here hx rfl (hb hby d12_49) rfl rfl k))) ?_
  show Go p.tables e below Pf (T139.setTop (mkF m 51 #[.val (.ref ac), .val (.ref p1), .val (.ref p2), .val (.ref p3), .val (.ref p4)] [(.ref p4), (.ref ac)]))
  have c140 := (((((((F_3.ext E124).ext E126).ext E128).ext E130).other W134 (Or.inr (slot_ne (Or.inr hw78) (Or.inr hw72) (by decide) (t := (.object "java/lang/String")) (t' := (.object "java/lang/String")) (by decide) (by decide)))).other W136 (Or.inr (slot_ne (Or.inr hw78) (Or.inr hw74) (by decide) (t := (.object "java/lang/String")) (t' := (.object "java/lang/String")) (by decide) (by decide)))).other W139 (Or.inr (slot_ne (Or.inr hw78) (Or.inr hw76) (by decide) (t := (.object "java/lang/String")) (t' := (.object "java/lang/String")) (by decide) (by decide))))
  obtain ⟨T141, h141, X141, e141, W141, st141⟩ := putF X139 hx hZ130 hO130 (host := "") (Or.inl hw77) Via.refl e139 c140 (c137.wr W139) (Or.inr ⟨hw78, rfl, hnm⟩) hw52 (ty := (.object "java/lang/String")) (by decide) rfl rfl (g := (mkF m 51 #[.val (.ref ac), .val (.ref p1), .val (.ref p2), .val (.ref p3), .val (.ref p4)] [(.ref p4), (.ref ac)])) rfl rfl (hb hby d12_51)
  refine Go.by' st141 ?_
  have Fw141 : Fld Z h141 ac "com/example/meterline/meterline/core/EndDeviceEventType" "eventOrAction" "Ljava/lang/String;" (Value.ref p4) := c140.same W141
  have N141 := Fr.snoc X141 N139 g_ac
  obtain ⟨lc141, X141, N141⟩ := own_pack X141 N141
  have Sb141 := Sb139.wr W141 (Safe.wr W139 (Safe.wr W136 (Safe.wr W134 (A130.safe (Nat.lt_of_lt_of_le EX.lt (Nat.le_trans E124.1 (Nat.le_trans E126.1 E128.1))) (A128.safe (Nat.lt_of_lt_of_le EX.lt (Nat.le_trans E124.1 E126.1)) (A126.safe (Nat.lt_of_lt_of_le EX.lt E124.1) (A124.safe EX.lt (hSf ac (List.mem_of_getElem? (i := 0) rfl)))))) Sb130.ch (A130.safe (Nat.lt_of_lt_of_le EX.lt (Nat.le_trans E124.1 (Nat.le_trans E126.1 E128.1))) (A128.safe (Nat.lt_of_lt_of_le EX.lt (Nat.le_trans E124.1 E126.1)) (A126.safe (Nat.lt_of_lt_of_le EX.lt E124.1) (A124.safe EX.lt (hSf ac (List.mem_of_getElem? (i := 0) rfl))))))) Sb134.ch (Safe.wr W134 (A130.safe (Nat.lt_of_lt_of_le EX.lt (Nat.le_trans E124.1 (Nat.le_trans E126.1 E128.1))) (A128.safe (Nat.lt_of_lt_of_le EX.lt (Nat.le_trans E124.1 E126.1)) (A126.safe (Nat.lt_of_lt_of_le EX.lt E124.1) (A124.safe EX.lt (hSf ac (List.mem_of_getElem? (i := 0) rfl)))))) Sb130.ch (A130.safe (Nat.lt_of_lt_of_le EX.lt (Nat.le_trans E124.1 (Nat.le_trans E126.1 E128.1))) (A128.safe (Nat.lt_of_lt_of_le EX.lt (Nat.le_trans E124.1 E126.1)) (A126.safe (Nat.lt_of_lt_of_le EX.lt E124.1) (A124.safe EX.lt (hSf ac (List.mem_of_getElem? (i := 0) rfl)))))))) Sb136.ch (Safe.wr W136 (Safe.wr W134 (A130.safe (Nat.lt_of_lt_of_le EX.lt (Nat.le_trans E124.1 (Nat.le_trans E126.1 E128.1))) (A128.safe (Nat.lt_of_lt_of_le EX.lt (Nat.le_trans E124.1 E126.1)) (A126.safe (Nat.lt_of_lt_of_le EX.lt E124.1) (A124.safe EX.lt (hSf ac (List.mem_of_getElem? (i := 0) rfl)))))) Sb130.ch (A130.safe (Nat.lt_of_lt_of_le EX.lt (Nat.le_trans E124.1 (Nat.le_trans E126.1 E128.1))) (A128.safe (Nat.lt_of_lt_of_le EX.lt (Nat.le_trans E124.1 E126.1)) (A126.safe (Nat.lt_of_lt_of_le EX.lt E124.1) (A124.safe EX.lt (hSf ac (List.mem_of_getElem? (i := 0) rfl))))))) Sb134.ch (Safe.wr W134 (A130.safe (Nat.lt_of_lt_of_le EX.lt (Nat.le_trans E124.1 (Nat.le_trans E126.1 E128.1))) (A128.safe (Nat.lt_of_lt_of_le EX.lt (Nat.le_trans E124.1 E126.1)) (A126.safe (Nat.lt_of_lt_of_le EX.lt E124.1) (A124.safe EX.lt (hSf ac (List.mem_of_getElem? (i := 0) rfl)))))) Sb130.ch (A130.safe (Nat.lt_of_lt_of_le EX.lt (Nat.le_trans E124.1 (Nat.le_trans E126.1 E128.1))) (A128.safe (Nat.lt_of_lt_of_le EX.lt (Nat.le_trans E124.1 E126.1)) (A126.safe (Nat.lt_of_lt_of_le EX.lt E124.1) (A124.safe EX.lt (hSf ac (List.mem_of_getElem? (i := 0) rfl)))))))))
  have O141 := O139.wr W141 g_ac
  have KC141 : Keep h0 h141 [ac] := KC139.wr W141 (Or.inl (List.mem_of_getElem? (i := 0) rfl))
  show Go p.tables e below Pf (T141.setTop (mkF m 54 #[.val (.ref ac), .val (.ref p1), .val (.ref p2), .val (.ref p3), .val (.ref p4)] []))
  have c142 := ((c137.wr W139).wr W141)
  have c143 := (((Fw134.other W136 (Or.inr (slot_ne (Or.inr hw72) (Or.inr hw74) (by decide) (t := (.object "java/lang/String")) (t' := (.object "java/lang/String")) (by decide) (by decide)))).other W139 (Or.inr (slot_ne (Or.inr hw72) (Or.inr hw76) (by decide) (t := (.object "java/lang/String")) (t' := (.object "java/lang/String")) (by decide) (by decide)))).other W141 (Or.inr (slot_ne (Or.inr hw72) (Or.inr hw78) (by decide) (t := (.object "java/lang/String")) (t' := (.object "java/lang/String")) (by decide) (by decide))))
  have c144 := ((Fw136.other W139 (Or.inr (slot_ne (Or.inr hw74) (Or.inr hw76) (by decide) (t := (.object "java/lang/String")) (t' := (.object "java/lang/String")) (by decide) (by decide)))).other W141 (Or.inr (slot_ne (Or.inr hw74) (Or.inr hw78) (by decide) (t := (.object "java/lang/String")) (t' := (.object "java/lang/String")) (by decide) (by decide))))
  rw [hPf]
  exact Go.retVS X141 hx hEL Sb141 e141 hh hret hlk (hb hby d12_54) (by decide) (by decide) ⟨rfl, N141, (by rw [e141]; exact KC141), (by rw [e141]; exact c142), (by rw [e141]; exact c143), (by rw [e141]; exact c144), (by rw [e141]; exact (Fw139.other W141 (Or.inr (slot_ne (Or.inr hw76) (Or.inr hw78) (by decide) (t := (.object "java/lang/String")) (t' := (.object "java/lang/String")) (by decide) (by decide))))), (by rw [e141]; exact Fw141)⟩
theorem d16_0 : decode prog_28_method_3_code 0 = .ok (.ldc 32, 2) := by decide +kernel
theorem d16_2 : decode prog_28_method_3_code 2 = .ok (.aload_n 0, 1) := by decide +kernel
theorem d16_3 : decode prog_28_method_3_code 3 = .ok (.getfield 21, 3) := by decide +kernel
theorem d16_6 : decode prog_28_method_3_code 6 = .ok (.invokevirtual 34, 3) := by decide +kernel
theorem pd_12 : parseMethodDescriptor "(Ljava/lang/Object;)Z" = some ⟨[(.object "java/lang/Object")], some .boolean⟩ := by decide +kernel
theorem d16_9 : decode prog_28_method_3_code 9 = .ok (.ifCond .ne 43, 3) := by decide +kernel
theorem d16_52 : decode prog_28_method_3_code 52 = .ok (.iconst 0, 1) := by decide +kernel
theorem d16_53 : decode prog_28_method_3_code 53 = .ok (.ireturn, 1) := by decide +kernel
theorem d16_12 : decode prog_28_method_3_code 12 = .ok (.ldc 32, 2) := by decide +kernel
theorem d16_14 : decode prog_28_method_3_code 14 = .ok (.aload_n 0, 1) := by decide +kernel
theorem d16_15 : decode prog_28_method_3_code 15 = .ok (.getfield 26, 3) := by decide +kernel
theorem d16_18 : decode prog_28_method_3_code 18 = .ok (.invokevirtual 34, 3) := by decide +kernel
theorem d16_21 : decode prog_28_method_3_code 21 = .ok (.ifCond .ne 31, 3) := by decide +kernel
theorem d16_24 : decode prog_28_method_3_code 24 = .ok (.ldc 32, 2) := by decide +kernel
theorem d16_26 : decode prog_28_method_3_code 26 = .ok (.aload_n 0, 1) := by decide +kernel
theorem d16_27 : decode prog_28_method_3_code 27 = .ok (.getfield 28, 3) := by decide +kernel
theorem d16_30 : decode prog_28_method_3_code 30 = .ok (.invokevirtual 34, 3) := by decide +kernel
theorem d16_33 : decode prog_28_method_3_code 33 = .ok (.ifCond .ne 19, 3) := by decide +kernel
theorem d16_36 : decode prog_28_method_3_code 36 = .ok (.ldc 32, 2) := by decide +kernel
theorem d16_38 : decode prog_28_method_3_code 38 = .ok (.aload_n 0, 1) := by decide +kernel
theorem d16_39 : decode prog_28_method_3_code 39 = .ok (.getfield 30, 3) := by decide +kernel
theorem d16_42 : decode prog_28_method_3_code 42 = .ok (.invokevirtual 34, 3) := by decide +kernel
theorem d16_45 : decode prog_28_method_3_code 45 = .ok (.ifCond .ne 7, 3) := by decide +kernel
theorem d16_48 : decode prog_28_method_3_code 48 = .ok (.iconst 1, 1) := by decide +kernel
theorem d16_49 : decode prog_28_method_3_code 49 = .ok (.goto 4, 3) := by decide +kernel
theorem pn_16 : plainName "com/example/meterline/meterline/core/EndDeviceEventType" = true := by first | (simp [plainName, overriddenIn]; done) | decide +kernel
set_option maxHeartbeats 4000000 in
theorem ef_rmIs (m : MethodId) {ac : Addr} : entryFrame m #[(.ref ac)] 1 = mkF m 0 #[.val (.ref ac)] [] := by first | (simp [entryFrame, mkF, argsToLocals, Value.category]; done) | rfl
def QrmIs (Z : State) (vcs : Int32) (ac : Addr) (p1 : Addr) (pv1 : Addr) (pk1 : ClassId) (pz1 : Int32) (pl1 : (List Value)) (p2 : Addr) (pv2 : Addr) (pk2 : ClassId) (pz2 : Int32) (pl2 : (List Value)) (p3 : Addr) (pv3 : Addr) (pk3 : ClassId) (pz3 : Int32) (pl3 : (List Value)) (p4 : Addr) (pv4 : Addr) (pk4 : ClassId) (pz4 : Int32) (pl4 : (List Value)) (h0 : Heap) (n0 : Nat) (v : Option Value) (h : Heap) (vm : Vm) (L : List Loc) : Prop := ∃ (r : Int32), (v = some (.int r)) ∧ (Fr n0 L) ∧ (Keep h0 h []) ∧ ((¬ (pl1 = [(.int (42 : Int32))]) ∧ ¬ (pl2 = [(.int (42 : Int32))]) ∧ ¬ (pl3 = [(.int (42 : Int32))]) ∧ ¬ (pl4 = [(.int (42 : Int32))]) ∧ r = (1 : Int32)) ∨ (¬ (¬ (pl1 = [(.int (42 : Int32))]) ∧ ¬ (pl2 = [(.int (42 : Int32))]) ∧ ¬ (pl3 = [(.int (42 : Int32))]) ∧ ¬ (pl4 = [(.int (42 : Int32))])) ∧ r = (0 : Int32)))
set_option maxRecDepth 65536 in
set_option maxHeartbeats 40000000 in
theorem rmIs (l : Launch) (Z : State) (a0 : Array Value) (hw : ∀ d ∈ tables_1, d.before a0 Z = true) (ws : List Jvm.Cond) (vcs : Int32) (G : Gh Z vcs) (ac : Addr) (p1 : Addr) (pv1 : Addr) (pk1 : ClassId) (pz1 : Int32) (pl1 : (List Value)) (p2 : Addr) (pv2 : Addr) (pk2 : ClassId) (pz2 : Int32) (pl2 : (List Value)) (p3 : Addr) (pv3 : Addr) (pk3 : ClassId) (pz3 : Int32) (pl3 : (List Value)) (p4 : Addr) (pv4 : Addr) (pk4 : ClassId) (pz4 : Int32) (pl4 : (List Value)) (h0 : Heap) (n0 : Nat) (O0 : Old Z n0 h0) (EX : Exa Z h0 ac "com/example/meterline/meterline/core/EndDeviceEventType") (F_0 : Fld Z h0 ac "com/example/meterline/meterline/core/EndDeviceEventType" "type" "Ljava/lang/String;" (.ref p1)) (XS1 : Exa Z h0 p1 "java/lang/String") (FV1 : Fld Z h0 p1 "java/lang/String" "value" "[B" (.ref pv1)) (FC1 : Fld Z h0 p1 "java/lang/String" "coder" "B" (.int (0 : Int32))) (VV1 : Arv Z h0 pv1 pk1 .byte pz1 pl1 (.int (0 : Int32))) (hK1 : Knd pz1 pl1) (F_1 : Fld Z h0 ac "com/example/meterline/meterline/core/EndDeviceEventType" "domain" "Ljava/lang/String;" (.ref p2)) (XS2 : Exa Z h0 p2 "java/lang/String") (FV2 : Fld Z h0 p2 "java/lang/String" "value" "[B" (.ref pv2)) (FC2 : Fld Z h0 p2 "java/lang/String" "coder" "B" (.int (0 : Int32))) (VV2 : Arv Z h0 pv2 pk2 .byte pz2 pl2 (.int (0 : Int32))) (hK2 : Knd pz2 pl2) (F_2 : Fld Z h0 ac "com/example/meterline/meterline/core/EndDeviceEventType" "subdomain" "Ljava/lang/String;" (.ref p3)) (XS3 : Exa Z h0 p3 "java/lang/String") (FV3 : Fld Z h0 p3 "java/lang/String" "value" "[B" (.ref pv3)) (FC3 : Fld Z h0 p3 "java/lang/String" "coder" "B" (.int (0 : Int32))) (VV3 : Arv Z h0 pv3 pk3 .byte pz3 pl3 (.int (0 : Int32))) (hK3 : Knd pz3 pl3) (F_3 : Fld Z h0 ac "com/example/meterline/meterline/core/EndDeviceEventType" "eventOrAction" "Ljava/lang/String;" (.ref p4)) (XS4 : Exa Z h0 p4 "java/lang/String") (FV4 : Fld Z h0 p4 "java/lang/String" "value" "[B" (.ref pv4)) (FC4 : Fld Z h0 p4 "java/lang/String" "coder" "B" (.int (0 : Int32))) (VV4 : Arv Z h0 pv4 pk4 .byte pz4 pl4 (.int (0 : Int32))) (hK4 : Knd pz4 pl4) :
    MetFree l (⟨"com/example/meterline/meterline/core/EndDeviceEventType", "isSpecific", "()Z"⟩ : MethodName) (head1 (Jvm.Cond.code (⟨"com/example/meterline/meterline/core/EndDeviceEventType", "isSpecific", "()Z"⟩ : MethodName) prog_28_method_3_code 1 (some .boolean) :: ws) ({ frames := 2, cells := 8, slots := 32, locals := 28 } : Room)) (fun aa' UU' => aa' = #[(.ref ac)] ∧ Z.Warmed39 UU'.vm ∧ UU'.heap = h0 ∧ CHv Z consts_1 UU'.vm h0 ∧ ∀ x ∈ ([p1, p2, p3, p4] : List Addr), Safe Z consts_1 UU'.vm h0 x) (fun _ _ _ _ _ => True) (fun _ UU' oo' VV' => ∃ v' L', oo' = .returned v' ∧ QrmIs Z vcs ac p1 pv1 pk1 pz1 pl1 p2 pv2 pk2 pz2 pl2 p3 pv3 pk3 pz3 pl3 p4 pv4 pk4 pz4 pl4 h0 n0 v' VV'.heap VV'.vm L' ∧ CHr Z consts_1 UU'.vm UU'.heap VV'.vm VV'.heap ∧ ReturnedEndW UU' oo' VV' L' ({ frames := 2, cells := 8, slots := 32, locals := 28 } : Room).cells ({ frames := 2, cells := 8, slots := 32, locals := 28 } : Room).slots) := by
  refine MetFree.of_bodySF (plainFor_of_name pn_16) hisR ?_
  intro p e s m args below meth c s₁ Bd hml0 hP hK
  obtain ⟨rfl, hZ, hh, hCH, hSf⟩ := hP
  have hx := Bd.exec
  have hby := Bd.bytes
  have hlk := Bd.notSynchronized
  have hml : c.maxLocals = 1 := hml0
  have hown : s.vm.findClass "com/example/meterline/meterline/core/EndDeviceEventType" = some m.cls := findClass_of_methodNamed Bd.named
  have hnm := (name_of_methodNamed Bd.named Bd.method).1
  have hret := Bd.returns
  have X0 : Stand p l e ({ frames := 2, cells := 8, slots := 32, locals := 28 } : Room) (s.setVm s.vm) m #[(.ref ac)] below meth c s₁ [] 0 0 := Stand.of_body Bd
  have e0 : s₁.heap = h0 := by rw [← hh, Bd.state]; rfl
  have N0 := Fr.nil n0
  have KC0 : Keep h0 h0 [] := Keep.refl _ _
  have Sb0 := Sb.start hZ hown hCH
  have hEL := own_EW hw
  have hSA := own_SA hw
  refine Go.bodyS ?_
  obtain ⟨Pf, hPf⟩ : ∃ P, P = FinS Z consts_1 s below ({ frames := 2, cells := 8, slots := 32, locals := 28 } : Room).cells ({ frames := 2, cells := 8, slots := 32, locals := 28 } : Room).slots (QrmIs Z vcs ac p1 pv1 pk1 pz1 pl1 p2 pv2 pk2 pz2 pl2 p3 pv3 pk3 pz3 pl3 p4 pv4 pk4 pz4 pl4 h0 n0) := ⟨_, rfl⟩
  rw [← hPf]
  refine Go.cast (ef_rmIs m) ?_
  have hw6 := (hw _ (List.mem_of_getElem? (i := 6) rfl))
  have hw71 := (hw _ (List.mem_of_getElem? (i := 71) rfl))
  have hw73 := (hw _ (List.mem_of_getElem? (i := 73) rfl))
  have hw75 := (hw _ (List.mem_of_getElem? (i := 75) rfl))
  have hw77 := (hw _ (List.mem_of_getElem? (i := 77) rfl))
  have hw87 := (hw _ (List.mem_of_getElem? (i := 87) rfl))
  have hw88 := (hw _ (List.mem_of_getElem? (i := 88) rfl))
  have hw89 := (hw _ (List.mem_of_getElem? (i := 89) rfl))
  have hw90 := (hw _ (List.mem_of_getElem? (i := 90) rfl))
  have hw91 := (hw _ (List.mem_of_getElem? (i := 91) rfl))
  have hw92 := (hw _ (List.mem_of_getElem? (i := 92) rfl))
  show Go p.tables e below Pf (s₁.setTop (mkF m 0 #[.val (.ref ac)] []))
  obtain ⟨T145, h145, a145, bb145, kb145, X145, e145, E145, Sb145, A145, Ex145, Fc145, Fv145, Vb145, Ne145, st145⟩ := own_ldc X0 hx Sb0 hw87 hSA e0 hEL (List.mem_of_getElem? (i := 4) rfl) (vs := [(.int (42 : Int32))]) (z := (1 : Int32)) (by decide +kernel) (by decide) rfl (g := (mkF m 0 #[.val (.ref ac)] [])) rfl (hb hby d16_0) (n := 4) (by decide +kernel) (by decide) (by decide) (by decide)
  refine Go.by' st145 ?_
  have O145 := O0.ext E145
  have KC145 : Keep h0 h145 [] := KC0.ext E145
  have hZ145 := Sb145.hZ
  have hO145 := Sb145.hO
  show Go p.tables e below Pf (T145.setTop (mkF m 2 #[.val (.ref ac)] [(.ref a145)]))
  refine Go.by' (fun t k => (XS.aloadN X145.here hx rfl (hb hby d16_2) rfl rfl k)) ?_
  show Go p.tables e below Pf (T145.setTop (mkF m 3 #[.val (.ref ac)] [(.ref ac), (.ref a145)]))
  obtain ⟨T146, X146, e146, st146⟩ := getF X145 hx hZ145 hO145 (host := "") (Or.inl hw71) Via.refl e145 (F_0.ext E145) (g := (mkF m 3 #[.val (.ref ac)] [(.ref ac), (.ref a145)])) rfl rfl (hb hby d16_3)
  refine Go.by' st146 ?_
  show Go p.tables e below Pf (T146.setTop (mkF m 6 #[.val (.ref ac)] [(.ref p1), (.ref a145)]))
  obtain ⟨cq147, kq147, q147a, q147b, q147c⟩ := isOf hZ145 e146 Ex145
  obtain ⟨_, _, ⟨T147, L147, k147, n147⟩, -, X147, ⟨Lc147, hQ147, l147, y147, z147⟩, st147⟩ := X146.virtualBack hx (y := (⟨"java/lang/String", "equals", "(Ljava/lang/Object;)Z"⟩ : MethodName)) (z := (⟨"java/lang/String", "equals", "(Ljava/lang/Object;)Z"⟩ : MethodName)) hO145 (mvT hZ145 hw88) (mvT hZ145 hw89) (notFace_of_selects (args := #[]) (mvT hZ145 hw91)) (mvT hZ145 hw91) (mvT hZ145 hw90) (by decide) (backOf (W := 0) (rmSEs l Z a0 hw [] vcs G a145 p1 bb145 pv1 kb145 pk1 pz1 pl1 h145 n0 O145 Ex145 (XS1.ext E145) Fv145 (FV1.ext E145) Fc145 (FC1.ext E145) (Ne.symm (Ne145 p1 (A145.safe XS1.lt (hSf p1 (List.mem_of_getElem? (i := 0) rfl)))).1) Vb145 (VV1.ext E145) hK1) hZ145 hw92 hw6 (by decide) (by decide)) q147a q147c (g := (mkF m 6 #[.val (.ref ac)] [(.ref p1), (.ref a145)])) rfl (by rw [hml]; rfl) (Steps.refl _) (argsL := [(.ref p1)]) (rest := []) (lenOf pd_12 rfl) rfl (by show 2 * 0 + _ ≤ _; exact Nat.le_of_eq rfl) (hb hby d16_6) (fun _ _ => ⟨rfl, e146, (by decide : 2 + 0 ≤ _), (by decide : 8 + 0 ≤ _)⟩)
  dsimp only [Pt.U, Pt.locs, Pt.cells, Pt.slots] at X147 l147 y147 z147 st147 hQ147
  subst l147 y147 z147
  obtain ⟨r_147, rfl, rfl, e147, r147_0⟩ := hQ147
  try replace X147 := own_nil X147
  refine Go.by' (fun t k => st147.trans k) ?_
  rcases r147_0 with ⟨hq147, hz147⟩ | ⟨hq147, hz147⟩
  · subst hz147
    show Go p.tables e below Pf (T147.setTop (mkF m 9 #[.val (.ref ac)] [(.int (1 : Int32))]))
    refine Go.by' (fun t k => (XS.ifYes X147.here hx rfl (pc0 := 9) (pc' := 52) rfl (hb hby d16_9) rfl ((if0 _ _).trans (feq (by decide)).2) (by decide) (by decide) (XS.iconst X147.here hx rfl (hb hby d16_52) k))) ?_
    show Go p.tables e below Pf (T147.setTop (mkF m 53 #[.val (.ref ac)] [(.int (0 : Int32))]))
    rw [hPf]
    exact Go.retIS X147 hx hEL Sb145 e147 hh hret hlk (by simp) rfl (hb hby d16_53) (by decide) (by decide) ⟨(0 : Int32), rfl, N0, (by rw [e147]; exact KC145), (Or.inr ⟨fun q => q.1 hq147, rfl⟩)⟩
  · subst hz147
    show Go p.tables e below Pf (T147.setTop (mkF m 9 #[.val (.ref ac)] [(.int (0 : Int32))]))
    refine Go.by' (fun t k => (XS.ifNo X147.here hx rfl (hb hby d16_9) rfl ((if0 _ _).trans (teq (by decide)).2) k)) ?_
    show Go p.tables e below Pf (T147.setTop (mkF m 12 #[.val (.ref ac)] []))
    obtain ⟨T148, h148, a148, bb148, kb148, X148, e148, E148, Sb148, A148, Ex148, Fc148, Fv148, Vb148, Ne148, st148⟩ := own_ldc X147 hx Sb145 hw87 hSA e147 hEL (List.mem_of_getElem? (i := 4) rfl) (vs := [(.int (42 : Int32))]) (z := (1 : Int32)) (by decide +kernel) (by decide) rfl (g := (mkF m 12 #[.val (.ref ac)] [])) rfl (hb hby d16_12) (n := 4) (by decide +kernel) (by decide) (by decide) (by decide)
    refine Go.by' st148 ?_
    have O148 := O145.ext E148
    have KC148 : Keep h0 h148 [] := KC145.ext E148
    have hZ148 := Sb148.hZ
    have hO148 := Sb148.hO
    show Go p.tables e below Pf (T148.setTop (mkF m 14 #[.val (.ref ac)] [(.ref a148)]))
    refine Go.by' (fun t k => (XS.aloadN X148.here hx rfl (hb hby d16_14) rfl rfl k)) ?_
    show Go p.tables e below Pf (T148.setTop (mkF m 15 #[.val (.ref ac)] [(.ref ac), (.ref a148)]))
    have c149 := ((F_1.ext E145).ext E148)
    obtain ⟨T150, X150, e150, st150⟩ := getF X148 hx hZ148 hO148 (host := "") (Or.inl hw73) Via.refl e148 c149 (g := (mkF m 15 #[.val (.ref ac)] [(.ref ac), (.ref a148)])) rfl rfl (hb hby d16_15)
    refine Go.by' st150 ?_
    show Go p.tables e below Pf (T150.setTop (mkF m 18 #[.val (.ref ac)] [(.ref p2), (.ref a148)]))
    have c152 := ((VV2.ext E145).ext E148)
    have c153 := ((XS2.ext E145).ext E148)
    have c154 := ((FV2.ext E145).ext E148)
    have c155 := ((FC2.ext E145).ext E148)
    obtain ⟨cq151, kq151, q151a, q151b, q151c⟩ := isOf hZ148 e150 Ex148
    obtain ⟨_, _, ⟨T151, L151, k151, n151⟩, -, X151, ⟨Lc151, hQ151, l151, y151, z151⟩, st151⟩ := X150.virtualBack hx (y := (⟨"java/lang/String", "equals", "(Ljava/lang/Object;)Z"⟩ : MethodName)) (z := (⟨"java/lang/String", "equals", "(Ljava/lang/Object;)Z"⟩ : MethodName)) hO148 (mvT hZ148 hw88) (mvT hZ148 hw89) (notFace_of_selects (args := #[]) (mvT hZ148 hw91)) (mvT hZ148 hw91) (mvT hZ148 hw90) (by decide) (backOf (W := 0) (rmSEs l Z a0 hw [] vcs G a148 p2 bb148 pv2 kb148 pk2 pz2 pl2 h148 n0 O148 Ex148 c153 Fv148 c154 Fc148 c155 (Ne.symm (Ne148 p2 (A148.safe (Nat.lt_of_lt_of_le XS2.lt E145.1) (A145.safe XS2.lt (hSf p2 (List.mem_of_getElem? (i := 1) rfl))))).1) Vb148 c152 hK2) hZ148 hw92 hw6 (by decide) (by decide)) q151a q151c (g := (mkF m 18 #[.val (.ref ac)] [(.ref p2), (.ref a148)])) rfl (by rw [hml]; rfl) (Steps.refl _) (argsL := [(.ref p2)]) (rest := []) (lenOf pd_12 rfl) rfl (by show 2 * 0 + _ ≤ _; exact Nat.le_of_eq rfl) (hb hby d16_18) (fun _ _ => ⟨rfl, e150, (by decide : 4 + 0 ≤ _), (by decide : 16 + 0 ≤ _)⟩)
    dsimp only [Pt.U, Pt.locs, Pt.cells, Pt.slots] at X151 l151 y151 z151 st151 hQ151
    subst l151 y151 z151
    obtain ⟨r_151, rfl, rfl, e151, r151_0⟩ := hQ151
    try replace X151 := own_nil X151
    refine Go.by' (fun t k => st151.trans k) ?_
    rcases r151_0 with ⟨hq151, hz151⟩ | ⟨hq151, hz151⟩
    · subst hz151
      show Go p.tables e below Pf (T151.setTop (mkF m 21 #[.val (.ref ac)] [(.int (1 : Int32))]))
      refine Go.by' (fun t k => (XS.ifYes X151.here hx rfl (pc0 := 21) (pc' := 52) rfl (hb hby d16_21) rfl ((if0 _ _).trans (feq (by decide)).2) (by decide) (by decide) (XS.iconst X151.here hx rfl (hb hby d16_52) k))) ?_
      show Go p.tables e below Pf (T151.setTop (mkF m 53 #[.val (.ref ac)] [(.int (0 : Int32))]))
      rw [hPf]
      exact Go.retIS X151 hx hEL Sb148 e151 hh hret hlk (by simp) rfl (hb hby d16_53) (by decide) (by decide) ⟨(0 : Int32), rfl, N0, (by rw [e151]; exact KC148), (Or.inr ⟨fun q => q.2.1 hq151, rfl⟩)⟩
    · subst hz151
      show Go p.tables e below Pf (T151.setTop (mkF m 21 #[.val (.ref ac)] [(.int (0 : Int32))]))
      refine Go.by' (fun t k => (XS.ifNo X151.here hx rfl (hb hby d16_21) rfl ((if0 _ _).trans (teq (by decide)).2) k)) ?_
      show Go p.tables e below Pf (T151.setTop (mkF m 24 #[.val (.ref ac)] []))
      obtain ⟨T156, h156, a156, bb156, kb156, X156, e156, E156, Sb156, A156, Ex156, Fc156, Fv156, Vb156, Ne156, st156⟩ := own_ldc X151 hx Sb148 hw87 hSA e151 hEL (List.mem_of_getElem? (i := 4) rfl) (vs := [(.int (42 : Int32))]) (z := (1 : Int32)) (by decide +kernel) (by decide) rfl (g := (mkF m 24 #[.val (.ref ac)] [])) rfl (hb hby d16_24) (n := 4) (by decide +kernel) (by decide) (by decide) (by decide)
      refine Go.by' st156 ?_
      have O156 := O148.ext E156
      have KC156 : Keep h0 h156 [] := KC148.ext E156
      have hZ156 := Sb156.hZ
      have hO156 := Sb156.hO
      show Go p.tables e below Pf (T156.setTop (mkF m 26 #[.val (.ref ac)] [(.ref a156)]))
      refine Go.by' (fun t k => (XS.aloadN X156.here hx rfl (hb hby d16_26) rfl rfl k)) ?_
      show Go p.tables e below Pf (T156.setTop (mkF m 27 #[.val (.ref ac)] [(.ref ac), (.ref a156)]))
      have c157 := (((F_2.ext E145).ext E148).ext E156)
      obtain ⟨T158, X158, e158, st158⟩ := getF X156 hx hZ156 hO156 (host := "") (Or.inl hw75) Via.refl e156 c157 (g := (mkF m 27 #[.val (.ref ac)] [(.ref ac), (.ref a156)])) rfl rfl (hb hby d16_27)
      refine Go.by' st158 ?_
      show Go p.tables e below Pf (T158.setTop (mkF m 30 #[.val (.ref ac)] [(.ref p3), (.ref a156)]))
      have c160 := (((VV3.ext E145).ext E148).ext E156)
      have c161 := (((XS3.ext E145).ext E148).ext E156)
      have c162 := (((FV3.ext E145).ext E148).ext E156)
      have c163 := (((FC3.ext E145).ext E148).ext E156)
      obtain ⟨cq159, kq159, q159a, q159b, q159c⟩ := isOf hZ156 e158 Ex156
      obtain ⟨_, _, ⟨T159, L159, k159, n159⟩, -, X159, ⟨Lc159, hQ159, l159, y159, z159⟩, st159⟩ := X158.virtualBack hx (y := (⟨"java/lang/String", "equals", "(Ljava/lang/Object;)Z"⟩ : MethodName)) (z := (⟨"java/lang/String", "equals", "(Ljava/lang/Object;)Z"⟩ : MethodName)) hO156 (mvT hZ156 hw88) (mvT hZ156 hw89) (notFace_of_selects (args := #[]) (mvT hZ156 hw91)) (mvT hZ156 hw91) (mvT hZ156 hw90) (by decide) (backOf (W := 0) (rmSEs l Z a0 hw [] vcs G a156 p3 bb156 pv3 kb156 pk3 pz3 pl3 h156 n0 O156 Ex156 c161 Fv156 c162 Fc156 c163 (Ne.symm (Ne156 p3 (A156.safe (Nat.lt_of_lt_of_le XS3.lt (Nat.le_trans E145.1 E148.1)) (A148.safe (Nat.lt_of_lt_of_le XS3.lt E145.1) (A145.safe XS3.lt (hSf p3 (List.mem_of_getElem? (i := 2) rfl)))))).1) Vb156 c160 hK3) hZ156 hw92 hw6 (by decide) (by decide)) q159a q159c (g := (mkF m 30 #[.val (.ref ac)] [(.ref p3), (.ref a156)])) rfl (by rw [hml]; rfl) (Steps.refl _) (argsL := [(.ref p3)]) (rest := []) (lenOf pd_12 rfl) rfl (by show 2 * 0 + _ ≤ _; exact Nat.le_of_eq rfl) (hb hby d16_30) (fun _ _ => ⟨rfl, e158, (by decide : 6 + 0 ≤ _), (by decide : 24 + 0 ≤ _)⟩)
      dsimp only [Pt.U, Pt.locs, Pt.cells, Pt.slots] at X159 l159 y159 z159 st159 hQ159
      subst l159 y159 z159
      obtain ⟨r_159, rfl, rfl, e159, r159_0⟩ := hQ159
      try replace X159 := own_nil X159
      refine Go.by' (fun t k => st159.trans k) ?_
      rcases r159_0 with ⟨hq159, hz159⟩ | ⟨hq159, hz159⟩
      · subst hz159
        show Go p.tables e below Pf (T159.setTop (mkF m 33 #[.val (.ref ac)] [(.int (1 : Int32))]))
        refine Go.by' (fun t k => (XS.ifYes X159.here hx rfl (pc0 := 33) (pc' := 52) rfl (hb hby d16_33) rfl ((if0 _ _).trans (feq (by decide)).2) (by decide) (by decide) (XS.iconst X159.here hx rfl (hb hby d16_52) k))) ?_
        show Go p.tables e below Pf (T159.setTop (mkF m 53 #[.val (.ref ac)] [(.int (0 : Int32))]))
        rw [hPf]
        exact Go.retIS X159 hx hEL Sb156 e159 hh hret hlk (by simp) rfl (hb hby d16_53) (by decide) (by decide) ⟨(0 : Int32), rfl, N0, (by rw [e159]; exact KC156), (Or.inr ⟨fun q => q.2.2.1 hq159, rfl⟩)⟩
      · subst hz159
        show Go p.tables e below Pf (T159.setTop (mkF m 33 #[.val (.ref ac)] [(.int (0 : Int32))]))
        refine Go.by' (fun t k => (XS.ifNo X159.here hx rfl (hb hby d16_33) rfl ((if0 _ _).trans (teq (by decide)).2) k)) ?_
        show Go p.tables e below Pf (T159.setTop (mkF m 36 #[.val (.ref ac)] []))
        obtain ⟨T164, h164, a164, bb164, kb164, X164, e164, E164, Sb164, A164, Ex164, Fc164, Fv164, Vb164, Ne164, st164⟩ := own_ldc X159 hx Sb156 hw87 hSA e159 hEL (List.mem_of_getElem? (i := 4) rfl) (vs := [(.int (42 : Int32))]) (z := (1 : Int32)) (by decide +kernel) (by decide) rfl (g := (mkF m 36 #[.val (.ref ac)] [])) rfl (hb hby d16_36) (n := 4) (by decide +kernel) (by decide) (by decide) (by decide)
        refine Go.by' st164 ?_
        have O164 := O156.ext E164
        have KC164 : Keep h0 h164 [] := KC156.ext E164
        have hZ164 := Sb164.hZ
        have hO164 := Sb164.hO
        show Go p.tables e below Pf (T164.setTop (mkF m 38 #[.val (.ref ac)] [(.ref a164)]))
        refine Go.by' (fun t k => (XS.aloadN X164.here hx rfl (hb hby d16_38) rfl rfl k)) ?_
        show Go p.tables e below Pf (T164.setTop (mkF m 39 #[.val (.ref ac)] [(.ref ac), (.ref a164)]))
        have c165 := ((((F_3.ext E145).ext E148).ext E156).ext E164)
        obtain ⟨T166, X166, e166, st166⟩ := getF X164 hx hZ164 hO164 (host := "") (Or.inl hw77) Via.refl e164 c165 (g := (mkF m 39 #[.val (.ref ac)] [(.ref ac), (.ref a164)])) rfl rfl (hb hby d16_39)
        refine Go.by' st166 ?_
        show Go p.tables e below Pf (T166.setTop (mkF m 42 #[.val (.ref ac)] [(.ref p4), (.ref a164)]))
        have c168 := ((((VV4.ext E145).ext E148).ext E156).ext E164)
        have c169 := ((((XS4.ext E145).ext E148).ext E156).ext E164)
        have c170 := ((((FV4.ext E145).ext E148).ext E156).ext E164)
        have c171 := ((((FC4.ext E145).ext E148).ext E156).ext E164)
        obtain ⟨cq167, kq167, q167a, q167b, q167c⟩ := isOf hZ164 e166 Ex164
        obtain ⟨_, _, ⟨T167, L167, k167, n167⟩, -, X167, ⟨Lc167, hQ167, l167, y167, z167⟩, st167⟩ := X166.virtualBack hx (y := (⟨"java/lang/String", "equals", "(Ljava/lang/Object;)Z"⟩ : MethodName)) (z := (⟨"java/lang/String", "equals", "(Ljava/lang/Object;)Z"⟩ : MethodName)) hO164 (mvT hZ164 hw88) (mvT hZ164 hw89) (notFace_of_selects (args := #[]) (mvT hZ164 hw91)) (mvT hZ164 hw91) (mvT hZ164 hw90) (by decide) (backOf (W := 0) (rmSEs l Z a0 hw [] vcs G a164 p4 bb164 pv4 kb164 pk4 pz4 pl4 h164 n0 O164 Ex164 c169 Fv164 c170 Fc164 c171 (Ne.symm (Ne164 p4 (A164.safe (Nat.lt_of_lt_of_le XS4.lt (Nat.le_trans E145.1 (Nat.le_trans E148.1 E156.1))) (A156.safe (Nat.lt_of_lt_of_le XS4.lt (Nat.le_trans E145.1 E148.1)) (A148.safe (Nat.lt_of_lt_of_le XS4.lt E145.1) (A145.safe XS4.lt (hSf p4 (List.mem_of_getElem? (i := 3) rfl))))))).1) Vb164 c168 hK4) hZ164 hw92 hw6 (by decide) (by decide)) q167a q167c (g := (mkF m 42 #[.val (.ref ac)] [(.ref p4), (.ref a164)])) rfl (by rw [hml]; rfl) (Steps.refl _) (argsL := [(.ref p4)]) (rest := []) (lenOf pd_12 rfl) rfl (by show 2 * 0 + _ ≤ _; exact Nat.le_of_eq rfl) (hb hby d16_42) (fun _ _ => ⟨rfl, e166, (by decide : 8 + 0 ≤ _), (by decide : 32 + 0 ≤ _)⟩)
        dsimp only [Pt.U, Pt.locs, Pt.cells, Pt.slots] at X167 l167 y167 z167 st167 hQ167
        subst l167 y167 z167
        obtain ⟨r_167, rfl, rfl, e167, r167_0⟩ := hQ167
        try replace X167 := own_nil X167
        refine Go.by' (fun t k => st167.trans k) ?_
        rcases r167_0 with ⟨hq167, hz167⟩ | ⟨hq167, hz167⟩
        · subst hz167
          show Go p.tables e below Pf (T167.setTop (mkF m 45 #[.val (.ref ac)] [(.int (1 : Int32))]))
          refine Go.by' (fun t k => (XS.ifYes X167.here hx rfl (pc0 := 45) (pc' := 52) rfl (hb hby d16_45) rfl ((if0 _ _).trans (feq (by decide)).2) (by decide) (by decide) (XS.iconst X167.here hx rfl (hb hby d16_52) k))) ?_
          show Go p.tables e below Pf (T167.setTop (mkF m 53 #[.val (.ref ac)] [(.int (0 : Int32))]))
          rw [hPf]
          exact Go.retIS X167 hx hEL Sb164 e167 hh hret hlk (by simp) rfl (hb hby d16_53) (by decide) (by decide) ⟨(0 : Int32), rfl, N0, (by rw [e167]; exact KC164), (Or.inr ⟨fun q => q.2.2.2 hq167, rfl⟩)⟩
        · subst hz167
          show Go p.tables e below Pf (T167.setTop (mkF m 45 #[.val (.ref ac)] [(.int (0 : Int32))]))
          refine Go.by' (fun t k => (XS.ifNo X167.here hx rfl (hb hby d16_45) rfl ((if0 _ _).trans (teq (by decide)).2) (XS.iconst X167.here hx rfl (hb hby d16_48) (XS.goto X167.here hx rfl (pc0 := 49) (pc' := 53) rfl (hb hby d16_49) (by decide) (by decide) k)))) ?_
          show Go p.tables e below Pf (T167.setTop (mkF m 53 #[.val (.ref ac)] [(.int (1 : Int32))]))
          rw [hPf]
          exact Go.retIS X167 hx hEL Sb164 e167 hh hret hlk (by simp) rfl (hb hby d16_53) (by decide) (by decide) ⟨(1 : Int32), rfl, N0, (by rw [e167]; exact KC164), (Or.inl ⟨hq147, hq151, hq159, hq167, rfl⟩)⟩
theorem pd_13 : parseMethodDescriptor "(I)Ljava/lang/String;" = some ⟨[.int], some (.object "java/lang/String")⟩ := by decide +kernel
theorem pd_14 : parseMethodDescriptor "(Ljava/lang/String;Ljava/lang/String;Ljava/lang/String;Ljava/lang/String;)V" = some ⟨[(.object "java/lang/String"), (.object "java/lang/String"), (.object "java/lang/String"), (.object "java/lang/String")], none⟩ := by decide +kernel
theorem pd_15 : parseMethodDescriptor "(I)Z" = some ⟨[.int], some .boolean⟩ := by decide +kernel
theorem pd_16 : parseMethodDescriptor "()Z" = some ⟨[], some .boolean⟩ := by decide +kernel
theorem pn_0 : plainName "com/example/meterline/meterline/core/EndDeviceEventTypeIsSpecificPinLaw" = true := by first | (simp [plainName, overriddenIn]; done) | decide +kernel
set_option maxHeartbeats 4000000 in
theorem ef_rm0 (m : MethodId) {iA : Int32} {iB : Int32} {iC : Int32} {iD : Int32} : entryFrame m #[(.int iA), (.int iB), (.int iC), (.int iD)] maxLocals = mkF m 0 #[.val (.int iA), .val (.int iB), .val (.int iC), .val (.int iD), .unset, .unset, .unset, .unset, .unset, .unset] [] := by first | (simp [entryFrame, mkF, argsToLocals, Value.category, maxLocals]; done) | rfl
def Qrm0 (Z : State) (vcs : Int32) (iA : Int32) (iB : Int32) (iC : Int32) (iD : Int32) (h0 : Heap) (n0 : Nat) (v : Option Value) (h : Heap) (vm : Vm) (L : List Loc) : Prop := (v = some (.int (1 : Int32))) ∧ (Fr n0 L) ∧ (Keep h0 h [])
set_option maxRecDepth 65536 in
set_option maxHeartbeats 40000000 in
theorem rm0 (l : Launch) (Z : State) (a0 : Array Value) (hw : ∀ d ∈ tables_1, d.before a0 Z = true) (ws : List Jvm.Cond) (vcs : Int32) (G : Gh Z vcs) (iA : Int32) (iB : Int32) (iC : Int32) (iD : Int32) (h0 : Heap) (n0 : Nat) (O0 : Old Z n0 h0) :
    MetFree l x (head1 (Jvm.Cond.code x code maxLocals ret :: ws) room_1) (fun aa' UU' => aa' = #[(.int iA), (.int iB), (.int iC), (.int iD)] ∧ Z.Warmed39 UU'.vm ∧ UU'.heap = h0 ∧ CHv Z consts_1 UU'.vm h0 ∧ ∀ x ∈ ([] : List Addr), Safe Z consts_1 UU'.vm h0 x) (fun _ _ _ _ _ => True) (fun _ UU' oo' VV' => ∃ v' L', oo' = .returned v' ∧ Qrm0 Z vcs iA iB iC iD h0 n0 v' VV'.heap VV'.vm L' ∧ CHr Z consts_1 UU'.vm UU'.heap VV'.vm VV'.heap ∧ ReturnedEndW UU' oo' VV' L' 41 228) := by
  refine MetFree.of_bodySF (plainFor_of_name pn_0) hisR ?_
  intro p e s m args below meth c s₁ Bd hml0 hP hK
  obtain ⟨rfl, hZ, hh, hCH, hSf⟩ := hP
  have hx := Bd.exec
  have hby := Bd.bytes
  have hlk := Bd.notSynchronized
  have hml : c.maxLocals = 10 := hml0
  have hown : s.vm.findClass "com/example/meterline/meterline/core/EndDeviceEventTypeIsSpecificPinLaw" = some m.cls := findClass_of_methodNamed Bd.named
  have hnm := (name_of_methodNamed Bd.named Bd.method).1
  have hret := Bd.returns
  have X0 : Stand p l e room_1 (s.setVm s.vm) m #[(.int iA), (.int iB), (.int iC), (.int iD)] below meth c s₁ [] 0 0 := Stand.of_body Bd
  have e0 : s₁.heap = h0 := by rw [← hh, Bd.state]; rfl
  have N0 := Fr.nil n0
  have KC0 : Keep h0 h0 [] := Keep.refl _ _
  have Sb0 := Sb.start hZ hown hCH
  have hEL := own_EW hw
  have hSA := own_SA hw
  refine Go.bodyS ?_
  obtain ⟨Pf, hPf⟩ : ∃ P, P = FinS Z consts_1 s below 41 228 (Qrm0 Z vcs iA iB iC iD h0 n0) := ⟨_, rfl⟩
  rw [← hPf]
  refine Go.cast (ef_rm0 m) ?_
  have hw0 := (hw _ (List.mem_of_getElem? (i := 0) rfl))
  have hw1 := (hw _ (List.mem_of_getElem? (i := 1) rfl))
  have hw2 := (hw _ (List.mem_of_getElem? (i := 2) rfl))
  have hw3 := (hw _ (List.mem_of_getElem? (i := 3) rfl))
  have hw51 := (hw _ (List.mem_of_getElem? (i := 51) rfl))
  have hw52 := (hw _ (List.mem_of_getElem? (i := 52) rfl))
  have hw53 := (hw _ (List.mem_of_getElem? (i := 53) rfl))
  have hw54 := (hw _ (List.mem_of_getElem? (i := 54) rfl))
  have hw55 := (hw _ (List.mem_of_getElem? (i := 55) rfl))
  have hw56 := (hw _ (List.mem_of_getElem? (i := 56) rfl))
  have hw72 := (hw _ (List.mem_of_getElem? (i := 72) rfl))
  have hw74 := (hw _ (List.mem_of_getElem? (i := 74) rfl))
  have hw76 := (hw _ (List.mem_of_getElem? (i := 76) rfl))
  have hw78 := (hw _ (List.mem_of_getElem? (i := 78) rfl))
  have hw79 := (hw _ (List.mem_of_getElem? (i := 79) rfl))
  have hw80 := (hw _ (List.mem_of_getElem? (i := 80) rfl))
  have hw81 := (hw _ (List.mem_of_getElem? (i := 81) rfl))
  have hw82 := (hw _ (List.mem_of_getElem? (i := 82) rfl))
  have hw83 := (hw _ (List.mem_of_getElem? (i := 83) rfl))
  have hw84 := (hw _ (List.mem_of_getElem? (i := 84) rfl))
  have hw85 := (hw _ (List.mem_of_getElem? (i := 85) rfl))
  have hw86 := (hw _ (List.mem_of_getElem? (i := 86) rfl))
  show Go p.tables e below Pf (s₁.setTop (mkF m 0 #[.val (.int iA), .val (.int iB), .val (.int iC), .val (.int iD), .unset, .unset, .unset, .unset, .unset, .unset] []))
  refine Go.by' (fun t k => (XS.iloadN X0.here hx rfl (hb hby at_0) rfl k)) ?_
  show Go p.tables e below Pf (s₁.setTop (mkF m 1 #[.val (.int iA), .val (.int iB), .val (.int iC), .val (.int iD), .unset, .unset, .unset, .unset, .unset, .unset] [(.int iA)]))
  obtain ⟨_, _, ⟨T172, L172, k172, n172⟩, -, X172, Si172, Gr172, ⟨Lc172, hQ172, l172, y172, z172, A172⟩, st172⟩ := callSS X0 hx (y := (⟨"com/example/meterline/meterline/core/EndDeviceEventTypeIsSpecificPinLaw", "part", "(I)Ljava/lang/String;"⟩ : MethodName)) hown (mvT hZ hw0) (mvT hZ hw1) (mvT hZ hw2) (mvT hZ hw3) (by decide) (own_backS (W := 0) (rmPart l Z a0 hw [] vcs G iA h0 n0 O0 ) Sb0 hw3 hw2 (by decide) (by decide) hEL all0) (g := (mkF m 1 #[.val (.int iA), .val (.int iB), .val (.int iC), .val (.int iD), .unset, .unset, .unset, .unset, .unset, .unset] [(.int iA)])) rfl (by rw [hml]; rfl) (argsL := [(.int iA)]) (rest := []) (lenOf pd_13 rfl) rfl (by show 2 * 0 + _ ≤ _; exact Nat.le_of_eq rfl) (hb hby at_1) (fun _ _ => ⟨rfl, e0, (by decide : 0 + 6 ≤ _), (by decide : 0 + 12 ≤ _)⟩)
  dsimp only [Pt.U, Pt.locs, Pt.cells, Pt.slots] at X172 l172 y172 z172 st172 hQ172 Si172 Gr172 A172
  subst l172 y172 z172
  obtain ⟨r_172, rb_172, kb_172, zs_172, vsr_172, rfl, N172q, K172, f172_0, f172_1, f172_2, f172_3, f172_4, f172_5, r172_0, r172_1⟩ := hQ172
  have N172 := Fr.app N0 N172q
  obtain ⟨lc172, X172, N172⟩ := own_pack X172 N172
  replace X172 := own_reb X172
  have Sb172 := Sb0.called Si172 (by rw [← e0]; exact Gr172) A172
  have hZ172 := Sb172.hZ
  have hO172 := Sb172.hO
  refine Go.by' (fun t k => st172.trans k) ?_
  have Sf_r_172 : Safe Z consts_1 s.vm h0 r_172 := Safe.new f172_1
  have g_r_172 : n0 ≤ r_172 := Nat.le_trans (own_le O0) f172_1
  have sz_r_172 : h0.size ≤ r_172 := Nat.le_trans KC0.1 f172_1
  have O172 := O0.keep K172 all0
  have KC172 : Keep h0 T172.heap [] := KC0.trans K172 all0
  show Go p.tables e below Pf (T172.setTop (mkF m 4 #[.val (.int iA), .val (.int iB), .val (.int iC), .val (.int iD), .unset, .unset, .unset, .unset, .unset, .unset] [(.ref r_172)]))
  refine Go.by' (fun t k => (XS.astore X172.here hx rfl (hb hby at_4) rfl rfl (l' := #[.val (.int iA), .val (.int iB), .val (.int iC), .val (.int iD), .val (.ref r_172), .unset, .unset, .unset, .unset, .unset]) rfl (XS.iloadN X172.here hx rfl (hb hby at_6) rfl k))) ?_
  show Go p.tables e below Pf (T172.setTop (mkF m 7 #[.val (.int iA), .val (.int iB), .val (.int iC), .val (.int iD), .val (.ref r_172), .unset, .unset, .unset, .unset, .unset] [(.int iB)]))
  obtain ⟨_, _, ⟨T173, L173, k173, n173⟩, -, X173, Si173, Gr173, ⟨Lc173, hQ173, l173, y173, z173, A173⟩, st173⟩ := callSS X172 hx (y := (⟨"com/example/meterline/meterline/core/EndDeviceEventTypeIsSpecificPinLaw", "part", "(I)Ljava/lang/String;"⟩ : MethodName)) hO172 (mvT hZ172 hw0) (mvT hZ172 hw1) (mvT hZ172 hw2) (mvT hZ172 hw3) (by decide) (own_backS (W := 0) (rmPart l Z a0 hw [] vcs G iB T172.heap n0 O172 ) Sb172 hw3 hw2 (by decide) (by decide) hEL all0) (g := (mkF m 7 #[.val (.int iA), .val (.int iB), .val (.int iC), .val (.int iD), .val (.ref r_172), .unset, .unset, .unset, .unset, .unset] [(.int iB)])) rfl (by rw [hml]; rfl) (argsL := [(.int iB)]) (rest := []) (lenOf pd_13 rfl) rfl (by show 2 * 0 + _ ≤ _; exact Nat.le_of_eq rfl) (hb hby at_7) (fun _ _ => ⟨rfl, rfl, (by decide : 6 + 6 ≤ _), (by decide : 12 + 12 ≤ _)⟩)
  dsimp only [Pt.U, Pt.locs, Pt.cells, Pt.slots] at X173 l173 y173 z173 st173 hQ173 Si173 Gr173 A173
  subst l173 y173 z173
  obtain ⟨r_173, rb_173, kb_173, zs_173, vsr_173, rfl, N173q, K173, f173_0, f173_1, f173_2, f173_3, f173_4, f173_5, r173_0, r173_1⟩ := hQ173
  have N173 := Fr.app N172 N173q
  obtain ⟨lc173, X173, N173⟩ := own_pack X173 N173
  replace X173 := own_reb X173
  have Sb173 := Sb172.called Si173 Gr173 A173
  have hZ173 := Sb173.hZ
  have hO173 := Sb173.hO
  refine Go.by' (fun t k => st173.trans k) ?_
  have Sf_r_173 : Safe Z consts_1 T172.vm T172.heap r_173 := Safe.new f173_1
  have g_r_173 : n0 ≤ r_173 := Nat.le_trans (own_le O172) f173_1
  have sz_r_173 : h0.size ≤ r_173 := Nat.le_trans KC172.1 f173_1
  have O173 := O172.keep K173 all0
  have KC173 : Keep h0 T173.heap [] := KC172.trans K173 all0
  show Go p.tables e below Pf (T173.setTop (mkF m 10 #[.val (.int iA), .val (.int iB), .val (.int iC), .val (.int iD), .val (.ref r_172), .unset, .unset, .unset, .unset, .unset] [(.ref r_173)]))
  refine Go.by' (fun t k => (XS.astore X173.here hx rfl (hb hby at_10) rfl rfl (l' := #[.val (.int iA), .val (.int iB), .val (.int iC), .val (.int iD), .val (.ref r_172), .val (.ref r_173), .unset, .unset, .unset, .unset]) rfl (XS.iloadN X173.here hx rfl (hb hby at_12) rfl k))) ?_
  show Go p.tables e below Pf (T173.setTop (mkF m 13 #[.val (.int iA), .val (.int iB), .val (.int iC), .val (.int iD), .val (.ref r_172), .val (.ref r_173), .unset, .unset, .unset, .unset] [(.int iC)]))
  obtain ⟨_, _, ⟨T174, L174, k174, n174⟩, -, X174, Si174, Gr174, ⟨Lc174, hQ174, l174, y174, z174, A174⟩, st174⟩ := callSS X173 hx (y := (⟨"com/example/meterline/meterline/core/EndDeviceEventTypeIsSpecificPinLaw", "part", "(I)Ljava/lang/String;"⟩ : MethodName)) hO173 (mvT hZ173 hw0) (mvT hZ173 hw1) (mvT hZ173 hw2) (mvT hZ173 hw3) (by decide) (own_backS (W := 0) (rmPart l Z a0 hw [] vcs G iC T173.heap n0 O173 ) Sb173 hw3 hw2 (by decide) (by decide) hEL all0) (g := (mkF m 13 #[.val (.int iA), .val (.int iB), .val (.int iC), .val (.int iD), .val (.ref r_172), .val (.ref r_173), .unset, .unset, .unset, .unset] [(.int iC)])) rfl (by rw [hml]; rfl) (argsL := [(.int iC)]) (rest := []) (lenOf pd_13 rfl) rfl (by show 2 * 0 + _ ≤ _; exact Nat.le_of_eq rfl) (hb hby at_13) (fun _ _ => ⟨rfl, rfl, (by decide : 12 + 6 ≤ _), (by decide : 24 + 12 ≤ _)⟩)
  dsimp only [Pt.U, Pt.locs, Pt.cells, Pt.slots] at X174 l174 y174 z174 st174 hQ174 Si174 Gr174 A174
  subst l174 y174 z174
  obtain ⟨r_174, rb_174, kb_174, zs_174, vsr_174, rfl, N174q, K174, f174_0, f174_1, f174_2, f174_3, f174_4, f174_5, r174_0, r174_1⟩ := hQ174
  have N174 := Fr.app N173 N174q
  obtain ⟨lc174, X174, N174⟩ := own_pack X174 N174
  replace X174 := own_reb X174
  have Sb174 := Sb173.called Si174 Gr174 A174
  have hZ174 := Sb174.hZ
  have hO174 := Sb174.hO
  refine Go.by' (fun t k => st174.trans k) ?_
  have Sf_r_174 : Safe Z consts_1 T173.vm T173.heap r_174 := Safe.new f174_1
  have g_r_174 : n0 ≤ r_174 := Nat.le_trans (own_le O173) f174_1
  have sz_r_174 : h0.size ≤ r_174 := Nat.le_trans KC173.1 f174_1
  have O174 := O173.keep K174 all0
  have KC174 : Keep h0 T174.heap [] := KC173.trans K174 all0
  show Go p.tables e below Pf (T174.setTop (mkF m 16 #[.val (.int iA), .val (.int iB), .val (.int iC), .val (.int iD), .val (.ref r_172), .val (.ref r_173), .unset, .unset, .unset, .unset] [(.ref r_174)]))
  refine Go.by' (fun t k => (XS.astore X174.here hx rfl (hb hby at_16) rfl rfl (l' := #[.val (.int iA), .val (.int iB), .val (.int iC), .val (.int iD), .val (.ref r_172), .val (.ref r_173), .val (.ref r_174), .unset, .unset, .unset]) rfl (XS.iloadN X174.here hx rfl (hb hby at_18) rfl k))) ?_
  show Go p.tables e below Pf (T174.setTop (mkF m 19 #[.val (.int iA), .val (.int iB), .val (.int iC), .val (.int iD), .val (.ref r_172), .val (.ref r_173), .val (.ref r_174), .unset, .unset, .unset] [(.int iD)]))
  obtain ⟨_, _, ⟨T175, L175, k175, n175⟩, -, X175, Si175, Gr175, ⟨Lc175, hQ175, l175, y175, z175, A175⟩, st175⟩ := callSS X174 hx (y := (⟨"com/example/meterline/meterline/core/EndDeviceEventTypeIsSpecificPinLaw", "part", "(I)Ljava/lang/String;"⟩ : MethodName)) hO174 (mvT hZ174 hw0) (mvT hZ174 hw1) (mvT hZ174 hw2) (mvT hZ174 hw3) (by decide) (own_backS (W := 0) (rmPart l Z a0 hw [] vcs G iD T174.heap n0 O174 ) Sb174 hw3 hw2 (by decide) (by decide) hEL all0) (g := (mkF m 19 #[.val (.int iA), .val (.int iB), .val (.int iC), .val (.int iD), .val (.ref r_172), .val (.ref r_173), .val (.ref r_174), .unset, .unset, .unset] [(.int iD)])) rfl (by rw [hml]; rfl) (argsL := [(.int iD)]) (rest := []) (lenOf pd_13 rfl) rfl (by show 2 * 0 + _ ≤ _; exact Nat.le_of_eq rfl) (hb hby at_19) (fun _ _ => ⟨rfl, rfl, (by decide : 18 + 6 ≤ _), (by decide : 36 + 12 ≤ _)⟩)
  dsimp only [Pt.U, Pt.locs, Pt.cells, Pt.slots] at X175 l175 y175 z175 st175 hQ175 Si175 Gr175 A175
  subst l175 y175 z175
  obtain ⟨r_175, rb_175, kb_175, zs_175, vsr_175, rfl, N175q, K175, f175_0, f175_1, f175_2, f175_3, f175_4, f175_5, r175_0, r175_1⟩ := hQ175
  have N175 := Fr.app N174 N175q
  obtain ⟨lc175, X175, N175⟩ := own_pack X175 N175
  replace X175 := own_reb X175
  have Sb175 := Sb174.called Si175 Gr175 A175
  have hZ175 := Sb175.hZ
  have hO175 := Sb175.hO
  refine Go.by' (fun t k => st175.trans k) ?_
  have Sf_r_175 : Safe Z consts_1 T174.vm T174.heap r_175 := Safe.new f175_1
  have g_r_175 : n0 ≤ r_175 := Nat.le_trans (own_le O174) f175_1
  have sz_r_175 : h0.size ≤ r_175 := Nat.le_trans KC174.1 f175_1
  have O175 := O174.keep K175 all0
  have KC175 : Keep h0 T175.heap [] := KC174.trans K175 all0
  show Go p.tables e below Pf (T175.setTop (mkF m 22 #[.val (.int iA), .val (.int iB), .val (.int iC), .val (.int iD), .val (.ref r_172), .val (.ref r_173), .val (.ref r_174), .unset, .unset, .unset] [(.ref r_175)]))
  refine Go.by' (fun t k => (XS.astore X175.here hx rfl (hb hby at_22) rfl rfl (l' := #[.val (.int iA), .val (.int iB), .val (.int iC), .val (.int iD), .val (.ref r_172), .val (.ref r_173), .val (.ref r_174), .val (.ref r_175), .unset, .unset]) rfl k)) ?_
  show Go p.tables e below Pf (T175.setTop (mkF m 24 #[.val (.int iA), .val (.int iB), .val (.int iC), .val (.int iD), .val (.ref r_172), .val (.ref r_173), .val (.ref r_174), .val (.ref r_175), .unset, .unset] []))
  obtain ⟨T176, h176, X176, e176, E176, A176, D176, -, st176⟩ := newO X175 hx hZ175 hO175 hw51 hw52 hw53 rfl (g := (mkF m 24 #[.val (.int iA), .val (.int iB), .val (.int iC), .val (.int iD), .val (.ref r_172), .val (.ref r_173), .val (.ref r_174), .val (.ref r_175), .unset, .unset] [])) rfl (hb hby at_24) (by decide) (by decide)
  obtain ⟨b176, g176⟩ : ∃ z, z = T175.heap.size := ⟨_, rfl⟩
  rw [← g176] at A176 D176 st176
  refine Go.by' st176 ?_
  have Sf_b176 : Safe Z consts_1 T175.vm T175.heap b176 := Safe.new (Nat.le_of_eq g176.symm)
  have g_b176 : n0 ≤ b176 := Nat.le_trans (own_le O175) (Nat.le_of_eq g176.symm)
  have sz_b176 : h0.size ≤ b176 := Nat.le_trans KC175.1 (Nat.le_of_eq g176.symm)
  have Sb176 := Sb175.ext E176
  have O176 := O175.ext E176
  have KC176 : Keep h0 h176 [] := KC175.ext E176
  have Fn176_72 : Fld Z h176 b176 "com/example/meterline/meterline/core/EndDeviceEventType" "type" "Ljava/lang/String;" Value.null := D176 (Or.inr hw72) (ty := (.object "java/lang/String")) (by decide)
  have Fn176_74 : Fld Z h176 b176 "com/example/meterline/meterline/core/EndDeviceEventType" "domain" "Ljava/lang/String;" Value.null := D176 (Or.inr hw74) (ty := (.object "java/lang/String")) (by decide)
  have Fn176_76 : Fld Z h176 b176 "com/example/meterline/meterline/core/EndDeviceEventType" "subdomain" "Ljava/lang/String;" Value.null := D176 (Or.inr hw76) (ty := (.object "java/lang/String")) (by decide)
  have Fn176_78 : Fld Z h176 b176 "com/example/meterline/meterline/core/EndDeviceEventType" "eventOrAction" "Ljava/lang/String;" Value.null := D176 (Or.inr hw78) (ty := (.object "java/lang/String")) (by decide)
  show Go p.tables e below Pf (T176.setTop (mkF m 27 #[.val (.int iA), .val (.int iB), .val (.int iC), .val (.int iD), .val (.ref r_172), .val (.ref r_173), .val (.ref r_174), .val (.ref r_175), .unset, .unset] [(.ref b176)]))
  refine Go.by' (fun t k => (XS.dup X176.here hx rfl (hb hby at_27) rfl rfl (XS.aload X176.here hx rfl (hb hby at_28) rfl rfl (XS.aload X176.here hx rfl (hb hby at_30) rfl rfl (XS.aload X176.here hx rfl (hb hby at_32) rfl rfl (XS.aload X176.here hx rfl (hb hby at_34) rfl rfl k)))))) ?_
  show Go p.tables e below Pf (T176.setTop (mkF m 36 #[.val (.int iA), .val (.int iB), .val (.int iC), .val (.int iD), .val (.ref r_172), .val (.ref r_173), .val (.ref r_174), .val (.ref r_175), .unset, .unset] [(.ref r_175), (.ref r_174), (.ref r_173), (.ref r_172), (.ref b176), (.ref b176)]))
  obtain ⟨_, _, ⟨T177, L177, k177, n177⟩, -, X177, Si177, Gr177, ⟨Lc177, hQ177, l177, y177, z177, A177⟩, st177⟩ := X176.specialBackS hx (y := (⟨"com/example/meterline/meterline/core/EndDeviceEventType", "<init>", "(Ljava/lang/String;Ljava/lang/String;Ljava/lang/String;Ljava/lang/String;)V"⟩ : MethodName)) rfl hO175 (mvT hZ175 hw54) (mvT hZ175 hw55) (mvT hZ175 hw56) (by decide) (own_backS (W := 1) (rmEv l Z a0 hw [] vcs G b176 r_172 r_173 r_174 r_175 h176 n0 O176 A176 Fn176_72 Fn176_74 Fn176_76 Fn176_78 g_b176) Sb176 hw56 hw53 (by decide) (by decide) hEL (allS ⟨A176.lt, (Safe.ext E176 Sb175.ch Sf_b176)⟩ all0)) (g := (mkF m 36 #[.val (.int iA), .val (.int iB), .val (.int iC), .val (.int iD), .val (.ref r_172), .val (.ref r_173), .val (.ref r_174), .val (.ref r_175), .unset, .unset] [(.ref r_175), (.ref r_174), (.ref r_173), (.ref r_172), (.ref b176), (.ref b176)])) rfl (by rw [hml]; rfl) (Steps.refl _) (a := b176) (argsL := [(.ref r_172), (.ref r_173), (.ref r_174), (.ref r_175)]) (rest := [(.ref b176)]) (lenOf pd_14 rfl) rfl (by show 2 * 0 + _ ≤ _; exact Nat.le_of_eq rfl) (hb hby at_36) (fun _ _ => ⟨rfl, e176, (by decide : 25 + 8 ≤ _), (by decide : 52 + 144 ≤ _)⟩)
  dsimp only [Pt.U, Pt.locs, Pt.cells, Pt.slots] at X177 l177 y177 z177 st177 hQ177 Si177 Gr177 A177
  subst l177 y177 z177
  obtain ⟨rfl, N177q, K177, f177_0, f177_1, f177_2, f177_3, f177_4⟩ := hQ177
  have N177 := Fr.app N175 N177q
  obtain ⟨lc177, X177, N177⟩ := own_pack X177 N177
  replace X177 := own_reb X177
  have Sb177 := Sb176.called Si177 (by rw [← e176]; exact Gr177) A177
  have hZ177 := Sb177.hZ
  have hO177 := Sb177.hO
  refine Go.by' (fun t k => st177.trans k) ?_
  have O177 := O176.keep K177 (allS g_b176 all0)
  have KC177 : Keep h0 T177.heap [] := KC176.trans K177 (allS (Or.inr sz_b176) all0)
  show Go p.tables e below Pf (T177.setTop (mkF m 39 #[.val (.int iA), .val (.int iB), .val (.int iC), .val (.int iD), .val (.ref r_172), .val (.ref r_173), .val (.ref r_174), .val (.ref r_175), .unset, .unset] [(.ref b176)]))
  refine Go.by' (fun t k => (XS.astore X177.here hx rfl (hb hby at_39) rfl rfl (l' := #[.val (.int iA), .val (.int iB), .val (.int iC), .val (.int iD), .val (.ref r_172), .val (.ref r_173), .val (.ref r_174), .val (.ref r_175), .val (.ref b176), .unset]) rfl (XS.iloadN X177.here hx rfl (hb hby at_41) rfl k))) ?_
  show Go p.tables e below Pf (T177.setTop (mkF m 42 #[.val (.int iA), .val (.int iB), .val (.int iC), .val (.int iD), .val (.ref r_172), .val (.ref r_173), .val (.ref r_174), .val (.ref r_175), .val (.ref b176), .unset] [(.int iA)]))
  obtain ⟨_, _, ⟨T178, L178, k178, n178⟩, -, X178, ⟨Lc178, hQ178, l178, y178, z178⟩, st178⟩ := Jvm.LawKit.callS X177 hx (y := (⟨"com/example/meterline/meterline/core/EndDeviceEventTypeIsSpecificPinLaw", "star", "(I)Z"⟩ : MethodName)) hO177 (mvT hZ177 hw79) (mvT hZ177 hw80) (mvT hZ177 hw2) (mvT hZ177 hw81) (by decide) (backOf (W := 0) (rmStar l Z a0 hw [] vcs G iA T177.heap n0 O177 ) hZ177 hw81 hw2 (by decide) (by decide)) (g := (mkF m 42 #[.val (.int iA), .val (.int iB), .val (.int iC), .val (.int iD), .val (.ref r_172), .val (.ref r_173), .val (.ref r_174), .val (.ref r_175), .val (.ref b176), .unset] [(.int iA)])) rfl (by rw [hml]; rfl) (argsL := [(.int iA)]) (rest := []) (lenOf pd_15 rfl) rfl (by show 2 * 0 + _ ≤ _; exact Nat.le_of_eq rfl) (hb hby at_42) (fun _ _ => ⟨rfl, rfl, (by decide : 33 + 0 ≤ _), (by decide : 196 + 0 ≤ _)⟩)
  dsimp only [Pt.U, Pt.locs, Pt.cells, Pt.slots] at X178 l178 y178 z178 st178 hQ178
  subst l178 y178 z178
  obtain ⟨r_178, rfl, rfl, e178, r178_0⟩ := hQ178
  try replace X178 := own_nil X178
  refine Go.by' st178 ?_
  rcases r178_0 with ⟨hs178, hz178⟩ | ⟨hs178, hz178⟩
  · subst hz178
    show Go p.tables e below Pf (T178.setTop (mkF m 45 #[.val (.int iA), .val (.int iB), .val (.int iC), .val (.int iD), .val (.ref r_172), .val (.ref r_173), .val (.ref r_174), .val (.ref r_175), .val (.ref b176), .unset] [(.int (1 : Int32))]))
    refine Go.by' (fun t k => (XS.ifYes X178.here hx rfl (pc0 := 45) (pc' := 73) rfl (hb hby at_45) rfl ((if0 _ _).trans (feq (by decide)).2) (by decide) (by decide) (XS.iconst X178.here hx rfl (hb hby at_73) (XS.istore X178.here hx rfl (hb hby at_74) rfl (l' := #[.val (.int iA), .val (.int iB), .val (.int iC), .val (.int iD), .val (.ref r_172), .val (.ref r_173), .val (.ref r_174), .val (.ref r_175), .val (.ref b176), .val (.int (0 : Int32))]) rfl (XS.aload X178.here hx rfl (hb hby at_76) rfl rfl k))))) ?_
    show Go p.tables e below Pf (T178.setTop (mkF m 78 #[.val (.int iA), .val (.int iB), .val (.int iC), .val (.int iD), .val (.ref r_172), .val (.ref r_173), .val (.ref r_174), .val (.ref r_175), .val (.ref b176), .val (.int (0 : Int32))] [(.ref b176)]))
    have c180 := (((((f172_4.keep K173 nin0).keep K174 nin0).keep K175 nin0).ext E176).keep K177 (ninS (Nat.ne_of_lt (Nat.lt_of_lt_of_le (Nat.lt_of_lt_of_le f172_4.lt (Nat.le_trans K173.1 (Nat.le_trans K174.1 K175.1))) (Nat.le_of_eq g176.symm))) nin0))
    have c181 := ((((f173_4.keep K174 nin0).keep K175 nin0).ext E176).keep K177 (ninS (Nat.ne_of_lt (Nat.lt_of_lt_of_le (Nat.lt_of_lt_of_le f173_4.lt (Nat.le_trans K174.1 K175.1)) (Nat.le_of_eq g176.symm))) nin0))
    have c182 := (((f174_4.keep K175 nin0).ext E176).keep K177 (ninS (Nat.ne_of_lt (Nat.lt_of_lt_of_le (Nat.lt_of_lt_of_le f174_4.lt K175.1) (Nat.le_of_eq g176.symm))) nin0))
    have c183 := ((f175_4.ext E176).keep K177 (ninS (Nat.ne_of_lt (Nat.lt_of_lt_of_le f175_4.lt (Nat.le_of_eq g176.symm))) nin0))
    have c184 := (((((f172_0.keep K173).keep K174).keep K175).ext E176).keep K177)
    have c185 := (((((f172_2.keep K173 nin0).keep K174 nin0).keep K175 nin0).ext E176).keep K177 (ninS (Nat.ne_of_lt (Nat.lt_of_lt_of_le (Nat.lt_of_lt_of_le f172_0.lt (Nat.le_trans K173.1 (Nat.le_trans K174.1 K175.1))) (Nat.le_of_eq g176.symm))) nin0))
    have c186 := (((((f172_3.keep K173 nin0).keep K174 nin0).keep K175 nin0).ext E176).keep K177 (ninS (Nat.ne_of_lt (Nat.lt_of_lt_of_le (Nat.lt_of_lt_of_le f172_0.lt (Nat.le_trans K173.1 (Nat.le_trans K174.1 K175.1))) (Nat.le_of_eq g176.symm))) nin0))
    have c187 := ((((f173_0.keep K174).keep K175).ext E176).keep K177)
    have c188 := ((((f173_2.keep K174 nin0).keep K175 nin0).ext E176).keep K177 (ninS (Nat.ne_of_lt (Nat.lt_of_lt_of_le (Nat.lt_of_lt_of_le f173_0.lt (Nat.le_trans K174.1 K175.1)) (Nat.le_of_eq g176.symm))) nin0))
    have c189 := ((((f173_3.keep K174 nin0).keep K175 nin0).ext E176).keep K177 (ninS (Nat.ne_of_lt (Nat.lt_of_lt_of_le (Nat.lt_of_lt_of_le f173_0.lt (Nat.le_trans K174.1 K175.1)) (Nat.le_of_eq g176.symm))) nin0))
    have c190 := (((f174_0.keep K175).ext E176).keep K177)
    have c191 := (((f174_2.keep K175 nin0).ext E176).keep K177 (ninS (Nat.ne_of_lt (Nat.lt_of_lt_of_le (Nat.lt_of_lt_of_le f174_0.lt K175.1) (Nat.le_of_eq g176.symm))) nin0))
    have c192 := (((f174_3.keep K175 nin0).ext E176).keep K177 (ninS (Nat.ne_of_lt (Nat.lt_of_lt_of_le (Nat.lt_of_lt_of_le f174_0.lt K175.1) (Nat.le_of_eq g176.symm))) nin0))
    have c193 := ((f175_0.ext E176).keep K177)
    have c194 := ((f175_2.ext E176).keep K177 (ninS (Nat.ne_of_lt (Nat.lt_of_lt_of_le f175_0.lt (Nat.le_of_eq g176.symm))) nin0))
    have c195 := ((f175_3.ext E176).keep K177 (ninS (Nat.ne_of_lt (Nat.lt_of_lt_of_le f175_0.lt (Nat.le_of_eq g176.symm))) nin0))
    obtain ⟨cq179, kq179, q179a, q179b, q179c⟩ := isOf hZ177 e178 f177_0
    obtain ⟨_, _, ⟨T179, L179, k179, n179⟩, -, X179, Si179, Gr179, ⟨Lc179, hQ179, l179, y179, z179, A179⟩, st179⟩ := X178.virtualBackS hx (y := (⟨"com/example/meterline/meterline/core/EndDeviceEventType", "isSpecific", "()Z"⟩ : MethodName)) (z := (⟨"com/example/meterline/meterline/core/EndDeviceEventType", "isSpecific", "()Z"⟩ : MethodName)) hO177 (mvT hZ177 hw82) (mvT hZ177 hw83) (notFace_of_selects (args := #[]) (mvT hZ177 hw85)) (mvT hZ177 hw85) (mvT hZ177 hw84) (by decide) (own_backS (W := 0) (rmIs l Z a0 hw [] vcs G b176 r_172 rb_172 kb_172 zs_172 vsr_172 r_173 rb_173 kb_173 zs_173 vsr_173 r_174 rb_174 kb_174 zs_174 vsr_174 r_175 rb_175 kb_175 zs_175 vsr_175 T177.heap n0 O177 f177_0 f177_1 c184 c185 c186 c180 r172_0 f177_2 c187 c188 c189 c181 r173_0 f177_3 c190 c191 c192 c182 r174_0 f177_4 c193 c194 c195 c183 r175_0) Sb177 hw86 hw53 (by decide) (by decide) hEL (allS ⟨(Nat.lt_of_lt_of_le f172_0.lt (Nat.le_trans K173.1 (Nat.le_trans K174.1 (Nat.le_trans K175.1 (Nat.le_trans E176.1 K177.1))))), (A177.safe (Nat.lt_of_lt_of_le f172_0.lt (Nat.le_trans K173.1 (Nat.le_trans K174.1 (Nat.le_trans K175.1 E176.1)))) (Safe.ext E176 Sb175.ch (A175.safe (Nat.lt_of_lt_of_le f172_0.lt (Nat.le_trans K173.1 K174.1)) (A174.safe (Nat.lt_of_lt_of_le f172_0.lt K173.1) (A173.safe f172_0.lt f172_5)))))⟩ (allS ⟨(Nat.lt_of_lt_of_le f173_0.lt (Nat.le_trans K174.1 (Nat.le_trans K175.1 (Nat.le_trans E176.1 K177.1)))), (A177.safe (Nat.lt_of_lt_of_le f173_0.lt (Nat.le_trans K174.1 (Nat.le_trans K175.1 E176.1))) (Safe.ext E176 Sb175.ch (A175.safe (Nat.lt_of_lt_of_le f173_0.lt K174.1) (A174.safe f173_0.lt f173_5))))⟩ (allS ⟨(Nat.lt_of_lt_of_le f174_0.lt (Nat.le_trans K175.1 (Nat.le_trans E176.1 K177.1))), (A177.safe (Nat.lt_of_lt_of_le f174_0.lt (Nat.le_trans K175.1 E176.1)) (Safe.ext E176 Sb175.ch (A175.safe f174_0.lt f174_5)))⟩ (allS ⟨(Nat.lt_of_lt_of_le f175_0.lt (Nat.le_trans E176.1 K177.1)), (A177.safe (Nat.lt_of_lt_of_le f175_0.lt E176.1) (Safe.ext E176 Sb175.ch f175_5))⟩ all0))))) q179a q179c (g := (mkF m 78 #[.val (.int iA), .val (.int iB), .val (.int iC), .val (.int iD), .val (.ref r_172), .val (.ref r_173), .val (.ref r_174), .val (.ref r_175), .val (.ref b176), .val (.int (0 : Int32))] [(.ref b176)])) rfl (by rw [hml]; rfl) (Steps.refl _) (argsL := []) (rest := []) (lenOf pd_16 rfl) rfl (by show 2 * 0 + _ ≤ _; exact Nat.le_of_eq rfl) (hb hby at_78) (fun _ _ => ⟨rfl, e178, (by decide : 33 + 8 ≤ _), (by decide : 196 + 32 ≤ _)⟩)
    dsimp only [Pt.U, Pt.locs, Pt.cells, Pt.slots] at X179 l179 y179 z179 st179 hQ179 Si179 Gr179 A179
    subst l179 y179 z179
    obtain ⟨r_179, rfl, N179q, K179, r179_0⟩ := hQ179
    have N179 := Fr.app N177 N179q
    obtain ⟨lc179, X179, N179⟩ := own_pack X179 N179
    replace X179 := own_reb X179
    have Sb179 := Sb177.called Si179 (by rw [← e178]; exact Gr179) A179
    have hZ179 := Sb179.hZ
    have hO179 := Sb179.hO
    refine Go.by' (fun t k => st179.trans k) ?_
    have O179 := O177.keep K179 all0
    have KC179 : Keep h0 T179.heap [] := KC177.trans K179 all0
    obtain rfl : r_179 = (0 : Int32) := r179_0.elim (fun q => absurd (r172_1.mpr hs178) (q.1)) (fun q => q.2)
    show Go p.tables e below Pf (T179.setTop (mkF m 81 #[.val (.int iA), .val (.int iB), .val (.int iC), .val (.int iD), .val (.ref r_172), .val (.ref r_173), .val (.ref r_174), .val (.ref r_175), .val (.ref b176), .val (.int (0 : Int32))] [(.int (0 : Int32))]))
    refine Go.by' (fun t k => (XS.iload X179.here hx rfl (hb hby at_81) rfl (XS.icmpNo X179.here hx rfl (hb hby at_83) rfl (teq (by decide)).2 (XS.iconst X179.here hx rfl (hb hby at_86) (XS.goto X179.here hx rfl (pc0 := 87) (pc' := 91) rfl (hb hby at_87) (by decide) (by decide) k))))) ?_
    show Go p.tables e below Pf (T179.setTop (mkF m 91 #[.val (.int iA), .val (.int iB), .val (.int iC), .val (.int iD), .val (.ref r_172), .val (.ref r_173), .val (.ref r_174), .val (.ref r_175), .val (.ref b176), .val (.int (0 : Int32))] [(.int (1 : Int32))]))
    rw [hPf]
    exact Go.retIS X179 hx hEL Sb179 rfl hh hret hlk (by simp) rfl (hb hby at_91) (by decide) (by decide) ⟨rfl, N179, KC179⟩
  · subst hz178
    show Go p.tables e below Pf (T178.setTop (mkF m 45 #[.val (.int iA), .val (.int iB), .val (.int iC), .val (.int iD), .val (.ref r_172), .val (.ref r_173), .val (.ref r_174), .val (.ref r_175), .val (.ref b176), .unset] [(.int (0 : Int32))]))
    refine Go.by' (fun t k => (XS.ifNo X178.here hx rfl (hb hby at_45) rfl ((if0 _ _).trans (teq (by decide)).2) (XS.iloadN X178.here hx rfl (hb hby at_48) rfl k))) ?_
    show Go p.tables e below Pf (T178.setTop (mkF m 49 #[.val (.int iA), .val (.int iB), .val (.int iC), .val (.int iD), .val (.ref r_172), .val (.ref r_173), .val (.ref r_174), .val (.ref r_175), .val (.ref b176), .unset] [(.int iB)]))
    obtain ⟨_, _, ⟨T196, L196, k196, n196⟩, -, X196, ⟨Lc196, hQ196, l196, y196, z196⟩, st196⟩ := Jvm.LawKit.callS X178 hx (y := (⟨"com/example/meterline/meterline/core/EndDeviceEventTypeIsSpecificPinLaw", "star", "(I)Z"⟩ : MethodName)) hO177 (mvT hZ177 hw79) (mvT hZ177 hw80) (mvT hZ177 hw2) (mvT hZ177 hw81) (by decide) (backOf (W := 0) (rmStar l Z a0 hw [] vcs G iB T177.heap n0 O177 ) hZ177 hw81 hw2 (by decide) (by decide)) (g := (mkF m 49 #[.val (.int iA), .val (.int iB), .val (.int iC), .val (.int iD), .val (.ref r_172), .val (.ref r_173), .val (.ref r_174), .val (.ref r_175), .val (.ref b176), .unset] [(.int iB)])) rfl (by rw [hml]; rfl) (argsL := [(.int iB)]) (rest := []) (lenOf pd_15 rfl) rfl (by show 2 * 0 + _ ≤ _; exact Nat.le_of_eq rfl) (hb hby at_49) (fun _ _ => ⟨rfl, e178, (by decide : 33 + 0 ≤ _), (by decide : 196 + 0 ≤ _)⟩)
    dsimp only [Pt.U, Pt.locs, Pt.cells, Pt.slots] at X196 l196 y196 z196 st196 hQ196
    subst l196 y196 z196
    obtain ⟨r_196, rfl, rfl, e196, r196_0⟩ := hQ196
    try replace X196 := own_nil X196
    refine Go.by' st196 ?_
    rcases r196_0 with ⟨hs196, hz196⟩ | ⟨hs196, hz196⟩
    · subst hz196
      show Go p.tables e below Pf (T196.setTop (mkF m 52 #[.val (.int iA), .val (.int iB), .val (.int iC), .val (.int iD), .val (.ref r_172), .val (.ref r_173), .val (.ref r_174), .val (.ref r_175), .val (.ref b176), .unset] [(.int (1 : Int32))]))
      refine Go.by' (fun t k => (XS.ifYes X196.here hx rfl (pc0 := 52) (pc' := 73) rfl (hb hby at_52) rfl ((if0 _ _).trans (feq (by decide)).2) (by decide) (by decide) (XS.iconst X196.here hx rfl (hb hby at_73) (XS.istore X196.here hx rfl (hb hby at_74) rfl (l' := #[.val (.int iA), .val (.int iB), .val (.int iC), .val (.int iD), .val (.ref r_172), .val (.ref r_173), .val (.ref r_174), .val (.ref r_175), .val (.ref b176), .val (.int (0 : Int32))]) rfl (XS.aload X196.here hx rfl (hb hby at_76) rfl rfl k))))) ?_
      show Go p.tables e below Pf (T196.setTop (mkF m 78 #[.val (.int iA), .val (.int iB), .val (.int iC), .val (.int iD), .val (.ref r_172), .val (.ref r_173), .val (.ref r_174), .val (.ref r_175), .val (.ref b176), .val (.int (0 : Int32))] [(.ref b176)]))
      have c198 := (((((f172_4.keep K173 nin0).keep K174 nin0).keep K175 nin0).ext E176).keep K177 (ninS (Nat.ne_of_lt (Nat.lt_of_lt_of_le (Nat.lt_of_lt_of_le f172_4.lt (Nat.le_trans K173.1 (Nat.le_trans K174.1 K175.1))) (Nat.le_of_eq g176.symm))) nin0))
      have c199 := ((((f173_4.keep K174 nin0).keep K175 nin0).ext E176).keep K177 (ninS (Nat.ne_of_lt (Nat.lt_of_lt_of_le (Nat.lt_of_lt_of_le f173_4.lt (Nat.le_trans K174.1 K175.1)) (Nat.le_of_eq g176.symm))) nin0))
      have c200 := (((f174_4.keep K175 nin0).ext E176).keep K177 (ninS (Nat.ne_of_lt (Nat.lt_of_lt_of_le (Nat.lt_of_lt_of_le f174_4.lt K175.1) (Nat.le_of_eq g176.symm))) nin0))
      have c201 := ((f175_4.ext E176).keep K177 (ninS (Nat.ne_of_lt (Nat.lt_of_lt_of_le f175_4.lt (Nat.le_of_eq g176.symm))) nin0))
      have c202 := (((((f172_0.keep K173).keep K174).keep K175).ext E176).keep K177)
      have c203 := (((((f172_2.keep K173 nin0).keep K174 nin0).keep K175 nin0).ext E176).keep K177 (ninS (Nat.ne_of_lt (Nat.lt_of_lt_of_le (Nat.lt_of_lt_of_le f172_0.lt (Nat.le_trans K173.1 (Nat.le_trans K174.1 K175.1))) (Nat.le_of_eq g176.symm))) nin0))
      have c204 := (((((f172_3.keep K173 nin0).keep K174 nin0).keep K175 nin0).ext E176).keep K177 (ninS (Nat.ne_of_lt (Nat.lt_of_lt_of_le (Nat.lt_of_lt_of_le f172_0.lt (Nat.le_trans K173.1 (Nat.le_trans K174.1 K175.1))) (Nat.le_of_eq g176.symm))) nin0))
      have c205 := ((((f173_0.keep K174).keep K175).ext E176).keep K177)
      have c206 := ((((f173_2.keep K174 nin0).keep K175 nin0).ext E176).keep K177 (ninS (Nat.ne_of_lt (Nat.lt_of_lt_of_le (Nat.lt_of_lt_of_le f173_0.lt (Nat.le_trans K174.1 K175.1)) (Nat.le_of_eq g176.symm))) nin0))
      have c207 := ((((f173_3.keep K174 nin0).keep K175 nin0).ext E176).keep K177 (ninS (Nat.ne_of_lt (Nat.lt_of_lt_of_le (Nat.lt_of_lt_of_le f173_0.lt (Nat.le_trans K174.1 K175.1)) (Nat.le_of_eq g176.symm))) nin0))
      have c208 := (((f174_0.keep K175).ext E176).keep K177)
      have c209 := (((f174_2.keep K175 nin0).ext E176).keep K177 (ninS (Nat.ne_of_lt (Nat.lt_of_lt_of_le (Nat.lt_of_lt_of_le f174_0.lt K175.1) (Nat.le_of_eq g176.symm))) nin0))
      have c210 := (((f174_3.keep K175 nin0).ext E176).keep K177 (ninS (Nat.ne_of_lt (Nat.lt_of_lt_of_le (Nat.lt_of_lt_of_le f174_0.lt K175.1) (Nat.le_of_eq g176.symm))) nin0))
      have c211 := ((f175_0.ext E176).keep K177)
      have c212 := ((f175_2.ext E176).keep K177 (ninS (Nat.ne_of_lt (Nat.lt_of_lt_of_le f175_0.lt (Nat.le_of_eq g176.symm))) nin0))
      have c213 := ((f175_3.ext E176).keep K177 (ninS (Nat.ne_of_lt (Nat.lt_of_lt_of_le f175_0.lt (Nat.le_of_eq g176.symm))) nin0))
      obtain ⟨cq197, kq197, q197a, q197b, q197c⟩ := isOf hZ177 e196 f177_0
      obtain ⟨_, _, ⟨T197, L197, k197, n197⟩, -, X197, Si197, Gr197, ⟨Lc197, hQ197, l197, y197, z197, A197⟩, st197⟩ := X196.virtualBackS hx (y := (⟨"com/example/meterline/meterline/core/EndDeviceEventType", "isSpecific", "()Z"⟩ : MethodName)) (z := (⟨"com/example/meterline/meterline/core/EndDeviceEventType", "isSpecific", "()Z"⟩ : MethodName)) hO177 (mvT hZ177 hw82) (mvT hZ177 hw83) (notFace_of_selects (args := #[]) (mvT hZ177 hw85)) (mvT hZ177 hw85) (mvT hZ177 hw84) (by decide) (own_backS (W := 0) (rmIs l Z a0 hw [] vcs G b176 r_172 rb_172 kb_172 zs_172 vsr_172 r_173 rb_173 kb_173 zs_173 vsr_173 r_174 rb_174 kb_174 zs_174 vsr_174 r_175 rb_175 kb_175 zs_175 vsr_175 T177.heap n0 O177 f177_0 f177_1 c202 c203 c204 c198 r172_0 f177_2 c205 c206 c207 c199 r173_0 f177_3 c208 c209 c210 c200 r174_0 f177_4 c211 c212 c213 c201 r175_0) Sb177 hw86 hw53 (by decide) (by decide) hEL (allS ⟨(Nat.lt_of_lt_of_le f172_0.lt (Nat.le_trans K173.1 (Nat.le_trans K174.1 (Nat.le_trans K175.1 (Nat.le_trans E176.1 K177.1))))), (A177.safe (Nat.lt_of_lt_of_le f172_0.lt (Nat.le_trans K173.1 (Nat.le_trans K174.1 (Nat.le_trans K175.1 E176.1)))) (Safe.ext E176 Sb175.ch (A175.safe (Nat.lt_of_lt_of_le f172_0.lt (Nat.le_trans K173.1 K174.1)) (A174.safe (Nat.lt_of_lt_of_le f172_0.lt K173.1) (A173.safe f172_0.lt f172_5)))))⟩ (allS ⟨(Nat.lt_of_lt_of_le f173_0.lt (Nat.le_trans K174.1 (Nat.le_trans K175.1 (Nat.le_trans E176.1 K177.1)))), (A177.safe (Nat.lt_of_lt_of_le f173_0.lt (Nat.le_trans K174.1 (Nat.le_trans K175.1 E176.1))) (Safe.ext E176 Sb175.ch (A175.safe (Nat.lt_of_lt_of_le f173_0.lt K174.1) (A174.safe f173_0.lt f173_5))))⟩ (allS ⟨(Nat.lt_of_lt_of_le f174_0.lt (Nat.le_trans K175.1 (Nat.le_trans E176.1 K177.1))), (A177.safe (Nat.lt_of_lt_of_le f174_0.lt (Nat.le_trans K175.1 E176.1)) (Safe.ext E176 Sb175.ch (A175.safe f174_0.lt f174_5)))⟩ (allS ⟨(Nat.lt_of_lt_of_le f175_0.lt (Nat.le_trans E176.1 K177.1)), (A177.safe (Nat.lt_of_lt_of_le f175_0.lt E176.1) (Safe.ext E176 Sb175.ch f175_5))⟩ all0))))) q197a q197c (g := (mkF m 78 #[.val (.int iA), .val (.int iB), .val (.int iC), .val (.int iD), .val (.ref r_172), .val (.ref r_173), .val (.ref r_174), .val (.ref r_175), .val (.ref b176), .val (.int (0 : Int32))] [(.ref b176)])) rfl (by rw [hml]; rfl) (Steps.refl _) (argsL := []) (rest := []) (lenOf pd_16 rfl) rfl (by show 2 * 0 + _ ≤ _; exact Nat.le_of_eq rfl) (hb hby at_78) (fun _ _ => ⟨rfl, e196, (by decide : 33 + 8 ≤ _), (by decide : 196 + 32 ≤ _)⟩)
      dsimp only [Pt.U, Pt.locs, Pt.cells, Pt.slots] at X197 l197 y197 z197 st197 hQ197 Si197 Gr197 A197
      subst l197 y197 z197
      obtain ⟨r_197, rfl, N197q, K197, r197_0⟩ := hQ197
      have N197 := Fr.app N177 N197q
      obtain ⟨lc197, X197, N197⟩ := own_pack X197 N197
      replace X197 := own_reb X197
      have Sb197 := Sb177.called Si197 (by rw [← e196]; exact Gr197) A197
      have hZ197 := Sb197.hZ
      have hO197 := Sb197.hO
      refine Go.by' (fun t k => st197.trans k) ?_
      have O197 := O177.keep K197 all0
      have KC197 : Keep h0 T197.heap [] := KC177.trans K197 all0
      obtain rfl : r_197 = (0 : Int32) := r197_0.elim (fun q => absurd (r173_1.mpr hs196) (q.2.1)) (fun q => q.2)
      show Go p.tables e below Pf (T197.setTop (mkF m 81 #[.val (.int iA), .val (.int iB), .val (.int iC), .val (.int iD), .val (.ref r_172), .val (.ref r_173), .val (.ref r_174), .val (.ref r_175), .val (.ref b176), .val (.int (0 : Int32))] [(.int (0 : Int32))]))
      refine Go.by' (fun t k => (XS.iload X197.here hx rfl (hb hby at_81) rfl (XS.icmpNo X197.here hx rfl (hb hby at_83) rfl (teq (by decide)).2 (XS.iconst X197.here hx rfl (hb hby at_86) (XS.goto X197.here hx rfl (pc0 := 87) (pc' := 91) rfl (hb hby at_87) (by decide) (by decide) k))))) ?_
      show Go p.tables e below Pf (T197.setTop (mkF m 91 #[.val (.int iA), .val (.int iB), .val (.int iC), .val (.int iD), .val (.ref r_172), .val (.ref r_173), .val (.ref r_174), .val (.ref r_175), .val (.ref b176), .val (.int (0 : Int32))] [(.int (1 : Int32))]))
      rw [hPf]
      exact Go.retIS X197 hx hEL Sb197 rfl hh hret hlk (by simp) rfl (hb hby at_91) (by decide) (by decide) ⟨rfl, N197, KC197⟩
    · subst hz196
      show Go p.tables e below Pf (T196.setTop (mkF m 52 #[.val (.int iA), .val (.int iB), .val (.int iC), .val (.int iD), .val (.ref r_172), .val (.ref r_173), .val (.ref r_174), .val (.ref r_175), .val (.ref b176), .unset] [(.int (0 : Int32))]))
      refine Go.by' (fun t k => (XS.ifNo X196.here hx rfl (hb hby at_52) rfl ((if0 _ _).trans (teq (by decide)).2) (XS.iloadN X196.here hx rfl (hb hby at_55) rfl k))) ?_
      show Go p.tables e below Pf (T196.setTop (mkF m 56 #[.val (.int iA), .val (.int iB), .val (.int iC), .val (.int iD), .val (.ref r_172), .val (.ref r_173), .val (.ref r_174), .val (.ref r_175), .val (.ref b176), .unset] [(.int iC)]))
      obtain ⟨_, _, ⟨T214, L214, k214, n214⟩, -, X214, ⟨Lc214, hQ214, l214, y214, z214⟩, st214⟩ := Jvm.LawKit.callS X196 hx (y := (⟨"com/example/meterline/meterline/core/EndDeviceEventTypeIsSpecificPinLaw", "star", "(I)Z"⟩ : MethodName)) hO177 (mvT hZ177 hw79) (mvT hZ177 hw80) (mvT hZ177 hw2) (mvT hZ177 hw81) (by decide) (backOf (W := 0) (rmStar l Z a0 hw [] vcs G iC T177.heap n0 O177 ) hZ177 hw81 hw2 (by decide) (by decide)) (g := (mkF m 56 #[.val (.int iA), .val (.int iB), .val (.int iC), .val (.int iD), .val (.ref r_172), .val (.ref r_173), .val (.ref r_174), .val (.ref r_175), .val (.ref b176), .unset] [(.int iC)])) rfl (by rw [hml]; rfl) (argsL := [(.int iC)]) (rest := []) (lenOf pd_15 rfl) rfl (by show 2 * 0 + _ ≤ _; exact Nat.le_of_eq rfl) (hb hby at_56) (fun _ _ => ⟨rfl, e196, (by decide : 33 + 0 ≤ _), (by decide : 196 + 0 ≤ _)⟩)
      dsimp only [Pt.U, Pt.locs, Pt.cells, Pt.slots] at X214 l214 y214 z214 st214 hQ214
      subst l214 y214 z214
      obtain ⟨r_214, rfl, rfl, e214, r214_0⟩ := hQ214
      try replace X214 := own_nil X214
      refine Go.by' st214 ?_
      rcases r214_0 with ⟨hs214, hz214⟩ | ⟨hs214, hz214⟩
      · subst hz214
        show Go p.tables e below Pf (T214.setTop (mkF m 59 #[.val (.int iA), .val (.int iB), .val (.int iC), .val (.int iD), .val (.ref r_172), .val (.ref r_173), .val (.ref r_174), .val (.ref r_175), .val (.ref b176), .unset] [(.int (1 : Int32))]))
        refine Go.by' (fun t k => (XS.ifYes X214.here hx rfl (pc0 := 59) (pc' := 73) rfl (hb hby at_59) rfl ((if0 _ _).trans (feq (by decide)).2) (by decide) (by decide) (XS.iconst X214.here hx rfl (hb hby at_73) (XS.istore X214.here hx rfl (hb hby at_74) rfl (l' := #[.val (.int iA), .val (.int iB), .val (.int iC), .val (.int iD), .val (.ref r_172), .val (.ref r_173), .val (.ref r_174), .val (.ref r_175), .val (.ref b176), .val (.int (0 : Int32))]) rfl (XS.aload X214.here hx rfl (hb hby at_76) rfl rfl k))))) ?_
        show Go p.tables e below Pf (T214.setTop (mkF m 78 #[.val (.int iA), .val (.int iB), .val (.int iC), .val (.int iD), .val (.ref r_172), .val (.ref r_173), .val (.ref r_174), .val (.ref r_175), .val (.ref b176), .val (.int (0 : Int32))] [(.ref b176)]))
        have c216 := (((((f172_4.keep K173 nin0).keep K174 nin0).keep K175 nin0).ext E176).keep K177 (ninS (Nat.ne_of_lt (Nat.lt_of_lt_of_le (Nat.lt_of_lt_of_le f172_4.lt (Nat.le_trans K173.1 (Nat.le_trans K174.1 K175.1))) (Nat.le_of_eq g176.symm))) nin0))
        have c217 := ((((f173_4.keep K174 nin0).keep K175 nin0).ext E176).keep K177 (ninS (Nat.ne_of_lt (Nat.lt_of_lt_of_le (Nat.lt_of_lt_of_le f173_4.lt (Nat.le_trans K174.1 K175.1)) (Nat.le_of_eq g176.symm))) nin0))
        have c218 := (((f174_4.keep K175 nin0).ext E176).keep K177 (ninS (Nat.ne_of_lt (Nat.lt_of_lt_of_le (Nat.lt_of_lt_of_le f174_4.lt K175.1) (Nat.le_of_eq g176.symm))) nin0))
        have c219 := ((f175_4.ext E176).keep K177 (ninS (Nat.ne_of_lt (Nat.lt_of_lt_of_le f175_4.lt (Nat.le_of_eq g176.symm))) nin0))
        have c220 := (((((f172_0.keep K173).keep K174).keep K175).ext E176).keep K177)
        have c221 := (((((f172_2.keep K173 nin0).keep K174 nin0).keep K175 nin0).ext E176).keep K177 (ninS (Nat.ne_of_lt (Nat.lt_of_lt_of_le (Nat.lt_of_lt_of_le f172_0.lt (Nat.le_trans K173.1 (Nat.le_trans K174.1 K175.1))) (Nat.le_of_eq g176.symm))) nin0))
        have c222 := (((((f172_3.keep K173 nin0).keep K174 nin0).keep K175 nin0).ext E176).keep K177 (ninS (Nat.ne_of_lt (Nat.lt_of_lt_of_le (Nat.lt_of_lt_of_le f172_0.lt (Nat.le_trans K173.1 (Nat.le_trans K174.1 K175.1))) (Nat.le_of_eq g176.symm))) nin0))
        have c223 := ((((f173_0.keep K174).keep K175).ext E176).keep K177)
        have c224 := ((((f173_2.keep K174 nin0).keep K175 nin0).ext E176).keep K177 (ninS (Nat.ne_of_lt (Nat.lt_of_lt_of_le (Nat.lt_of_lt_of_le f173_0.lt (Nat.le_trans K174.1 K175.1)) (Nat.le_of_eq g176.symm))) nin0))
        have c225 := ((((f173_3.keep K174 nin0).keep K175 nin0).ext E176).keep K177 (ninS (Nat.ne_of_lt (Nat.lt_of_lt_of_le (Nat.lt_of_lt_of_le f173_0.lt (Nat.le_trans K174.1 K175.1)) (Nat.le_of_eq g176.symm))) nin0))
        have c226 := (((f174_0.keep K175).ext E176).keep K177)
        have c227 := (((f174_2.keep K175 nin0).ext E176).keep K177 (ninS (Nat.ne_of_lt (Nat.lt_of_lt_of_le (Nat.lt_of_lt_of_le f174_0.lt K175.1) (Nat.le_of_eq g176.symm))) nin0))
        have c228 := (((f174_3.keep K175 nin0).ext E176).keep K177 (ninS (Nat.ne_of_lt (Nat.lt_of_lt_of_le (Nat.lt_of_lt_of_le f174_0.lt K175.1) (Nat.le_of_eq g176.symm))) nin0))
        have c229 := ((f175_0.ext E176).keep K177)
        have c230 := ((f175_2.ext E176).keep K177 (ninS (Nat.ne_of_lt (Nat.lt_of_lt_of_le f175_0.lt (Nat.le_of_eq g176.symm))) nin0))
        have c231 := ((f175_3.ext E176).keep K177 (ninS (Nat.ne_of_lt (Nat.lt_of_lt_of_le f175_0.lt (Nat.le_of_eq g176.symm))) nin0))
        obtain ⟨cq215, kq215, q215a, q215b, q215c⟩ := isOf hZ177 e214 f177_0
        obtain ⟨_, _, ⟨T215, L215, k215, n215⟩, -, X215, Si215, Gr215, ⟨Lc215, hQ215, l215, y215, z215, A215⟩, st215⟩ := X214.virtualBackS hx (y := (⟨"com/example/meterline/meterline/core/EndDeviceEventType", "isSpecific", "()Z"⟩ : MethodName)) (z := (⟨"com/example/meterline/meterline/core/EndDeviceEventType", "isSpecific", "()Z"⟩ : MethodName)) hO177 (mvT hZ177 hw82) (mvT hZ177 hw83) (notFace_of_selects (args := #[]) (mvT hZ177 hw85)) (mvT hZ177 hw85) (mvT hZ177 hw84) (by decide) (own_backS (W := 0) (rmIs l Z a0 hw [] vcs G b176 r_172 rb_172 kb_172 zs_172 vsr_172 r_173 rb_173 kb_173 zs_173 vsr_173 r_174 rb_174 kb_174 zs_174 vsr_174 r_175 rb_175 kb_175 zs_175 vsr_175 T177.heap n0 O177 f177_0 f177_1 c220 c221 c222 c216 r172_0 f177_2 c223 c224 c225 c217 r173_0 f177_3 c226 c227 c228 c218 r174_0 f177_4 c229 c230 c231 c219 r175_0) Sb177 hw86 hw53 (by decide) (by decide) hEL (allS ⟨(Nat.lt_of_lt_of_le f172_0.lt (Nat.le_trans K173.1 (Nat.le_trans K174.1 (Nat.le_trans K175.1 (Nat.le_trans E176.1 K177.1))))), (A177.safe (Nat.lt_of_lt_of_le f172_0.lt (Nat.le_trans K173.1 (Nat.le_trans K174.1 (Nat.le_trans K175.1 E176.1)))) (Safe.ext E176 Sb175.ch (A175.safe (Nat.lt_of_lt_of_le f172_0.lt (Nat.le_trans K173.1 K174.1)) (A174.safe (Nat.lt_of_lt_of_le f172_0.lt K173.1) (A173.safe f172_0.lt f172_5)))))⟩ (allS ⟨(Nat.lt_of_lt_of_le f173_0.lt (Nat.le_trans K174.1 (Nat.le_trans K175.1 (Nat.le_trans E176.1 K177.1)))), (A177.safe (Nat.lt_of_lt_of_le f173_0.lt (Nat.le_trans K174.1 (Nat.le_trans K175.1 E176.1))) (Safe.ext E176 Sb175.ch (A175.safe (Nat.lt_of_lt_of_le f173_0.lt K174.1) (A174.safe f173_0.lt f173_5))))⟩ (allS ⟨(Nat.lt_of_lt_of_le f174_0.lt (Nat.le_trans K175.1 (Nat.le_trans E176.1 K177.1))), (A177.safe (Nat.lt_of_lt_of_le f174_0.lt (Nat.le_trans K175.1 E176.1)) (Safe.ext E176 Sb175.ch (A175.safe f174_0.lt f174_5)))⟩ (allS ⟨(Nat.lt_of_lt_of_le f175_0.lt (Nat.le_trans E176.1 K177.1)), (A177.safe (Nat.lt_of_lt_of_le f175_0.lt E176.1) (Safe.ext E176 Sb175.ch f175_5))⟩ all0))))) q215a q215c (g := (mkF m 78 #[.val (.int iA), .val (.int iB), .val (.int iC), .val (.int iD), .val (.ref r_172), .val (.ref r_173), .val (.ref r_174), .val (.ref r_175), .val (.ref b176), .val (.int (0 : Int32))] [(.ref b176)])) rfl (by rw [hml]; rfl) (Steps.refl _) (argsL := []) (rest := []) (lenOf pd_16 rfl) rfl (by show 2 * 0 + _ ≤ _; exact Nat.le_of_eq rfl) (hb hby at_78) (fun _ _ => ⟨rfl, e214, (by decide : 33 + 8 ≤ _), (by decide : 196 + 32 ≤ _)⟩)
        dsimp only [Pt.U, Pt.locs, Pt.cells, Pt.slots] at X215 l215 y215 z215 st215 hQ215 Si215 Gr215 A215
        subst l215 y215 z215
        obtain ⟨r_215, rfl, N215q, K215, r215_0⟩ := hQ215
        have N215 := Fr.app N177 N215q
        obtain ⟨lc215, X215, N215⟩ := own_pack X215 N215
        replace X215 := own_reb X215
        have Sb215 := Sb177.called Si215 (by rw [← e214]; exact Gr215) A215
        have hZ215 := Sb215.hZ
        have hO215 := Sb215.hO
        refine Go.by' (fun t k => st215.trans k) ?_
        have O215 := O177.keep K215 all0
        have KC215 : Keep h0 T215.heap [] := KC177.trans K215 all0
        obtain rfl : r_215 = (0 : Int32) := r215_0.elim (fun q => absurd (r174_1.mpr hs214) (q.2.2.1)) (fun q => q.2)
        show Go p.tables e below Pf (T215.setTop (mkF m 81 #[.val (.int iA), .val (.int iB), .val (.int iC), .val (.int iD), .val (.ref r_172), .val (.ref r_173), .val (.ref r_174), .val (.ref r_175), .val (.ref b176), .val (.int (0 : Int32))] [(.int (0 : Int32))]))
        refine Go.by' (fun t k => (XS.iload X215.here hx rfl (hb hby at_81) rfl (XS.icmpNo X215.here hx rfl (hb hby at_83) rfl (teq (by decide)).2 (XS.iconst X215.here hx rfl (hb hby at_86) (XS.goto X215.here hx rfl (pc0 := 87) (pc' := 91) rfl (hb hby at_87) (by decide) (by decide) k))))) ?_
        show Go p.tables e below Pf (T215.setTop (mkF m 91 #[.val (.int iA), .val (.int iB), .val (.int iC), .val (.int iD), .val (.ref r_172), .val (.ref r_173), .val (.ref r_174), .val (.ref r_175), .val (.ref b176), .val (.int (0 : Int32))] [(.int (1 : Int32))]))
        rw [hPf]
        exact Go.retIS X215 hx hEL Sb215 rfl hh hret hlk (by simp) rfl (hb hby at_91) (by decide) (by decide) ⟨rfl, N215, KC215⟩
      · subst hz214
        show Go p.tables e below Pf (T214.setTop (mkF m 59 #[.val (.int iA), .val (.int iB), .val (.int iC), .val (.int iD), .val (.ref r_172), .val (.ref r_173), .val (.ref r_174), .val (.ref r_175), .val (.ref b176), .unset] [(.int (0 : Int32))]))
        refine Go.by' (fun t k => (XS.ifNo X214.here hx rfl (hb hby at_59) rfl ((if0 _ _).trans (teq (by decide)).2) (XS.iloadN X214.here hx rfl (hb hby at_62) rfl k))) ?_
        show Go p.tables e below Pf (T214.setTop (mkF m 63 #[.val (.int iA), .val (.int iB), .val (.int iC), .val (.int iD), .val (.ref r_172), .val (.ref r_173), .val (.ref r_174), .val (.ref r_175), .val (.ref b176), .unset] [(.int iD)]))
        obtain ⟨_, _, ⟨T232, L232, k232, n232⟩, -, X232, ⟨Lc232, hQ232, l232, y232, z232⟩, st232⟩ := Jvm.LawKit.callS X214 hx (y := (⟨"com/example/meterline/meterline/core/EndDeviceEventTypeIsSpecificPinLaw", "star", "(I)Z"⟩ : MethodName)) hO177 (mvT hZ177 hw79) (mvT hZ177 hw80) (mvT hZ177 hw2) (mvT hZ177 hw81) (by decide) (backOf (W := 0) (rmStar l Z a0 hw [] vcs G iD T177.heap n0 O177 ) hZ177 hw81 hw2 (by decide) (by decide)) (g := (mkF m 63 #[.val (.int iA), .val (.int iB), .val (.int iC), .val (.int iD), .val (.ref r_172), .val (.ref r_173), .val (.ref r_174), .val (.ref r_175), .val (.ref b176), .unset] [(.int iD)])) rfl (by rw [hml]; rfl) (argsL := [(.int iD)]) (rest := []) (lenOf pd_15 rfl) rfl (by show 2 * 0 + _ ≤ _; exact Nat.le_of_eq rfl) (hb hby at_63) (fun _ _ => ⟨rfl, e214, (by decide : 33 + 0 ≤ _), (by decide : 196 + 0 ≤ _)⟩)
        dsimp only [Pt.U, Pt.locs, Pt.cells, Pt.slots] at X232 l232 y232 z232 st232 hQ232
        subst l232 y232 z232
        obtain ⟨r_232, rfl, rfl, e232, r232_0⟩ := hQ232
        try replace X232 := own_nil X232
        refine Go.by' st232 ?_
        rcases r232_0 with ⟨hs232, hz232⟩ | ⟨hs232, hz232⟩
        · subst hz232
          show Go p.tables e below Pf (T232.setTop (mkF m 66 #[.val (.int iA), .val (.int iB), .val (.int iC), .val (.int iD), .val (.ref r_172), .val (.ref r_173), .val (.ref r_174), .val (.ref r_175), .val (.ref b176), .unset] [(.int (1 : Int32))]))
          refine Go.by' (fun t k => (XS.ifYes X232.here hx rfl (pc0 := 66) (pc' := 73) rfl (hb hby at_66) rfl ((if0 _ _).trans (feq (by decide)).2) (by decide) (by decide) (XS.iconst X232.here hx rfl (hb hby at_73) (XS.istore X232.here hx rfl (hb hby at_74) rfl (l' := #[.val (.int iA), .val (.int iB), .val (.int iC), .val (.int iD), .val (.ref r_172), .val (.ref r_173), .val (.ref r_174), .val (.ref r_175), .val (.ref b176), .val (.int (0 : Int32))]) rfl (XS.aload X232.here hx rfl (hb hby at_76) rfl rfl k))))) ?_
          show Go p.tables e below Pf (T232.setTop (mkF m 78 #[.val (.int iA), .val (.int iB), .val (.int iC), .val (.int iD), .val (.ref r_172), .val (.ref r_173), .val (.ref r_174), .val (.ref r_175), .val (.ref b176), .val (.int (0 : Int32))] [(.ref b176)]))
          have c234 := (((((f172_4.keep K173 nin0).keep K174 nin0).keep K175 nin0).ext E176).keep K177 (ninS (Nat.ne_of_lt (Nat.lt_of_lt_of_le (Nat.lt_of_lt_of_le f172_4.lt (Nat.le_trans K173.1 (Nat.le_trans K174.1 K175.1))) (Nat.le_of_eq g176.symm))) nin0))
          have c235 := ((((f173_4.keep K174 nin0).keep K175 nin0).ext E176).keep K177 (ninS (Nat.ne_of_lt (Nat.lt_of_lt_of_le (Nat.lt_of_lt_of_le f173_4.lt (Nat.le_trans K174.1 K175.1)) (Nat.le_of_eq g176.symm))) nin0))
          have c236 := (((f174_4.keep K175 nin0).ext E176).keep K177 (ninS (Nat.ne_of_lt (Nat.lt_of_lt_of_le (Nat.lt_of_lt_of_le f174_4.lt K175.1) (Nat.le_of_eq g176.symm))) nin0))
          have c237 := ((f175_4.ext E176).keep K177 (ninS (Nat.ne_of_lt (Nat.lt_of_lt_of_le f175_4.lt (Nat.le_of_eq g176.symm))) nin0))
          have c238 := (((((f172_0.keep K173).keep K174).keep K175).ext E176).keep K177)
          have c239 := (((((f172_2.keep K173 nin0).keep K174 nin0).keep K175 nin0).ext E176).keep K177 (ninS (Nat.ne_of_lt (Nat.lt_of_lt_of_le (Nat.lt_of_lt_of_le f172_0.lt (Nat.le_trans K173.1 (Nat.le_trans K174.1 K175.1))) (Nat.le_of_eq g176.symm))) nin0))
          have c240 := (((((f172_3.keep K173 nin0).keep K174 nin0).keep K175 nin0).ext E176).keep K177 (ninS (Nat.ne_of_lt (Nat.lt_of_lt_of_le (Nat.lt_of_lt_of_le f172_0.lt (Nat.le_trans K173.1 (Nat.le_trans K174.1 K175.1))) (Nat.le_of_eq g176.symm))) nin0))
          have c241 := ((((f173_0.keep K174).keep K175).ext E176).keep K177)
          have c242 := ((((f173_2.keep K174 nin0).keep K175 nin0).ext E176).keep K177 (ninS (Nat.ne_of_lt (Nat.lt_of_lt_of_le (Nat.lt_of_lt_of_le f173_0.lt (Nat.le_trans K174.1 K175.1)) (Nat.le_of_eq g176.symm))) nin0))
          have c243 := ((((f173_3.keep K174 nin0).keep K175 nin0).ext E176).keep K177 (ninS (Nat.ne_of_lt (Nat.lt_of_lt_of_le (Nat.lt_of_lt_of_le f173_0.lt (Nat.le_trans K174.1 K175.1)) (Nat.le_of_eq g176.symm))) nin0))
          have c244 := (((f174_0.keep K175).ext E176).keep K177)
          have c245 := (((f174_2.keep K175 nin0).ext E176).keep K177 (ninS (Nat.ne_of_lt (Nat.lt_of_lt_of_le (Nat.lt_of_lt_of_le f174_0.lt K175.1) (Nat.le_of_eq g176.symm))) nin0))
          have c246 := (((f174_3.keep K175 nin0).ext E176).keep K177 (ninS (Nat.ne_of_lt (Nat.lt_of_lt_of_le (Nat.lt_of_lt_of_le f174_0.lt K175.1) (Nat.le_of_eq g176.symm))) nin0))
          have c247 := ((f175_0.ext E176).keep K177)
          have c248 := ((f175_2.ext E176).keep K177 (ninS (Nat.ne_of_lt (Nat.lt_of_lt_of_le f175_0.lt (Nat.le_of_eq g176.symm))) nin0))
          have c249 := ((f175_3.ext E176).keep K177 (ninS (Nat.ne_of_lt (Nat.lt_of_lt_of_le f175_0.lt (Nat.le_of_eq g176.symm))) nin0))
          obtain ⟨cq233, kq233, q233a, q233b, q233c⟩ := isOf hZ177 e232 f177_0
          obtain ⟨_, _, ⟨T233, L233, k233, n233⟩, -, X233, Si233, Gr233, ⟨Lc233, hQ233, l233, y233, z233, A233⟩, st233⟩ := X232.virtualBackS hx (y := (⟨"com/example/meterline/meterline/core/EndDeviceEventType", "isSpecific", "()Z"⟩ : MethodName)) (z := (⟨"com/example/meterline/meterline/core/EndDeviceEventType", "isSpecific", "()Z"⟩ : MethodName)) hO177 (mvT hZ177 hw82) (mvT hZ177 hw83) (notFace_of_selects (args := #[]) (mvT hZ177 hw85)) (mvT hZ177 hw85) (mvT hZ177 hw84) (by decide) (own_backS (W := 0) (rmIs l Z a0 hw [] vcs G b176 r_172 rb_172 kb_172 zs_172 vsr_172 r_173 rb_173 kb_173 zs_173 vsr_173 r_174 rb_174 kb_174 zs_174 vsr_174 r_175 rb_175 kb_175 zs_175 vsr_175 T177.heap n0 O177 f177_0 f177_1 c238 c239 c240 c234 r172_0 f177_2 c241 c242 c243 c235 r173_0 f177_3 c244 c245 c246 c236 r174_0 f177_4 c247 c248 c249 c237 r175_0) Sb177 hw86 hw53 (by decide) (by decide) hEL (allS ⟨(Nat.lt_of_lt_of_le f172_0.lt (Nat.le_trans K173.1 (Nat.le_trans K174.1 (Nat.le_trans K175.1 (Nat.le_trans E176.1 K177.1))))), (A177.safe (Nat.lt_of_lt_of_le f172_0.lt (Nat.le_trans K173.1 (Nat.le_trans K174.1 (Nat.le_trans K175.1 E176.1)))) (Safe.ext E176 Sb175.ch (A175.safe (Nat.lt_of_lt_of_le f172_0.lt (Nat.le_trans K173.1 K174.1)) (A174.safe (Nat.lt_of_lt_of_le f172_0.lt K173.1) (A173.safe f172_0.lt f172_5)))))⟩ (allS ⟨(Nat.lt_of_lt_of_le f173_0.lt (Nat.le_trans K174.1 (Nat.le_trans K175.1 (Nat.le_trans E176.1 K177.1)))), (A177.safe (Nat.lt_of_lt_of_le f173_0.lt (Nat.le_trans K174.1 (Nat.le_trans K175.1 E176.1))) (Safe.ext E176 Sb175.ch (A175.safe (Nat.lt_of_lt_of_le f173_0.lt K174.1) (A174.safe f173_0.lt f173_5))))⟩ (allS ⟨(Nat.lt_of_lt_of_le f174_0.lt (Nat.le_trans K175.1 (Nat.le_trans E176.1 K177.1))), (A177.safe (Nat.lt_of_lt_of_le f174_0.lt (Nat.le_trans K175.1 E176.1)) (Safe.ext E176 Sb175.ch (A175.safe f174_0.lt f174_5)))⟩ (allS ⟨(Nat.lt_of_lt_of_le f175_0.lt (Nat.le_trans E176.1 K177.1)), (A177.safe (Nat.lt_of_lt_of_le f175_0.lt E176.1) (Safe.ext E176 Sb175.ch f175_5))⟩ all0))))) q233a q233c (g := (mkF m 78 #[.val (.int iA), .val (.int iB), .val (.int iC), .val (.int iD), .val (.ref r_172), .val (.ref r_173), .val (.ref r_174), .val (.ref r_175), .val (.ref b176), .val (.int (0 : Int32))] [(.ref b176)])) rfl (by rw [hml]; rfl) (Steps.refl _) (argsL := []) (rest := []) (lenOf pd_16 rfl) rfl (by show 2 * 0 + _ ≤ _; exact Nat.le_of_eq rfl) (hb hby at_78) (fun _ _ => ⟨rfl, e232, (by decide : 33 + 8 ≤ _), (by decide : 196 + 32 ≤ _)⟩)
          dsimp only [Pt.U, Pt.locs, Pt.cells, Pt.slots] at X233 l233 y233 z233 st233 hQ233 Si233 Gr233 A233
          subst l233 y233 z233
          obtain ⟨r_233, rfl, N233q, K233, r233_0⟩ := hQ233
          have N233 := Fr.app N177 N233q
          obtain ⟨lc233, X233, N233⟩ := own_pack X233 N233
          replace X233 := own_reb X233
          have Sb233 := Sb177.called Si233 (by rw [← e232]; exact Gr233) A233
          have hZ233 := Sb233.hZ
          have hO233 := Sb233.hO
          refine Go.by' (fun t k => st233.trans k) ?_
          have O233 := O177.keep K233 all0
          have KC233 : Keep h0 T233.heap [] := KC177.trans K233 all0
          obtain rfl : r_233 = (0 : Int32) := r233_0.elim (fun q => absurd (r175_1.mpr hs232) (q.2.2.2.1)) (fun q => q.2)
          show Go p.tables e below Pf (T233.setTop (mkF m 81 #[.val (.int iA), .val (.int iB), .val (.int iC), .val (.int iD), .val (.ref r_172), .val (.ref r_173), .val (.ref r_174), .val (.ref r_175), .val (.ref b176), .val (.int (0 : Int32))] [(.int (0 : Int32))]))
          refine Go.by' (fun t k => (XS.iload X233.here hx rfl (hb hby at_81) rfl (XS.icmpNo X233.here hx rfl (hb hby at_83) rfl (teq (by decide)).2 (XS.iconst X233.here hx rfl (hb hby at_86) (XS.goto X233.here hx rfl (pc0 := 87) (pc' := 91) rfl (hb hby at_87) (by decide) (by decide) k))))) ?_
          show Go p.tables e below Pf (T233.setTop (mkF m 91 #[.val (.int iA), .val (.int iB), .val (.int iC), .val (.int iD), .val (.ref r_172), .val (.ref r_173), .val (.ref r_174), .val (.ref r_175), .val (.ref b176), .val (.int (0 : Int32))] [(.int (1 : Int32))]))
          rw [hPf]
          exact Go.retIS X233 hx hEL Sb233 rfl hh hret hlk (by simp) rfl (hb hby at_91) (by decide) (by decide) ⟨rfl, N233, KC233⟩
        · subst hz232
          show Go p.tables e below Pf (T232.setTop (mkF m 66 #[.val (.int iA), .val (.int iB), .val (.int iC), .val (.int iD), .val (.ref r_172), .val (.ref r_173), .val (.ref r_174), .val (.ref r_175), .val (.ref b176), .unset] [(.int (0 : Int32))]))
          refine Go.by' (fun t k => (XS.ifNo X232.here hx rfl (hb hby at_66) rfl ((if0 _ _).trans (teq (by decide)).2) (XS.iconst X232.here hx rfl (hb hby at_69) (XS.goto X232.here hx rfl (pc0 := 70) (pc' := 74) rfl (hb hby at_70) (by decide) (by decide) (XS.istore X232.here hx rfl (hb hby at_74) rfl (l' := #[.val (.int iA), .val (.int iB), .val (.int iC), .val (.int iD), .val (.ref r_172), .val (.ref r_173), .val (.ref r_174), .val (.ref r_175), .val (.ref b176), .val (.int (1 : Int32))]) rfl (XS.aload X232.here hx rfl (hb hby at_76) rfl rfl k)))))) ?_
          show Go p.tables e below Pf (T232.setTop (mkF m 78 #[.val (.int iA), .val (.int iB), .val (.int iC), .val (.int iD), .val (.ref r_172), .val (.ref r_173), .val (.ref r_174), .val (.ref r_175), .val (.ref b176), .val (.int (1 : Int32))] [(.ref b176)]))
          have c251 := (((((f172_4.keep K173 nin0).keep K174 nin0).keep K175 nin0).ext E176).keep K177 (ninS (Nat.ne_of_lt (Nat.lt_of_lt_of_le (Nat.lt_of_lt_of_le f172_4.lt (Nat.le_trans K173.1 (Nat.le_trans K174.1 K175.1))) (Nat.le_of_eq g176.symm))) nin0))
          have c252 := ((((f173_4.keep K174 nin0).keep K175 nin0).ext E176).keep K177 (ninS (Nat.ne_of_lt (Nat.lt_of_lt_of_le (Nat.lt_of_lt_of_le f173_4.lt (Nat.le_trans K174.1 K175.1)) (Nat.le_of_eq g176.symm))) nin0))
          have c253 := (((f174_4.keep K175 nin0).ext E176).keep K177 (ninS (Nat.ne_of_lt (Nat.lt_of_lt_of_le (Nat.lt_of_lt_of_le f174_4.lt K175.1) (Nat.le_of_eq g176.symm))) nin0))
          have c254 := ((f175_4.ext E176).keep K177 (ninS (Nat.ne_of_lt (Nat.lt_of_lt_of_le f175_4.lt (Nat.le_of_eq g176.symm))) nin0))
          have c255 := (((((f172_0.keep K173).keep K174).keep K175).ext E176).keep K177)
          have c256 := (((((f172_2.keep K173 nin0).keep K174 nin0).keep K175 nin0).ext E176).keep K177 (ninS (Nat.ne_of_lt (Nat.lt_of_lt_of_le (Nat.lt_of_lt_of_le f172_0.lt (Nat.le_trans K173.1 (Nat.le_trans K174.1 K175.1))) (Nat.le_of_eq g176.symm))) nin0))
          have c257 := (((((f172_3.keep K173 nin0).keep K174 nin0).keep K175 nin0).ext E176).keep K177 (ninS (Nat.ne_of_lt (Nat.lt_of_lt_of_le (Nat.lt_of_lt_of_le f172_0.lt (Nat.le_trans K173.1 (Nat.le_trans K174.1 K175.1))) (Nat.le_of_eq g176.symm))) nin0))
          have c258 := ((((f173_0.keep K174).keep K175).ext E176).keep K177)
          have c259 := ((((f173_2.keep K174 nin0).keep K175 nin0).ext E176).keep K177 (ninS (Nat.ne_of_lt (Nat.lt_of_lt_of_le (Nat.lt_of_lt_of_le f173_0.lt (Nat.le_trans K174.1 K175.1)) (Nat.le_of_eq g176.symm))) nin0))
          have c260 := ((((f173_3.keep K174 nin0).keep K175 nin0).ext E176).keep K177 (ninS (Nat.ne_of_lt (Nat.lt_of_lt_of_le (Nat.lt_of_lt_of_le f173_0.lt (Nat.le_trans K174.1 K175.1)) (Nat.le_of_eq g176.symm))) nin0))
          have c261 := (((f174_0.keep K175).ext E176).keep K177)
          have c262 := (((f174_2.keep K175 nin0).ext E176).keep K177 (ninS (Nat.ne_of_lt (Nat.lt_of_lt_of_le (Nat.lt_of_lt_of_le f174_0.lt K175.1) (Nat.le_of_eq g176.symm))) nin0))
          have c263 := (((f174_3.keep K175 nin0).ext E176).keep K177 (ninS (Nat.ne_of_lt (Nat.lt_of_lt_of_le (Nat.lt_of_lt_of_le f174_0.lt K175.1) (Nat.le_of_eq g176.symm))) nin0))
          have c264 := ((f175_0.ext E176).keep K177)
          have c265 := ((f175_2.ext E176).keep K177 (ninS (Nat.ne_of_lt (Nat.lt_of_lt_of_le f175_0.lt (Nat.le_of_eq g176.symm))) nin0))
          have c266 := ((f175_3.ext E176).keep K177 (ninS (Nat.ne_of_lt (Nat.lt_of_lt_of_le f175_0.lt (Nat.le_of_eq g176.symm))) nin0))
          obtain ⟨cq250, kq250, q250a, q250b, q250c⟩ := isOf hZ177 e232 f177_0
          obtain ⟨_, _, ⟨T250, L250, k250, n250⟩, -, X250, Si250, Gr250, ⟨Lc250, hQ250, l250, y250, z250, A250⟩, st250⟩ := X232.virtualBackS hx (y := (⟨"com/example/meterline/meterline/core/EndDeviceEventType", "isSpecific", "()Z"⟩ : MethodName)) (z := (⟨"com/example/meterline/meterline/core/EndDeviceEventType", "isSpecific", "()Z"⟩ : MethodName)) hO177 (mvT hZ177 hw82) (mvT hZ177 hw83) (notFace_of_selects (args := #[]) (mvT hZ177 hw85)) (mvT hZ177 hw85) (mvT hZ177 hw84) (by decide) (own_backS (W := 0) (rmIs l Z a0 hw [] vcs G b176 r_172 rb_172 kb_172 zs_172 vsr_172 r_173 rb_173 kb_173 zs_173 vsr_173 r_174 rb_174 kb_174 zs_174 vsr_174 r_175 rb_175 kb_175 zs_175 vsr_175 T177.heap n0 O177 f177_0 f177_1 c255 c256 c257 c251 r172_0 f177_2 c258 c259 c260 c252 r173_0 f177_3 c261 c262 c263 c253 r174_0 f177_4 c264 c265 c266 c254 r175_0) Sb177 hw86 hw53 (by decide) (by decide) hEL (allS ⟨(Nat.lt_of_lt_of_le f172_0.lt (Nat.le_trans K173.1 (Nat.le_trans K174.1 (Nat.le_trans K175.1 (Nat.le_trans E176.1 K177.1))))), (A177.safe (Nat.lt_of_lt_of_le f172_0.lt (Nat.le_trans K173.1 (Nat.le_trans K174.1 (Nat.le_trans K175.1 E176.1)))) (Safe.ext E176 Sb175.ch (A175.safe (Nat.lt_of_lt_of_le f172_0.lt (Nat.le_trans K173.1 K174.1)) (A174.safe (Nat.lt_of_lt_of_le f172_0.lt K173.1) (A173.safe f172_0.lt f172_5)))))⟩ (allS ⟨(Nat.lt_of_lt_of_le f173_0.lt (Nat.le_trans K174.1 (Nat.le_trans K175.1 (Nat.le_trans E176.1 K177.1)))), (A177.safe (Nat.lt_of_lt_of_le f173_0.lt (Nat.le_trans K174.1 (Nat.le_trans K175.1 E176.1))) (Safe.ext E176 Sb175.ch (A175.safe (Nat.lt_of_lt_of_le f173_0.lt K174.1) (A174.safe f173_0.lt f173_5))))⟩ (allS ⟨(Nat.lt_of_lt_of_le f174_0.lt (Nat.le_trans K175.1 (Nat.le_trans E176.1 K177.1))), (A177.safe (Nat.lt_of_lt_of_le f174_0.lt (Nat.le_trans K175.1 E176.1)) (Safe.ext E176 Sb175.ch (A175.safe f174_0.lt f174_5)))⟩ (allS ⟨(Nat.lt_of_lt_of_le f175_0.lt (Nat.le_trans E176.1 K177.1)), (A177.safe (Nat.lt_of_lt_of_le f175_0.lt E176.1) (Safe.ext E176 Sb175.ch f175_5))⟩ all0))))) q250a q250c (g := (mkF m 78 #[.val (.int iA), .val (.int iB), .val (.int iC), .val (.int iD), .val (.ref r_172), .val (.ref r_173), .val (.ref r_174), .val (.ref r_175), .val (.ref b176), .val (.int (1 : Int32))] [(.ref b176)])) rfl (by rw [hml]; rfl) (Steps.refl _) (argsL := []) (rest := []) (lenOf pd_16 rfl) rfl (by show 2 * 0 + _ ≤ _; exact Nat.le_of_eq rfl) (hb hby at_78) (fun _ _ => ⟨rfl, e232, (by decide : 33 + 8 ≤ _), (by decide : 196 + 32 ≤ _)⟩)
          dsimp only [Pt.U, Pt.locs, Pt.cells, Pt.slots] at X250 l250 y250 z250 st250 hQ250 Si250 Gr250 A250
          subst l250 y250 z250
          obtain ⟨r_250, rfl, N250q, K250, r250_0⟩ := hQ250
          have N250 := Fr.app N177 N250q
          obtain ⟨lc250, X250, N250⟩ := own_pack X250 N250
          replace X250 := own_reb X250
          have Sb250 := Sb177.called Si250 (by rw [← e232]; exact Gr250) A250
          have hZ250 := Sb250.hZ
          have hO250 := Sb250.hO
          refine Go.by' (fun t k => st250.trans k) ?_
          have O250 := O177.keep K250 all0
          have KC250 : Keep h0 T250.heap [] := KC177.trans K250 all0
          obtain rfl : r_250 = (1 : Int32) := r250_0.elim (fun q => q.2.2.2.2) (fun q => absurd ⟨fun z => hs178 (r172_1.mp z), fun z => hs196 (r173_1.mp z), fun z => hs214 (r174_1.mp z), fun z => hs232 (r175_1.mp z)⟩ q.1)
          show Go p.tables e below Pf (T250.setTop (mkF m 81 #[.val (.int iA), .val (.int iB), .val (.int iC), .val (.int iD), .val (.ref r_172), .val (.ref r_173), .val (.ref r_174), .val (.ref r_175), .val (.ref b176), .val (.int (1 : Int32))] [(.int (1 : Int32))]))
          refine Go.by' (fun t k => (XS.iload X250.here hx rfl (hb hby at_81) rfl (XS.icmpNo X250.here hx rfl (hb hby at_83) rfl (teq (by decide)).2 (XS.iconst X250.here hx rfl (hb hby at_86) (XS.goto X250.here hx rfl (pc0 := 87) (pc' := 91) rfl (hb hby at_87) (by decide) (by decide) k))))) ?_
          show Go p.tables e below Pf (T250.setTop (mkF m 91 #[.val (.int iA), .val (.int iB), .val (.int iC), .val (.int iD), .val (.ref r_172), .val (.ref r_173), .val (.ref r_174), .val (.ref r_175), .val (.ref b176), .val (.int (1 : Int32))] [(.int (1 : Int32))]))
          rw [hPf]
          exact Go.retIS X250 hx hEL Sb250 rfl hh hret hlk (by simp) rfl (hb hby at_91) (by decide) (by decide) ⟨rfl, N250, KC250⟩
set_option maxRecDepth 65536 in
set_option maxHeartbeats 40000000 in
theorem comes_1 {Post : Tables → Env → Array Value → State → Outcome → State → Prop} (hpost : ∀ tb e args s v u, (limb_1_1.after args s (.returned v) u = true ∧ limb_1_2.after args s (.returned v) u = true ∧ True) → FramedW s (.returned v) u (Jvm.fieldLocs frame_1_writes args s ++ Jvm.arrayLocs frame_1_arrays args s ++ Jvm.staticLocs frame_1_statics s) 48 6336 → Post tb e args s (.returned v) u) :
    ArmFor flags0 classFile x code maxLocals ret World_1 tables_1 room_1 Calls_1 rest_1 Pre_1 Post := by
  intro l hfl _ _ p e ha hc hk s m args below hf hA hF happ hP
  obtain ⟨hcalls, hrest, hpre⟩ := hP
  obtain ⟨-, -, -, hnamed, -, -, -, hat⟩ := (Spec.applies_iff hf).mp happ
  obtain ⟨hg, hn⟩ := and_e (Cond.before_iff.mp (show (Jvm.Cond.and given_1 narrow_1).before args s = true from hpre))
  obtain ⟨ga1, gb1⟩ := and_e hg
  obtain ⟨ga2, gb2⟩ := and_e gb1
  obtain ⟨ga3, gb3⟩ := and_e gb2
  obtain ⟨ga4, gb4⟩ := and_e gb3
  obtain ⟨w0, w1, w2, w3, rfl⟩ : ∃ w0 w1 w2 w3 : Value, args = #[w0, w1, w2, w3] := by
    have hs : args.size = 4 := by simpa [Cond.value, given_1] using ga1
    obtain ⟨L⟩ := args
    match L, hs with
    | [w0, w1, w2, w3], _ => exact ⟨w0, w1, w2, w3, rfl⟩
  have hw := fun d (hd : d ∈ tables_1) => atoms_spec (ws := Jvm.Cond.code x code maxLocals ret :: tables_1) hat d (List.mem_cons_of_mem _ hd)
  have hfit : Fit s := fun {y c} hc i hi => by
    obtain ⟨ha, rfl⟩ := Array.getElem?_eq_some_iff.mp hc
    have q := List.all_eq_true.mp ((Array.all_eq_true_iff_forall_mem.mp hF) _ (Array.getElem_mem ha)) i (List.mem_range.mpr hi)
    simpa [Array.getElem?_eq_getElem hi] using q
  obtain ⟨hsets, hown0⟩ := atoms_of _ (rest_1_c_eq ▸ (show rest_1_c.before _ s = true from hrest))
  obtain ⟨iA, ei0⟩ := is_v ga2
  obtain rfl : w0 = (.int iA) := Option.some.inj ei0
  obtain ⟨iB, ei1⟩ := is_v ga3
  obtain rfl : w1 = (.int iB) := Option.some.inj ei1
  obtain ⟨iC, ei2⟩ := is_v ga4
  obtain rfl : w2 = (.int iC) := Option.some.inj ei2
  obtain ⟨iD, ei3⟩ := is_v gb4
  obtain rfl : w3 = (.int iD) := Option.some.inj ei3
  obtain ⟨vcs, evcs⟩ := is_v (Cond.before_iff.mp (hsets _ (List.mem_of_getElem? (i := 1) rfl)))
  have Scs := Sta.start evcs (Or.inl (hsets _ (List.mem_of_getElem? (i := 0) rfl)))
  have Ncs : ¬ (vcs = (0 : Int32)) := gotF (Cond.eq_ints evcs (Term.int_eval _)) (not_v (Cond.before_iff.mp (hsets _ (List.mem_of_getElem? (i := 2) rfl))))
  have G : Gh s vcs := ⟨Scs, Ncs⟩
  have hCH0 : CHv s consts_1 s.vm s.heap := CHv.start (own_EW hw) hcalls.1 (hsets _ (List.mem_of_getElem? (i := 2) rfl)) (hw _ (List.mem_of_getElem? (i := 19) rfl)) (hw _ (List.mem_of_getElem? (i := 5) rfl))
  obtain ⟨n, o, h1, h2, h3, _, L, rfl, hQ, hq⟩ := rm0 l s _ hw tables_1 vcs G iA iB iC iD s.heap s.heap.size (Old.start s)  p e ha hc hk s m _ below hf ((Spec.applies_iff_loose hf).mp happ).1 ⟨rfl, State.Warmed39.refl s, rfl, hCH0, fun _ q => nomatch q⟩ trivial
  obtain ⟨rfl, N, -⟩ := hQ
  refine ⟨n, _, h1, h2, h3, hpost _ _ _ _ _ _ ⟨Cond.after_iff.mpr rfl, Cond.after_iff.mpr (eq_i res_at (Term.int_eval (1)) rfl), trivial⟩ ⟨hq.2.1, hq.2.2.1, hq.2.2.2.1, (hq.2.2.2.2.sift fun y hy => Or.inr (N y hy)).mono (by decide) (by decide)⟩⟩
theorem main_1_1 : Claimed_1_1 := comes_1 fun _ _ _ _ _ _ h hF => ⟨h.1, hF⟩
theorem main_1_2 : Claimed_1_2 := comes_1 fun _ _ _ _ _ _ h hF => ⟨h.2.1, hF⟩
end Jvm.Pilot.@@N@@
namespace Jvm.Pilot.@@N@@
open Jvm Jvm.ClassFile Sem Op Lib Jvm.Free Jvm.Stand Jvm.Pilot.@@N@@.Jvm.D
/-! MADE BY PROGRAM (witnessworld.py) out of the Statement's table words and the real class files: 22 classes; the members and pool entries that the words name. The judged class is class 1, her method 3. -/
namespace start1
open Jvm.ClassFile
def u (s : String) : CpInfo := .utf8 (stringToUtf16 s)
/-- a pool by its gaps: so many unusable entries, then the entry; so many at the end -/
def gap : Nat → List CpInfo → List CpInfo
  | 0, r => r
  | n + 1, r => .unusable :: gap n r
def poolList (es : List (Nat × CpInfo)) (last : Nat) : List CpInfo := es.foldr (fun e r => gap e.1 (e.2 :: r)) (gap last [])
def pool (es : List (Nat × CpInfo)) (last : Nat) : Array CpInfo := ⟨poolList es last⟩
def fileOf (pool : Array CpInfo) (this : Nat) (attrs : Array Attribute := #[]) (ms : Array MethodInfo := #[]) (fl : Nat := 33) (sup : Nat := 0) (ifs : Array Nat := #[]) (fds : Array FieldInfo := #[]) : ClassFile where
  minorVersion := 0
  majorVersion := 65
  constantPool := pool
  accessFlags := fl
  thisClass := this
  superClass := sup
  interfaces := ifs
  fields := fds
  methods := ms
  attributes := attrs
def plain (name : String) (sup : Option ClassId) : Class where
  name := name
  kind := .ordinary
  loader := none
  accessFlags := 33
  super := sup
  interfaces := #[]
  cf := none
  fields := #[]
  methods := #[]
  instanceTypes := #[]
  staticTypes := #[]
  resolved := #[]
  callSites := []
  init := .initialized
  statics := none
  mirror := none

def pool0 : Array CpInfo := pool [(5, u "<init>"), (0, u "()V"), (1, .class_ 10), (1, u "java/lang/Object")] 113

def k0c0 : Code := { maxStack := 0, maxLocals := 1, code := object_method_1_code, exceptionTable := #[], attributes := #[] }
def k0m0 : Method := { name := "<init>", desc := "()V", sig := { parameters := [], returnType := none }, accessFlags := 1, code := some k0c0 }
/-- java/lang/Object -/
def k0 : Class := { plain "java/lang/Object" none with
  accessFlags := 33
  interfaces := #[]
  cf := some (fileOf pool0 8 #[] #[{ accessFlags := 1, nameIndex := 5, descriptorIndex := 6, attributes := #[] }] 33 0 #[] #[])
  fields := #[]
  methods := #[k0m0]
  instanceTypes := #[]
  staticTypes := #[]
  resolved := Array.replicate 124 none
  statics := none }

def pool1 : Array CpInfo := pool [(2, .class_ 4), (1, u "java/lang/Object"), (0, u "<init>"), (0, u "()V"), (0, .class_ 8), (0, u "java/lang/String"), (0, .methodref 7 10), (0, .nameAndType 5 11), (0, u "([C)V"), (0, .methodref 7 13), (0, .nameAndType 14 15), (0, u "valueOf"), (0, u "(C)Ljava/lang/String;"), (0, .methodref 17 18), (0, .class_ 19), (0, .nameAndType 20 21), (0, u "com/example/meterline/meterline/core/EndDeviceEventTypeIsSpecificPinLaw"), (0, u "part"), (0, u "(I)Ljava/lang/String;"), (0, .class_ 23), (0, u "com/example/meterline/meterline/core/EndDeviceEventType"), (0, .methodref 22 25), (0, .nameAndType 5 26), (0, u "(Ljava/lang/String;Ljava/lang/String;Ljava/lang/String;Ljava/lang/String;)V"), (0, .methodref 17 28), (0, .nameAndType 29 30), (0, u "star"), (0, u "(I)Z"), (0, .methodref 22 32), (0, .nameAndType 33 34), (0, u "isSpecific"), (0, u "()Z"), (3, u "law"), (0, u "(IIII)Z")] 2

def k1m0 : Method := { name := "<init>", desc := "()V", sig := { parameters := [], returnType := none }, accessFlags := 2, code := none }
def k1c1 : Code := { maxStack := 3, maxLocals := 5, code := method_2_code, exceptionTable := #[], attributes := #[] }
def k1m1 : Method := { name := "part", desc := "(I)Ljava/lang/String;", sig := { parameters := [.int], returnType := some (.object "java/lang/String") }, accessFlags := 10, code := some k1c1 }
def k1c2 : Code := { maxStack := 2, maxLocals := 3, code := method_3_code, exceptionTable := #[], attributes := #[] }
def k1m2 : Method := { name := "star", desc := "(I)Z", sig := { parameters := [.int], returnType := some .boolean }, accessFlags := 10, code := some k1c2 }
def k1c3 : Code := { maxStack := 6, maxLocals := 10, code := code, exceptionTable := #[], attributes := #[] }
def k1m3 : Method := { name := "law", desc := "(IIII)Z", sig := { parameters := [.int, .int, .int, .int], returnType := some .boolean }, accessFlags := 9, code := some k1c3 }
/-- com/example/meterline/meterline/core/EndDeviceEventTypeIsSpecificPinLaw -/
def k1 : Class := { plain "com/example/meterline/meterline/core/EndDeviceEventTypeIsSpecificPinLaw" (some 0) with
  accessFlags := 49
  interfaces := #[]
  cf := some (fileOf pool1 17 #[] #[{ accessFlags := 2, nameIndex := 5, descriptorIndex := 6, attributes := #[] }, { accessFlags := 10, nameIndex := 20, descriptorIndex := 21, attributes := #[] }, { accessFlags := 10, nameIndex := 29, descriptorIndex := 30, attributes := #[] }, { accessFlags := 9, nameIndex := 38, descriptorIndex := 39, attributes := #[] }] 49 2 #[] #[])
  fields := #[]
  methods := #[k1m0, k1m1, k1m2, k1m3]
  instanceTypes := #[]
  staticTypes := #[]
  resolved := Array.replicate 42 none
  statics := none }

def pool2 : Array CpInfo := pool [(1, .class_ 2), (0, u "java/io/Serializable"), (0, .class_ 4), (0, u "java/lang/Object")] 2

/-- java/io/Serializable -/
def k2 : Class := { plain "java/io/Serializable" (some 0) with
  accessFlags := 1537
  interfaces := #[]
  cf := some (fileOf pool2 1 #[] #[] 1537 3 #[] #[])
  fields := #[]
  methods := #[]
  instanceTypes := #[]
  staticTypes := #[]
  resolved := Array.replicate 7 none
  statics := none }

def pool3 : Array CpInfo := pool [(1, .class_ 2), (0, u "java/lang/Comparable"), (0, .class_ 4), (0, u "java/lang/Object")] 7

/-- java/lang/Comparable -/
def k3 : Class := { plain "java/lang/Comparable" (some 0) with
  accessFlags := 1537
  interfaces := #[]
  cf := some (fileOf pool3 1 #[] #[] 1537 3 #[] #[])
  fields := #[]
  methods := #[]
  instanceTypes := #[]
  staticTypes := #[]
  resolved := Array.replicate 12 none
  statics := none }

def pool4 : Array CpInfo := pool [(2, .class_ 4), (1, u "java/lang/CharSequence"), (42, .class_ 48), (0, u "java/lang/CharSequence$1CodePointIterator"), (10, .class_ 60), (0, u "java/lang/CharSequence$1CharIterator"), (5, .class_ 67), (0, u "java/lang/Object")] 63

/-- java/lang/CharSequence -/
def k4 : Class := { plain "java/lang/CharSequence" (some 0) with
  accessFlags := 1537
  interfaces := #[]
  cf := some (fileOf pool4 2 #[.nestMembers #[47, 59]] #[] 1537 66 #[] #[])
  fields := #[]
  methods := #[]
  instanceTypes := #[]
  staticTypes := #[]
  resolved := Array.replicate 131 none
  statics := none }

def pool5 : Array CpInfo := pool [(1, .class_ 2), (0, u "java/lang/constant/Constable"), (0, .class_ 4), (0, u "java/lang/Object")] 6

/-- java/lang/constant/Constable -/
def k5 : Class := { plain "java/lang/constant/Constable" (some 0) with
  accessFlags := 1537
  interfaces := #[]
  cf := some (fileOf pool5 1 #[] #[] 1537 3 #[] #[])
  fields := #[]
  methods := #[]
  instanceTypes := #[]
  staticTypes := #[]
  resolved := Array.replicate 11 none
  statics := none }

def pool6 : Array CpInfo := pool [(1, .class_ 2), (0, u "java/lang/constant/ConstantDesc"), (0, .class_ 4), (0, u "java/lang/Object")] 32

/-- java/lang/constant/ConstantDesc -/
def k6 : Class := { plain "java/lang/constant/ConstantDesc" (some 0) with
  accessFlags := 1537
  interfaces := #[]
  cf := some (fileOf pool6 1 #[] #[] 1537 3 #[] #[])
  fields := #[]
  methods := #[]
  instanceTypes := #[]
  staticTypes := #[]
  resolved := Array.replicate 37 none
  statics := none }

def pool7 : Array CpInfo := pool [(1, .methodref 2 3), (0, .class_ 4), (0, .nameAndType 5 6), (0, u "java/lang/Object"), (0, u "<init>"), (0, u "()V"), (0, .string 8), (0, u ""), (0, .fieldref 10 11), (0, .class_ 12), (0, .nameAndType 13 14), (0, u "java/lang/String"), (0, u "value"), (0, u "[B"), (0, .fieldref 10 16), (0, .nameAndType 17 18), (0, u "coder"), (0, u "B"), (2, u "hash"), (0, u "I"), (2, u "hashIsZero"), (0, u "Z"), (0, .methodref 10 28), (0, .nameAndType 5 29), (0, u "([CIILjava/lang/Void;)V"), (8, .fieldref 10 39), (0, .nameAndType 40 26), (0, u "COMPACT_STRINGS"), (1, .class_ 44), (1, u "java/lang/StringUTF16"), (0, u "compress"), (1, .methodref 42 48), (0, .nameAndType 49 50), (0, u "coderFromArrayLen"), (0, u "([BI)B"), (2, u "toBytes"), (53, .class_ 109), (1, u "java/lang/StringLatin1"), (67, .methodref 42 178), (0, .nameAndType 45 179), (0, u "([CII)[B"), (29, .methodref 10 210), (0, .nameAndType 5 211), (0, u "([BB)V"), (157, u "(C)Z"), (171, .methodref 107 542), (0, .nameAndType 543 544), (0, u "equals"), (0, u "([B[B)Z"), (28, u "(Ljava/lang/Object;)Z"), (1, .class_ 576), (0, u "java/lang/CharSequence"), (22, u "CASE_INSENSITIVE_ORDER"), (0, u "Ljava/util/Comparator;"), (181, u "valueOf"), (0, u "(C)Ljava/lang/String;"), (226, u "([C)V"), (4, .methodref 107 1016), (0, .nameAndType 1017 369), (0, u "canEncode"), (0, .methodref 107 1019), (0, .nameAndType 53 1020), (0, u "(C)[B"), (80, u "serialPersistentFields"), (0, u "[Ljava/io/ObjectStreamField;"), (0, .class_ 1104), (0, u "java/lang/String$CaseInsensitiveComparator"), (1, .class_ 1107), (0, u "java/io/Serializable"), (0, .class_ 1109), (0, u "java/lang/Comparable"), (0, .class_ 1111), (0, u "java/lang/constant/Constable"), (0, .class_ 1113), (0, u "java/lang/constant/ConstantDesc"), (2, u "serialVersionUID"), (0, u "J"), (3, u "REPL"), (0, u "C"), (2, u "LATIN1"), (1, u "UTF16")] 323

def k7m0 : Method := { name := "<init>", desc := "()V", sig := { parameters := [], returnType := none }, accessFlags := 1, code := none }
def k7c1 : Code := { maxStack := 5, maxLocals := 2, code := jdk_42_method_3_code, exceptionTable := #[], attributes := #[] }
def k7m1 : Method := { name := "<init>", desc := "([C)V", sig := { parameters := [(.array .char)], returnType := none }, accessFlags := 1, code := some k7c1 }
def k7c2 : Code := { maxStack := 2, maxLocals := 3, code := jdk_42_method_66_code, exceptionTable := #[], attributes := #[] }
def k7m2 : Method := { name := "equals", desc := "(Ljava/lang/Object;)Z", sig := { parameters := [(.object "java/lang/Object")], returnType := some .boolean }, accessFlags := 1, code := some k7c2 }
def k7c3 : Code := { maxStack := 4, maxLocals := 1, code := jdk_42_method_139_code, exceptionTable := #[], attributes := #[] }
def k7m3 : Method := { name := "valueOf", desc := "(C)Ljava/lang/String;", sig := { parameters := [.char], returnType := some (.object "java/lang/String") }, accessFlags := 9, code := some k7c3 }
def k7c4 : Code := { maxStack := 4, maxLocals := 6, code := jdk_42_method_149_code, exceptionTable := #[], attributes := #[] }
def k7m4 : Method := { name := "<init>", desc := "([CIILjava/lang/Void;)V", sig := { parameters := [(.array .char), .int, .int, (.object "java/lang/Void")], returnType := none }, accessFlags := 2, code := some k7c4 }
def k7c5 : Code := { maxStack := 2, maxLocals := 3, code := jdk_42_method_151_code, exceptionTable := #[], attributes := #[] }
def k7m5 : Method := { name := "<init>", desc := "([BB)V", sig := { parameters := [(.array .byte), .byte], returnType := none }, accessFlags := 0, code := some k7c5 }
/-- java/lang/String -/
def k7 : Class := { plain "java/lang/String" (some 0) with
  accessFlags := 49
  interfaces := #[2, 3, 4, 5, 6]
  cf := some (fileOf pool7 10 #[.nestMembers #[1103]] #[{ accessFlags := 1, nameIndex := 5, descriptorIndex := 6, attributes := #[] }, { accessFlags := 1, nameIndex := 5, descriptorIndex := 1010, attributes := #[] }, { accessFlags := 1, nameIndex := 543, descriptorIndex := 573, attributes := #[] }, { accessFlags := 9, nameIndex := 782, descriptorIndex := 783, attributes := #[] }, { accessFlags := 2, nameIndex := 5, descriptorIndex := 29, attributes := #[] }, { accessFlags := 0, nameIndex := 5, descriptorIndex := 211, attributes := #[] }] 49 2 #[1106, 1108, 575, 1110, 1112] #[{ accessFlags := 18, nameIndex := 13, descriptorIndex := 14, attributes := #[] }, { accessFlags := 18, nameIndex := 17, descriptorIndex := 18, attributes := #[] }, { accessFlags := 2, nameIndex := 21, descriptorIndex := 22, attributes := #[] }, { accessFlags := 2, nameIndex := 25, descriptorIndex := 26, attributes := #[] }, { accessFlags := 26, nameIndex := 1116, descriptorIndex := 1117, attributes := #[] }, { accessFlags := 24, nameIndex := 40, descriptorIndex := 26, attributes := #[] }, { accessFlags := 26, nameIndex := 1101, descriptorIndex := 1102, attributes := #[] }, { accessFlags := 26, nameIndex := 1121, descriptorIndex := 1122, attributes := #[] }, { accessFlags := 25, nameIndex := 599, descriptorIndex := 600, attributes := #[] }, { accessFlags := 24, nameIndex := 1125, descriptorIndex := 18, attributes := #[] }, { accessFlags := 24, nameIndex := 1127, descriptorIndex := 18, attributes := #[] }])
  fields := #[{ name := "value", type := (.array .byte), accessFlags := 18, slot := 0, constantValue := 0 }, { name := "coder", type := .byte, accessFlags := 18, slot := 1, constantValue := 0 }, { name := "hash", type := .int, accessFlags := 2, slot := 2, constantValue := 0 }, { name := "hashIsZero", type := .boolean, accessFlags := 2, slot := 3, constantValue := 0 }, { name := "serialVersionUID", type := .long, accessFlags := 26, slot := 0, constantValue := 0 }, { name := "COMPACT_STRINGS", type := .boolean, accessFlags := 24, slot := 1, constantValue := 0 }, { name := "serialPersistentFields", type := (.array (.object "java/io/ObjectStreamField")), accessFlags := 26, slot := 2, constantValue := 0 }, { name := "REPL", type := .char, accessFlags := 26, slot := 3, constantValue := 0 }, { name := "CASE_INSENSITIVE_ORDER", type := (.object "java/util/Comparator"), accessFlags := 25, slot := 4, constantValue := 0 }, { name := "LATIN1", type := .byte, accessFlags := 24, slot := 5, constantValue := 0 }, { name := "UTF16", type := .byte, accessFlags := 24, slot := 6, constantValue := 0 }]
  methods := #[k7m0, k7m1, k7m2, k7m3, k7m4, k7m5]
  instanceTypes := #[(.array .byte), .byte, .int, .boolean]
  staticTypes := #[.long, .boolean, (.array (.object "java/io/ObjectStreamField")), .char, (.object "java/util/Comparator"), .byte, .byte]
  resolved := Array.replicate 1451 none
  statics := some 0 }

def pool8 : Array CpInfo := pool [(6, .class_ 8), (1, u "java/lang/Object"), (0, u "<init>"), (0, u "()V"), (1, .class_ 14), (1, u "java/lang/StringUTF16"), (31, u "$assertionsDisabled"), (0, u "Z"), (13, u "HI_BYTE_SHIFT"), (0, u "I"), (2, u "LO_BYTE_SHIFT"), (49, .methodref 12 116), (0, .nameAndType 117 118), (0, u "compress"), (0, u "([CI[BII)I"), (3, u "([CII)[B"), (138, u "coderFromArrayLen"), (0, u "([BI)B"), (106, .class_ 371), (1, u "java/lang/StringUTF16$LinesSpliterator"), (58, u "MAX_LENGTH"), (196, .class_ 628), (0, u "java/lang/StringUTF16$CodePointsSpliterator"), (0, .class_ 630), (0, u "java/lang/StringUTF16$CharsSpliterator")] 4

def k8m0 : Method := { name := "<init>", desc := "()V", sig := { parameters := [], returnType := none }, accessFlags := 0, code := none }
def k8c1 : Code := { maxStack := 2, maxLocals := 2, code := jdk_52_method_15_code, exceptionTable := #[], attributes := #[] }
def k8m1 : Method := { name := "coderFromArrayLen", desc := "([BI)B", sig := { parameters := [(.array .byte), .int], returnType := some .byte }, accessFlags := 8, code := some k8c1 }
def k8c2 : Code := { maxStack := 5, maxLocals := 6, code := jdk_52_method_16_code, exceptionTable := #[], attributes := #[] }
def k8m2 : Method := { name := "compress", desc := "([CII)[B", sig := { parameters := [(.array .char), .int, .int], returnType := some (.array .byte) }, accessFlags := 9, code := some k8c2 }
def k8c3 : Code := { maxStack := 3, maxLocals := 7, code := jdk_52_method_21_code, exceptionTable := #[], attributes := #[] }
def k8m3 : Method := { name := "compress", desc := "([CI[BII)I", sig := { parameters := [(.array .char), .int, (.array .byte), .int, .int], returnType := some .int }, accessFlags := 9, code := some k8c3 }
/-- java/lang/StringUTF16 -/
def k8 : Class := { plain "java/lang/StringUTF16" (some 0) with
  accessFlags := 48
  interfaces := #[]
  cf := some (fileOf pool8 12 #[.nestMembers #[627, 629, 369]] #[{ accessFlags := 0, nameIndex := 9, descriptorIndex := 10, attributes := #[] }, { accessFlags := 8, nameIndex := 261, descriptorIndex := 262, attributes := #[] }, { accessFlags := 9, nameIndex := 117, descriptorIndex := 122, attributes := #[] }, { accessFlags := 9, nameIndex := 117, descriptorIndex := 118, attributes := #[] }] 48 6 #[] #[{ accessFlags := 26, nameIndex := 61, descriptorIndex := 62, attributes := #[] }, { accessFlags := 26, nameIndex := 65, descriptorIndex := 62, attributes := #[] }, { accessFlags := 24, nameIndex := 430, descriptorIndex := 62, attributes := #[] }, { accessFlags := 4120, nameIndex := 46, descriptorIndex := 47, attributes := #[] }])
  fields := #[{ name := "HI_BYTE_SHIFT", type := .int, accessFlags := 26, slot := 0, constantValue := 0 }, { name := "LO_BYTE_SHIFT", type := .int, accessFlags := 26, slot := 1, constantValue := 0 }, { name := "MAX_LENGTH", type := .int, accessFlags := 24, slot := 2, constantValue := 0 }, { name := "$assertionsDisabled", type := .boolean, accessFlags := 4120, slot := 3, constantValue := 0 }]
  methods := #[k8m0, k8m1, k8m2, k8m3]
  instanceTypes := #[]
  staticTypes := #[.int, .int, .int, .boolean]
  resolved := Array.replicate 635 none
  statics := none }

def pool9 : Array CpInfo := pool [(4, .class_ 6), (1, u "java/lang/Object"), (0, u "<init>"), (0, u "()V"), (5, .class_ 16), (1, u "java/lang/StringLatin1"), (73, u "canEncode"), (14, u "(C)Z"), (15, u "$assertionsDisabled"), (0, u "Z"), (98, .class_ 223), (1, u "java/lang/StringLatin1$LinesSpliterator"), (57, u "equals"), (0, u "([B[B)Z"), (97, u "toBytes"), (1, u "(C)[B"), (7, .class_ 391), (0, u "java/lang/StringLatin1$CharsSpliterator")] 3

def k9m0 : Method := { name := "<init>", desc := "()V", sig := { parameters := [], returnType := none }, accessFlags := 0, code := none }
def k9c1 : Code := { maxStack := 2, maxLocals := 1, code := jdk_43_method_3_code, exceptionTable := #[], attributes := #[] }
def k9m1 : Method := { name := "canEncode", desc := "(C)Z", sig := { parameters := [.char], returnType := some .boolean }, accessFlags := 9, code := some k9c1 }
def k9c2 : Code := { maxStack := 3, maxLocals := 3, code := jdk_43_method_13_code, exceptionTable := #[], attributes := #[] }
def k9m2 : Method := { name := "equals", desc := "([B[B)Z", sig := { parameters := [(.array .byte), (.array .byte)], returnType := some .boolean }, accessFlags := 9, code := some k9c2 }
def k9c3 : Code := { maxStack := 4, maxLocals := 1, code := jdk_43_method_46_code, exceptionTable := #[], attributes := #[] }
def k9m3 : Method := { name := "toBytes", desc := "(C)[B", sig := { parameters := [.char], returnType := some (.array .byte) }, accessFlags := 9, code := some k9c3 }
/-- java/lang/StringLatin1 -/
def k9 : Class := { plain "java/lang/StringLatin1" (some 0) with
  accessFlags := 48
  interfaces := #[]
  cf := some (fileOf pool9 14 #[.nestMembers #[390, 221]] #[{ accessFlags := 0, nameIndex := 7, descriptorIndex := 8, attributes := #[] }, { accessFlags := 9, nameIndex := 90, descriptorIndex := 105, attributes := #[] }, { accessFlags := 9, nameIndex := 281, descriptorIndex := 282, attributes := #[] }, { accessFlags := 9, nameIndex := 380, descriptorIndex := 382, attributes := #[] }] 48 4 #[] #[{ accessFlags := 4120, nameIndex := 121, descriptorIndex := 122, attributes := #[] }])
  fields := #[{ name := "$assertionsDisabled", type := .boolean, accessFlags := 4120, slot := 0, constantValue := 0 }]
  methods := #[k9m0, k9m1, k9m2, k9m3]
  instanceTypes := #[]
  staticTypes := #[.boolean]
  resolved := Array.replicate 395 none
  statics := none }

def pool10 : Array CpInfo := pool [(1, .methodref 2 3), (0, .class_ 4), (0, .nameAndType 5 6), (0, u "java/lang/Object"), (0, u "<init>"), (0, u "()V"), (0, .class_ 8), (0, u "java/lang/Record")] 13

def k10c0 : Code := { maxStack := 1, maxLocals := 1, code := jdk_30_method_1_code, exceptionTable := #[], attributes := #[] }
def k10m0 : Method := { name := "<init>", desc := "()V", sig := { parameters := [], returnType := none }, accessFlags := 4, code := some k10c0 }
/-- java/lang/Record -/
def k10 : Class := { plain "java/lang/Record" (some 0) with
  accessFlags := 1057
  interfaces := #[]
  cf := some (fileOf pool10 7 #[] #[{ accessFlags := 4, nameIndex := 5, descriptorIndex := 6, attributes := #[] }] 1057 2 #[] #[])
  fields := #[]
  methods := #[k10m0]
  instanceTypes := #[]
  staticTypes := #[]
  resolved := Array.replicate 22 none
  statics := none }

def pool11 : Array CpInfo := pool [(1, .methodref 2 3), (0, .class_ 4), (0, .nameAndType 5 6), (0, u "java/lang/Record"), (0, u "<init>"), (0, u "()V"), (0, .string 8), (0, u "type"), (0, .methodref 10 11), (0, .class_ 12), (0, .nameAndType 13 14), (0, u "java/util/Objects"), (0, u "requireNonNull"), (0, u "(Ljava/lang/Object;Ljava/lang/String;)Ljava/lang/Object;"), (0, .string 16), (0, u "domain"), (0, .string 18), (0, u "subdomain"), (0, .string 20), (0, u "eventOrAction"), (0, .fieldref 22 23), (0, .class_ 24), (0, .nameAndType 8 25), (0, u "com/example/meterline/meterline/core/EndDeviceEventType"), (0, u "Ljava/lang/String;"), (0, .fieldref 22 27), (0, .nameAndType 16 25), (0, .fieldref 22 29), (0, .nameAndType 18 25), (0, .fieldref 22 31), (0, .nameAndType 20 25), (0, .string 33), (0, u "*"), (0, .methodref 35 36), (0, .class_ 37), (0, .nameAndType 38 39), (0, u "java/lang/String"), (0, u "equals"), (0, u "(Ljava/lang/Object;)Z"), (11, u "ANY"), (1, u "(Ljava/lang/String;Ljava/lang/String;Ljava/lang/String;Ljava/lang/String;)V"), (4, u "()Z"), (1, u "isSpecific")] 34

def k11c0 : Code := { maxStack := 2, maxLocals := 5, code := prog_28_method_1_code, exceptionTable := #[], attributes := #[] }
def k11m0 : Method := { name := "<init>", desc := "(Ljava/lang/String;Ljava/lang/String;Ljava/lang/String;Ljava/lang/String;)V", sig := { parameters := [(.object "java/lang/String"), (.object "java/lang/String"), (.object "java/lang/String"), (.object "java/lang/String")], returnType := none }, accessFlags := 1, code := some k11c0 }
def k11c1 : Code := { maxStack := 2, maxLocals := 1, code := prog_28_method_3_code, exceptionTable := #[], attributes := #[] }
def k11m1 : Method := { name := "isSpecific", desc := "()Z", sig := { parameters := [], returnType := some .boolean }, accessFlags := 1, code := some k11c1 }
/-- com/example/meterline/meterline/core/EndDeviceEventType -/
def k11 : Class := { plain "com/example/meterline/meterline/core/EndDeviceEventType" (some 10) with
  accessFlags := 49
  interfaces := #[]
  cf := some (fileOf pool11 22 #[] #[{ accessFlags := 1, nameIndex := 5, descriptorIndex := 53, attributes := #[] }, { accessFlags := 1, nameIndex := 60, descriptorIndex := 58, attributes := #[] }] 49 2 #[] #[{ accessFlags := 18, nameIndex := 8, descriptorIndex := 25, attributes := #[] }, { accessFlags := 18, nameIndex := 16, descriptorIndex := 25, attributes := #[] }, { accessFlags := 18, nameIndex := 18, descriptorIndex := 25, attributes := #[] }, { accessFlags := 18, nameIndex := 20, descriptorIndex := 25, attributes := #[] }, { accessFlags := 25, nameIndex := 51, descriptorIndex := 25, attributes := #[] }])
  fields := #[{ name := "type", type := (.object "java/lang/String"), accessFlags := 18, slot := 0, constantValue := 0 }, { name := "domain", type := (.object "java/lang/String"), accessFlags := 18, slot := 1, constantValue := 0 }, { name := "subdomain", type := (.object "java/lang/String"), accessFlags := 18, slot := 2, constantValue := 0 }, { name := "eventOrAction", type := (.object "java/lang/String"), accessFlags := 18, slot := 3, constantValue := 0 }, { name := "ANY", type := (.object "java/lang/String"), accessFlags := 25, slot := 0, constantValue := 0 }]
  methods := #[k11m0, k11m1]
  instanceTypes := #[(.object "java/lang/String"), (.object "java/lang/String"), (.object "java/lang/String"), (.object "java/lang/String")]
  staticTypes := #[(.object "java/lang/String")]
  resolved := Array.replicate 95 none
  statics := none }

def pool12 : Array CpInfo := pool [(2, .class_ 4), (1, u "java/lang/Object"), (0, u "<init>"), (0, u "()V"), (35, .class_ 44), (1, u "java/util/Objects"), (0, u "requireNonNull"), (48, u "(Ljava/lang/Object;Ljava/lang/String;)Ljava/lang/Object;")] 89

def k12m0 : Method := { name := "<init>", desc := "()V", sig := { parameters := [], returnType := none }, accessFlags := 2, code := none }
def k12c1 : Code := { maxStack := 3, maxLocals := 2, code := jdk_31_method_11_code, exceptionTable := #[], attributes := #[] }
def k12m1 : Method := { name := "requireNonNull", desc := "(Ljava/lang/Object;Ljava/lang/String;)Ljava/lang/Object;", sig := { parameters := [(.object "java/lang/Object"), (.object "java/lang/String")], returnType := some (.object "java/lang/Object") }, accessFlags := 9, code := some k12c1 }
/-- java/util/Objects -/
def k12 : Class := { plain "java/util/Objects" (some 0) with
  accessFlags := 49
  interfaces := #[]
  cf := some (fileOf pool12 42 #[] #[{ accessFlags := 2, nameIndex := 5, descriptorIndex := 6, attributes := #[] }, { accessFlags := 9, nameIndex := 45, descriptorIndex := 94, attributes := #[] }] 49 2 #[] #[])
  fields := #[]
  methods := #[k12m0, k12m1]
  instanceTypes := #[]
  staticTypes := #[]
  resolved := Array.replicate 184 none
  statics := none }

def pool13 : Array CpInfo := pool [(2, .class_ 4), (1, u "java/lang/Object"), (0, u "<init>"), (0, u "()V"), (17, .class_ 26), (1, u "jdk/internal/util/Preconditions"), (28, .class_ 56), (0, u "jdk/internal/util/Preconditions$4"), (57, .class_ 115), (0, u "jdk/internal/util/Preconditions$1"), (7, u "SIOOBE_FORMATTER"), (0, u "Ljava/util/function/BiFunction;"), (0, .class_ 126), (0, u "jdk/internal/util/Preconditions$2"), (3, u "AIOOBE_FORMATTER"), (0, .class_ 132), (0, u "jdk/internal/util/Preconditions$3"), (3, u "IOOBE_FORMATTER")] 57

def k13m0 : Method := { name := "<init>", desc := "()V", sig := { parameters := [], returnType := none }, accessFlags := 1, code := none }
/-- jdk/internal/util/Preconditions -/
def k13 : Class := { plain "jdk/internal/util/Preconditions" (some 0) with
  accessFlags := 33
  interfaces := #[]
  cf := some (fileOf pool13 24 #[.nestMembers #[55, 131, 125, 114]] #[{ accessFlags := 1, nameIndex := 5, descriptorIndex := 6, attributes := #[] }] 33 2 #[] #[{ accessFlags := 25, nameIndex := 123, descriptorIndex := 124, attributes := #[] }, { accessFlags := 25, nameIndex := 130, descriptorIndex := 124, attributes := #[] }, { accessFlags := 25, nameIndex := 136, descriptorIndex := 124, attributes := #[] }])
  fields := #[{ name := "SIOOBE_FORMATTER", type := (.object "java/util/function/BiFunction"), accessFlags := 25, slot := 0, constantValue := 0 }, { name := "AIOOBE_FORMATTER", type := (.object "java/util/function/BiFunction"), accessFlags := 25, slot := 1, constantValue := 0 }, { name := "IOOBE_FORMATTER", type := (.object "java/util/function/BiFunction"), accessFlags := 25, slot := 2, constantValue := 0 }]
  methods := #[k13m0]
  instanceTypes := #[]
  staticTypes := #[(.object "java/util/function/BiFunction"), (.object "java/util/function/BiFunction"), (.object "java/util/function/BiFunction")]
  resolved := Array.replicate 194 none
  statics := some 1 }

def pool14 : Array CpInfo := pool [(9, u "<init>"), (6, .class_ 18), (1, u "java/lang/Object"), (0, u "()V"), (1, .class_ 23), (1, u "jdk/internal/util/ArraysSupport"), (0, u "LOG2_ARRAY_LONG_INDEX_SCALE"), (0, u "I"), (2, u "U"), (0, u "Ljdk/internal/misc/Unsafe;"), (8, u "BIG_ENDIAN"), (0, u "Z"), (8, u "LOG2_BYTE_BIT_SIZE"), (4, u "LOG2_ARRAY_INT_INDEX_SCALE"), (54, u "JLA"), (0, u "Ljdk/internal/access/JavaLangAccess;"), (11, u "LOG2_ARRAY_BOOLEAN_INDEX_SCALE"), (9, u "LOG2_ARRAY_BYTE_INDEX_SCALE"), (5, u "LOG2_ARRAY_CHAR_INDEX_SCALE"), (5, u "LOG2_ARRAY_SHORT_INDEX_SCALE"), (18, u "LOG2_ARRAY_FLOAT_INDEX_SCALE"), (24, u "LOG2_ARRAY_DOUBLE_INDEX_SCALE"), (89, u "T_BOOLEAN"), (2, u "T_CHAR"), (1, u "T_FLOAT"), (1, u "T_DOUBLE"), (1, u "T_BYTE"), (1, u "T_SHORT"), (1, u "T_INT"), (1, u "T_LONG"), (1, u "SOFT_MAX_ARRAY_LENGTH")] 83

def k14m0 : Method := { name := "<init>", desc := "()V", sig := { parameters := [], returnType := none }, accessFlags := 2, code := none }
/-- jdk/internal/util/ArraysSupport -/
def k14 : Class := { plain "jdk/internal/util/ArraysSupport" (some 0) with
  accessFlags := 33
  interfaces := #[]
  cf := some (fileOf pool14 21 #[] #[{ accessFlags := 2, nameIndex := 9, descriptorIndex := 19, attributes := #[] }] 33 16 #[] #[{ accessFlags := 24, nameIndex := 28, descriptorIndex := 29, attributes := #[] }, { accessFlags := 26, nameIndex := 38, descriptorIndex := 39, attributes := #[] }, { accessFlags := 25, nameIndex := 121, descriptorIndex := 25, attributes := #[] }, { accessFlags := 25, nameIndex := 131, descriptorIndex := 25, attributes := #[] }, { accessFlags := 25, nameIndex := 137, descriptorIndex := 25, attributes := #[] }, { accessFlags := 25, nameIndex := 143, descriptorIndex := 25, attributes := #[] }, { accessFlags := 25, nameIndex := 53, descriptorIndex := 25, attributes := #[] }, { accessFlags := 25, nameIndex := 24, descriptorIndex := 25, attributes := #[] }, { accessFlags := 25, nameIndex := 162, descriptorIndex := 25, attributes := #[] }, { accessFlags := 25, nameIndex := 187, descriptorIndex := 25, attributes := #[] }, { accessFlags := 26, nameIndex := 48, descriptorIndex := 25, attributes := #[] }, { accessFlags := 25, nameIndex := 277, descriptorIndex := 25, attributes := #[] }, { accessFlags := 25, nameIndex := 280, descriptorIndex := 25, attributes := #[] }, { accessFlags := 25, nameIndex := 282, descriptorIndex := 25, attributes := #[] }, { accessFlags := 25, nameIndex := 284, descriptorIndex := 25, attributes := #[] }, { accessFlags := 25, nameIndex := 286, descriptorIndex := 25, attributes := #[] }, { accessFlags := 25, nameIndex := 288, descriptorIndex := 25, attributes := #[] }, { accessFlags := 25, nameIndex := 290, descriptorIndex := 25, attributes := #[] }, { accessFlags := 25, nameIndex := 292, descriptorIndex := 25, attributes := #[] }, { accessFlags := 26, nameIndex := 108, descriptorIndex := 109, attributes := #[] }, { accessFlags := 25, nameIndex := 294, descriptorIndex := 25, attributes := #[] }])
  fields := #[{ name := "U", type := (.object "jdk/internal/misc/Unsafe"), accessFlags := 24, slot := 0, constantValue := 0 }, { name := "BIG_ENDIAN", type := .boolean, accessFlags := 26, slot := 1, constantValue := 0 }, { name := "LOG2_ARRAY_BOOLEAN_INDEX_SCALE", type := .int, accessFlags := 25, slot := 2, constantValue := 0 }, { name := "LOG2_ARRAY_BYTE_INDEX_SCALE", type := .int, accessFlags := 25, slot := 3, constantValue := 0 }, { name := "LOG2_ARRAY_CHAR_INDEX_SCALE", type := .int, accessFlags := 25, slot := 4, constantValue := 0 }, { name := "LOG2_ARRAY_SHORT_INDEX_SCALE", type := .int, accessFlags := 25, slot := 5, constantValue := 0 }, { name := "LOG2_ARRAY_INT_INDEX_SCALE", type := .int, accessFlags := 25, slot := 6, constantValue := 0 }, { name := "LOG2_ARRAY_LONG_INDEX_SCALE", type := .int, accessFlags := 25, slot := 7, constantValue := 0 }, { name := "LOG2_ARRAY_FLOAT_INDEX_SCALE", type := .int, accessFlags := 25, slot := 8, constantValue := 0 }, { name := "LOG2_ARRAY_DOUBLE_INDEX_SCALE", type := .int, accessFlags := 25, slot := 9, constantValue := 0 }, { name := "LOG2_BYTE_BIT_SIZE", type := .int, accessFlags := 26, slot := 10, constantValue := 0 }, { name := "T_BOOLEAN", type := .int, accessFlags := 25, slot := 11, constantValue := 0 }, { name := "T_CHAR", type := .int, accessFlags := 25, slot := 12, constantValue := 0 }, { name := "T_FLOAT", type := .int, accessFlags := 25, slot := 13, constantValue := 0 }, { name := "T_DOUBLE", type := .int, accessFlags := 25, slot := 14, constantValue := 0 }, { name := "T_BYTE", type := .int, accessFlags := 25, slot := 15, constantValue := 0 }, { name := "T_SHORT", type := .int, accessFlags := 25, slot := 16, constantValue := 0 }, { name := "T_INT", type := .int, accessFlags := 25, slot := 17, constantValue := 0 }, { name := "T_LONG", type := .int, accessFlags := 25, slot := 18, constantValue := 0 }, { name := "JLA", type := (.object "jdk/internal/access/JavaLangAccess"), accessFlags := 26, slot := 19, constantValue := 0 }, { name := "SOFT_MAX_ARRAY_LENGTH", type := .int, accessFlags := 25, slot := 20, constantValue := 0 }]
  methods := #[k14m0]
  instanceTypes := #[]
  staticTypes := #[(.object "jdk/internal/misc/Unsafe"), .boolean, .int, .int, .int, .int, .int, .int, .int, .int, .int, .int, .int, .int, .int, .int, .int, .int, .int, (.object "jdk/internal/access/JavaLangAccess"), .int]
  resolved := Array.replicate 378 none
  statics := none }

def pool15 : Array CpInfo := pool [(1, u "java/lang/Cloneable"), (0, .class_ 1), (0, u "java/lang/Object"), (0, .class_ 3)] 3

/-- java/lang/Cloneable -/
def k15 : Class := { plain "java/lang/Cloneable" (some 0) with
  accessFlags := 1537
  interfaces := #[]
  cf := some (fileOf pool15 2 #[] #[] 1537 4 #[] #[])
  fields := #[]
  methods := #[]
  instanceTypes := #[]
  staticTypes := #[]
  resolved := Array.replicate 8 none
  statics := none }

/-- the primitive byte -/
def k16 : Class := { plain "byte" none with kind := .primitive 'B', accessFlags := 0x411 }
/-- [B -/
def k17 : Class := { plain "[B" (some 0) with kind := .array 16 .byte, interfaces := #[15, 2], accessFlags := 1041 }

/-- the primitive char -/
def k18 : Class := { plain "char" none with kind := .primitive 'C', accessFlags := 0x411 }
/-- [C -/
def k19 : Class := { plain "[C" (some 0) with kind := .array 18 .char, interfaces := #[15, 2], accessFlags := 1041 }

/-- the primitive int -/
def k20 : Class := { plain "int" none with kind := .primitive 'I', accessFlags := 0x411 }
/-- [I -/
def k21 : Class := { plain "[I" (some 0) with kind := .array 20 .int, interfaces := #[15, 2], accessFlags := 1041 }

def heap : Heap := #[{ cls := 7, slots := #[.long 0, .int 1, .null, .int 0, .null, .int 0, .int 0], vm := .statics 7 },
  { cls := 13, slots := #[.null, .null, .null], vm := .statics 13 }]
def classes : Array Class := #[k0, k1, k2, k3, k4, k5, k6, k7, k8, k9, k10, k11, k12, k13, k14, k15, k16, k17, k18, k19, k20, k21]
def interned : List (Array UInt16 × Addr) := []
def slotsUsed : Nat := 10
def theMethod : MethodId := ⟨1, 3⟩
def args0 : Array Value := #[.int 1, .int 2, .int 3, .int 0]
def aboutOver (below : List Frame) : State where
  vm := { classes := classes, interned := interned.toArray }
  heap := heap
  slotsUsed := slotsUsed
  threads := #[{ frames := .invoking theMethod args0 :: below }]
def below0 : List Frame := [.native { method := ⟨0, 0⟩, args := #[] }]
def about1 : State := aboutOver below0
def p0 : Program := .bare "" "" ""
def e0 : Env := launch0.env 0 0 0
theorem w_frames : about1.frames = Frame.invoking theMethod args0 :: below0 := rfl
set_option maxRecDepth 65536 in
theorem w_args : argsFit about1.vm theMethod args0 = true := by decide +kernel
set_option maxRecDepth 65536 in
theorem w_heap : heapFits about1 = true := by decide +kernel
set_option maxRecDepth 65536 in
theorem w_runnable : about1.curStatus? = some .runnable := by decide +kernel
set_option maxRecDepth 65536 in
theorem w_alone : about1.alone = true := by decide +kernel
set_option maxRecDepth 65536 in
theorem w_named : about1.methodNamed? x = some theMethod := by decide +kernel
set_option maxRecDepth 65536 in
theorem w_hears : about1.hears theMethod below0 = true := by decide +kernel
set_option maxRecDepth 65536 in
theorem w_ripe : about1.ripe theMethod args0 below0 = true := by decide +kernel
theorem w_running : about1.status = .running := rfl
set_option maxRecDepth 65536 in
theorem w_room : about1.hasRoom e0.platform room_1 = true :=
  launch0.hasRoom_least _ room_1 (by decide +kernel) (by decide +kernel) (by decide +kernel) (by decide +kernel) (by decide +kernel) (by decide +kernel)
theorem allAtoms_all (ts : List Jvm.Cond) (a : Array Jvm.Value) (st : Jvm.State) : (allAtoms ts).before a st = ts.all (fun c => c.before a st) := by
  induction ts with
  | nil => rfl
  | cons c t ih =>
    show (Jvm.Cond.and c (allAtoms t)).before a st = _
    rw [Jvm.Cond.before_and, ih, List.all_cons]
def words1 : List Jvm.Cond := Jvm.Cond.code x code maxLocals ret :: tables_1
/-- a 'code' word, met by the world's own term for the bytes: nothing is compared byte by byte -/
theorem code_word {y : MethodName} {bytes : ByteArray} {mx : Nat} {rt : Option FieldType} {a : Array Value} {s : State} {m : MethodId} {meth : Method} {c : Code} (h1 : s.methodNamed? y = some m) (h2 : s.vm.method? m = some meth) (h3 : meth.code = some c) (h4 : c.code = bytes)
    (h5 : (c.maxLocals == mx && c.exceptionTable.isEmpty && decide (c.maxStack ≤ mostOperands) && decide (meth.sig.returnType = rt) && !meth.locks && decide (parseMethodDescriptor y.desc = some meth.sig)) = true) : (Jvm.Cond.code y bytes mx rt).before a s = true := by
  simp only [Bool.and_eq_true, beq_iff_eq, Bool.not_eq_true', decide_eq_true_eq] at h5
  obtain ⟨⟨⟨⟨⟨g1, g2⟩, g3⟩, g4⟩, g5⟩, g6⟩ := h5
  simp [Cond.before, Cond.holds, Cond.value, h1, h2, h3, h4, g1, g2, g3, g4, g5, g6]
def isCode : Jvm.Cond → Bool
  | .code _ _ _ _ => true
  | _ => false
theorem all_split {L : List Jvm.Cond} {P : Jvm.Cond → Bool} (h1 : L.all (fun c => isCode c || P c) = true) (h2 : ∀ c ∈ L.filter isCode, P c = true) : L.all P = true := by
  refine List.all_eq_true.mpr fun c hc => ?_
  have h := List.all_eq_true.mp h1 c hc
  rcases Bool.eq_false_or_eq_true (isCode c) with hi | hi
  · exact h2 c (List.mem_filter.mpr ⟨hc, hi⟩)
  · simpa [hi] using h
set_option maxRecDepth 65536 in
theorem w_c0 : (Jvm.Cond.code x code maxLocals ret).before args0 about1 = true := code_word (m := ⟨1, 3⟩) (meth := k1m3) (c := k1c3) (by decide +kernel) rfl rfl rfl (by decide +kernel)
set_option maxRecDepth 65536 in
theorem w_c1 : (Jvm.Cond.code ({ cls := "com/example/meterline/meterline/core/EndDeviceEventTypeIsSpecificPinLaw", name := "part", desc := "(I)Ljava/lang/String;" } : Jvm.MethodName) method_2_code (5 : Nat) (Option.some (Jvm.ClassFile.FieldType.object "java/lang/String"))).before args0 about1 = true := code_word (m := ⟨1, 1⟩) (meth := k1m1) (c := k1c1) (by decide +kernel) rfl rfl rfl (by decide +kernel)
set_option maxRecDepth 65536 in
theorem w_c2 : (Jvm.Cond.code ({ cls := "java/lang/String", name := "<init>", desc := "([C)V" } : Jvm.MethodName) jdk_42_method_3_code (2 : Nat) (Option.none : Option Jvm.ClassFile.FieldType)).before args0 about1 = true := code_word (m := ⟨7, 1⟩) (meth := k7m1) (c := k7c1) (by decide +kernel) rfl rfl rfl (by decide +kernel)
set_option maxRecDepth 65536 in
theorem w_c3 : (Jvm.Cond.code ({ cls := "java/lang/String", name := "<init>", desc := "([CIILjava/lang/Void;)V" } : Jvm.MethodName) jdk_42_method_149_code (6 : Nat) (Option.none : Option Jvm.ClassFile.FieldType)).before args0 about1 = true := code_word (m := ⟨7, 4⟩) (meth := k7m4) (c := k7c4) (by decide +kernel) rfl rfl rfl (by decide +kernel)
set_option maxRecDepth 65536 in
theorem w_c4 : (Jvm.Cond.code ({ cls := "java/lang/Object", name := "<init>", desc := "()V" } : Jvm.MethodName) object_method_1_code (1 : Nat) (Option.none : Option Jvm.ClassFile.FieldType)).before args0 about1 = true := code_word (m := ⟨0, 0⟩) (meth := k0m0) (c := k0c0) (by decide +kernel) rfl rfl rfl (by decide +kernel)
set_option maxRecDepth 65536 in
theorem w_c5 : (Jvm.Cond.code ({ cls := "java/lang/StringUTF16", name := "compress", desc := "([CII)[B" } : Jvm.MethodName) jdk_52_method_16_code (6 : Nat) (Option.some (Jvm.ClassFile.FieldType.array Jvm.ClassFile.FieldType.byte))).before args0 about1 = true := code_word (m := ⟨8, 2⟩) (meth := k8m2) (c := k8c2) (by decide +kernel) rfl rfl rfl (by decide +kernel)
set_option maxRecDepth 65536 in
theorem w_c6 : (Jvm.Cond.code ({ cls := "java/lang/StringUTF16", name := "compress", desc := "([CI[BII)I" } : Jvm.MethodName) jdk_52_method_21_code (7 : Nat) (Option.some Jvm.ClassFile.FieldType.int)).before args0 about1 = true := code_word (m := ⟨8, 3⟩) (meth := k8m3) (c := k8c3) (by decide +kernel) rfl rfl rfl (by decide +kernel)
set_option maxRecDepth 65536 in
theorem w_c7 : (Jvm.Cond.code ({ cls := "java/lang/StringUTF16", name := "coderFromArrayLen", desc := "([BI)B" } : Jvm.MethodName) jdk_52_method_15_code (2 : Nat) (Option.some Jvm.ClassFile.FieldType.byte)).before args0 about1 = true := code_word (m := ⟨8, 1⟩) (meth := k8m1) (c := k8c1) (by decide +kernel) rfl rfl rfl (by decide +kernel)
set_option maxRecDepth 65536 in
theorem w_c8 : (Jvm.Cond.code ({ cls := "java/lang/String", name := "valueOf", desc := "(C)Ljava/lang/String;" } : Jvm.MethodName) jdk_42_method_139_code (1 : Nat) (Option.some (Jvm.ClassFile.FieldType.object "java/lang/String"))).before args0 about1 = true := code_word (m := ⟨7, 3⟩) (meth := k7m3) (c := k7c3) (by decide +kernel) rfl rfl rfl (by decide +kernel)
set_option maxRecDepth 65536 in
theorem w_c9 : (Jvm.Cond.code ({ cls := "java/lang/StringLatin1", name := "canEncode", desc := "(C)Z" } : Jvm.MethodName) jdk_43_method_3_code (1 : Nat) (Option.some Jvm.ClassFile.FieldType.boolean)).before args0 about1 = true := code_word (m := ⟨9, 1⟩) (meth := k9m1) (c := k9c1) (by decide +kernel) rfl rfl rfl (by decide +kernel)
set_option maxRecDepth 65536 in
theorem w_c10 : (Jvm.Cond.code ({ cls := "java/lang/StringLatin1", name := "toBytes", desc := "(C)[B" } : Jvm.MethodName) jdk_43_method_46_code (1 : Nat) (Option.some (Jvm.ClassFile.FieldType.array Jvm.ClassFile.FieldType.byte))).before args0 about1 = true := code_word (m := ⟨9, 3⟩) (meth := k9m3) (c := k9c3) (by decide +kernel) rfl rfl rfl (by decide +kernel)
set_option maxRecDepth 65536 in
theorem w_c11 : (Jvm.Cond.code ({ cls := "java/lang/String", name := "<init>", desc := "([BB)V" } : Jvm.MethodName) jdk_42_method_151_code (3 : Nat) (Option.none : Option Jvm.ClassFile.FieldType)).before args0 about1 = true := code_word (m := ⟨7, 5⟩) (meth := k7m5) (c := k7c5) (by decide +kernel) rfl rfl rfl (by decide +kernel)
set_option maxRecDepth 65536 in
theorem w_c12 : (Jvm.Cond.code ({ cls := "com/example/meterline/meterline/core/EndDeviceEventType", name := "<init>", desc := "(Ljava/lang/String;Ljava/lang/String;Ljava/lang/String;Ljava/lang/String;)V" } : Jvm.MethodName) prog_28_method_1_code (5 : Nat) (Option.none : Option Jvm.ClassFile.FieldType)).before args0 about1 = true := code_word (m := ⟨11, 0⟩) (meth := k11m0) (c := k11c0) (by decide +kernel) rfl rfl rfl (by decide +kernel)
set_option maxRecDepth 65536 in
theorem w_c13 : (Jvm.Cond.code ({ cls := "java/lang/Record", name := "<init>", desc := "()V" } : Jvm.MethodName) jdk_30_method_1_code (1 : Nat) (Option.none : Option Jvm.ClassFile.FieldType)).before args0 about1 = true := code_word (m := ⟨10, 0⟩) (meth := k10m0) (c := k10c0) (by decide +kernel) rfl rfl rfl (by decide +kernel)
set_option maxRecDepth 65536 in
theorem w_c14 : (Jvm.Cond.code ({ cls := "java/util/Objects", name := "requireNonNull", desc := "(Ljava/lang/Object;Ljava/lang/String;)Ljava/lang/Object;" } : Jvm.MethodName) jdk_31_method_11_code (2 : Nat) (Option.some (Jvm.ClassFile.FieldType.object "java/lang/Object"))).before args0 about1 = true := code_word (m := ⟨12, 1⟩) (meth := k12m1) (c := k12c1) (by decide +kernel) rfl rfl rfl (by decide +kernel)
set_option maxRecDepth 65536 in
theorem w_c15 : (Jvm.Cond.code ({ cls := "com/example/meterline/meterline/core/EndDeviceEventTypeIsSpecificPinLaw", name := "star", desc := "(I)Z" } : Jvm.MethodName) method_3_code (3 : Nat) (Option.some Jvm.ClassFile.FieldType.boolean)).before args0 about1 = true := code_word (m := ⟨1, 2⟩) (meth := k1m2) (c := k1c2) (by decide +kernel) rfl rfl rfl (by decide +kernel)
set_option maxRecDepth 65536 in
theorem w_c16 : (Jvm.Cond.code ({ cls := "com/example/meterline/meterline/core/EndDeviceEventType", name := "isSpecific", desc := "()Z" } : Jvm.MethodName) prog_28_method_3_code (1 : Nat) (Option.some Jvm.ClassFile.FieldType.boolean)).before args0 about1 = true := code_word (m := ⟨11, 1⟩) (meth := k11m1) (c := k11c1) (by decide +kernel) rfl rfl rfl (by decide +kernel)
set_option maxRecDepth 65536 in
theorem w_c17 : (Jvm.Cond.code ({ cls := "java/lang/String", name := "equals", desc := "(Ljava/lang/Object;)Z" } : Jvm.MethodName) jdk_42_method_66_code (3 : Nat) (Option.some Jvm.ClassFile.FieldType.boolean)).before args0 about1 = true := code_word (m := ⟨7, 2⟩) (meth := k7m2) (c := k7c2) (by decide +kernel) rfl rfl rfl (by decide +kernel)
set_option maxRecDepth 65536 in
theorem w_c18 : (Jvm.Cond.code ({ cls := "java/lang/StringLatin1", name := "equals", desc := "([B[B)Z" } : Jvm.MethodName) jdk_43_method_13_code (3 : Nat) (Option.some Jvm.ClassFile.FieldType.boolean)).before args0 about1 = true := code_word (m := ⟨9, 2⟩) (meth := k9m2) (c := k9c2) (by decide +kernel) rfl rfl rfl (by decide +kernel)
def codes1 : List Jvm.Cond := [Jvm.Cond.code x code maxLocals ret, Jvm.Cond.code ({ cls := "com/example/meterline/meterline/core/EndDeviceEventTypeIsSpecificPinLaw", name := "part", desc := "(I)Ljava/lang/String;" } : Jvm.MethodName) method_2_code (5 : Nat) (Option.some (Jvm.ClassFile.FieldType.object "java/lang/String")), Jvm.Cond.code ({ cls := "java/lang/String", name := "<init>", desc := "([C)V" } : Jvm.MethodName) jdk_42_method_3_code (2 : Nat) (Option.none : Option Jvm.ClassFile.FieldType), Jvm.Cond.code ({ cls := "java/lang/String", name := "<init>", desc := "([CIILjava/lang/Void;)V" } : Jvm.MethodName) jdk_42_method_149_code (6 : Nat) (Option.none : Option Jvm.ClassFile.FieldType), Jvm.Cond.code ({ cls := "java/lang/Object", name := "<init>", desc := "()V" } : Jvm.MethodName) object_method_1_code (1 : Nat) (Option.none : Option Jvm.ClassFile.FieldType), Jvm.Cond.code ({ cls := "java/lang/StringUTF16", name := "compress", desc := "([CII)[B" } : Jvm.MethodName) jdk_52_method_16_code (6 : Nat) (Option.some (Jvm.ClassFile.FieldType.array Jvm.ClassFile.FieldType.byte)), Jvm.Cond.code ({ cls := "java/lang/StringUTF16", name := "compress", desc := "([CI[BII)I" } : Jvm.MethodName) jdk_52_method_21_code (7 : Nat) (Option.some Jvm.ClassFile.FieldType.int), Jvm.Cond.code ({ cls := "java/lang/StringUTF16", name := "coderFromArrayLen", desc := "([BI)B" } : Jvm.MethodName) jdk_52_method_15_code (2 : Nat) (Option.some Jvm.ClassFile.FieldType.byte), Jvm.Cond.code ({ cls := "java/lang/String", name := "valueOf", desc := "(C)Ljava/lang/String;" } : Jvm.MethodName) jdk_42_method_139_code (1 : Nat) (Option.some (Jvm.ClassFile.FieldType.object "java/lang/String")), Jvm.Cond.code ({ cls := "java/lang/StringLatin1", name := "canEncode", desc := "(C)Z" } : Jvm.MethodName) jdk_43_method_3_code (1 : Nat) (Option.some Jvm.ClassFile.FieldType.boolean), Jvm.Cond.code ({ cls := "java/lang/StringLatin1", name := "toBytes", desc := "(C)[B" } : Jvm.MethodName) jdk_43_method_46_code (1 : Nat) (Option.some (Jvm.ClassFile.FieldType.array Jvm.ClassFile.FieldType.byte)), Jvm.Cond.code ({ cls := "java/lang/String", name := "<init>", desc := "([BB)V" } : Jvm.MethodName) jdk_42_method_151_code (3 : Nat) (Option.none : Option Jvm.ClassFile.FieldType), Jvm.Cond.code ({ cls := "com/example/meterline/meterline/core/EndDeviceEventType", name := "<init>", desc := "(Ljava/lang/String;Ljava/lang/String;Ljava/lang/String;Ljava/lang/String;)V" } : Jvm.MethodName) prog_28_method_1_code (5 : Nat) (Option.none : Option Jvm.ClassFile.FieldType), Jvm.Cond.code ({ cls := "java/lang/Record", name := "<init>", desc := "()V" } : Jvm.MethodName) jdk_30_method_1_code (1 : Nat) (Option.none : Option Jvm.ClassFile.FieldType), Jvm.Cond.code ({ cls := "java/util/Objects", name := "requireNonNull", desc := "(Ljava/lang/Object;Ljava/lang/String;)Ljava/lang/Object;" } : Jvm.MethodName) jdk_31_method_11_code (2 : Nat) (Option.some (Jvm.ClassFile.FieldType.object "java/lang/Object")), Jvm.Cond.code ({ cls := "com/example/meterline/meterline/core/EndDeviceEventTypeIsSpecificPinLaw", name := "star", desc := "(I)Z" } : Jvm.MethodName) method_3_code (3 : Nat) (Option.some Jvm.ClassFile.FieldType.boolean), Jvm.Cond.code ({ cls := "com/example/meterline/meterline/core/EndDeviceEventType", name := "isSpecific", desc := "()Z" } : Jvm.MethodName) prog_28_method_3_code (1 : Nat) (Option.some Jvm.ClassFile.FieldType.boolean), Jvm.Cond.code ({ cls := "java/lang/String", name := "equals", desc := "(Ljava/lang/Object;)Z" } : Jvm.MethodName) jdk_42_method_66_code (3 : Nat) (Option.some Jvm.ClassFile.FieldType.boolean), Jvm.Cond.code ({ cls := "java/lang/StringLatin1", name := "equals", desc := "([B[B)Z" } : Jvm.MethodName) jdk_43_method_13_code (3 : Nat) (Option.some Jvm.ClassFile.FieldType.boolean)]
set_option maxRecDepth 65536 in
theorem codes_eq : words1.filter isCode = codes1 := rfl
theorem w_codes : ∀ c ∈ words1.filter isCode, c.before args0 about1 = true := by
  rw [codes_eq]
  intro c hc
  simp only [codes1, List.mem_cons, List.not_mem_nil, or_false] at hc
  rcases hc with rfl | rfl | rfl | rfl | rfl | rfl | rfl | rfl | rfl | rfl | rfl | rfl | rfl | rfl | rfl | rfl | rfl | rfl | rfl
  · exact w_c0
  · exact w_c1
  · exact w_c2
  · exact w_c3
  · exact w_c4
  · exact w_c5
  · exact w_c6
  · exact w_c7
  · exact w_c8
  · exact w_c9
  · exact w_c10
  · exact w_c11
  · exact w_c12
  · exact w_c13
  · exact w_c14
  · exact w_c15
  · exact w_c16
  · exact w_c17
  · exact w_c18
set_option maxRecDepth 65536 in
theorem w_t1 : (words1.take 24).all (fun c => isCode c || c.before args0 about1) = true := by decide +kernel
set_option maxRecDepth 65536 in
theorem w_t2 : ((words1.drop 24).take 24).all (fun c => isCode c || c.before args0 about1) = true := by decide +kernel
set_option maxRecDepth 65536 in
theorem w_t3 : (((words1.drop 24).drop 24).take 24).all (fun c => isCode c || c.before args0 about1) = true := by decide +kernel
set_option maxRecDepth 65536 in
theorem w_t4 : ((((words1.drop 24).drop 24).drop 24).take 24).all (fun c => isCode c || c.before args0 about1) = true := by decide +kernel
set_option maxRecDepth 65536 in
theorem w_t5 : ((((words1.drop 24).drop 24).drop 24).drop 24).all (fun c => isCode c || c.before args0 about1) = true := by decide +kernel
theorem w_tables : (allAtoms (Jvm.Cond.code x code maxLocals ret :: tables_1)).before args0 about1 = true := by
  rw [allAtoms_all]
  show words1.all (fun c => c.before args0 about1) = true
  refine all_split ?_ w_codes
  rw [← List.take_append_drop 24 words1, List.all_append, w_t1, ← List.take_append_drop 24 (words1.drop 24), List.all_append, w_t2, ← List.take_append_drop 24 ((words1.drop 24).drop 24), List.all_append, w_t3, ← List.take_append_drop 24 (((words1.drop 24).drop 24).drop 24), List.all_append, w_t4, w_t5]
  rfl
set_option maxRecDepth 65536 in
theorem w_rest : rest_1_c.before args0 about1 = true := by decide +kernel
set_option maxRecDepth 65536 in
theorem w_case : (Jvm.Cond.and given_1 narrow_1).before args0 about1 = true := by decide +kernel
set_option maxRecDepth 65536 in
theorem w_consts : constsHeld consts_1 about1 := Jvm.Lit.constsHeldB_iff.mp (by decide +kernel)
theorem w_applies : (headSpec (Jvm.Cond.code x code maxLocals ret :: tables_1) room_1).applies x e0.platform about1 = true :=
  (Spec.applies_iff w_frames).mpr ⟨w_running, w_runnable, w_alone, w_named, w_hears, w_ripe, w_room, w_tables⟩
theorem atStart : AtStart classFile x code maxLocals ret World_1 tables_1 room_1 Calls_1 rest_1 Pre_1 launch0 p0 e0 about1 theMethod args0 below0 :=
  ⟨lists_1, trivial, launch0.admits_env _ _ _, launch0.least_env, fairChoices_fair.cas, fairChoices_fair.clock, w_frames, w_args, w_heap, w_applies, ⟨w_consts, trivial⟩, w_rest, w_case⟩
end start1
theorem witness_1 : WitnessClaimed_1 := ⟨start1.p0, start1.e0, start1.about1, start1.theMethod, start1.args0, start1.below0, start1.atStart⟩
end Jvm.Pilot.@@N@@
