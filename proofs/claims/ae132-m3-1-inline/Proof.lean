import JvmDerived
import JvmDerived.Pilot.@@N@@Statement
import JvmDerived.Pilot.@@N@@Code
set_option linter.unusedVariables false
set_option linter.unusedSimpArgs false
namespace Jvm.Pilot.@@N@@
open Jvm Jvm.ClassFile Sem Op Lib Jvm.Free Jvm.Stand Jvm.LawKit Jvm.RoadKit Bundle Jvm.Pilot.@@N@@.Jvm.D
/-! my own words: Go (the run comes from T to a state with P), a step, a return -/
def Go (tb : Tables) (e : Env) (below : List Frame) (P : State → Prop) (T : State) : Prop := ∃ u, P u ∧ ∀ t, Steps tb e below u t → Steps tb e below T t
theorem Go.by' {tb : Tables} {e : Env} {below : List Frame} {P : State → Prop} {T T' : State} (h : ∀ t, Steps tb e below T' t → Steps tb e below T t) (k : Go tb e below P T') : Go tb e below P T :=
  k.elim fun u q => ⟨u, q.1, fun t z => h t (q.2 t z)⟩
theorem Go.cast {tb : Tables} {e : Env} {below : List Frame} {P : State → Prop} {T : State} {g g' : JFrame} (q : g = g') (k : Go tb e below P (T.setTop g')) : Go tb e below P (T.setTop g) := q ▸ k
theorem Go.castF {tb : Tables} {e : Env} {below : List Frame} {P : State → Prop} {T : State} {α : Type} (F : α → JFrame) {a b : α} (q : a = b) (k : Go tb e below P (T.setTop (F b))) : Go tb e below P (T.setTop (F a)) := q ▸ k
def Fin' (s : State) (below : List Frame) (ce sl : Nat) (Q : Option Value → Heap → List Loc → Prop) (u : State) : Prop := u.status = .running ∧ ∃ o, Ended u below o ∧ ∃ v L, o = .returned v ∧ Q v u.heap L ∧ FrameEnd s o u L ce sl
theorem Go.body {tb : Tables} {e : Env} {below : List Frame} {s : State} {ce sl : Nat} {Q : Option Value → Heap → List Loc → Prop} {T : State} (h : Go tb e below (Fin' s below ce sl Q) T) :
    ∃ s₂ o, Steps tb e below T s₂ ∧ s₂.status = .running ∧ Ended s₂ below o ∧ ∃ v L, o = .returned v ∧ Q v s₂.heap L ∧ FrameEnd s o s₂ L ce sl := by
  obtain ⟨u, ⟨h1, o, h2, h3⟩, h4⟩ := h
  exact ⟨u, o, h4 u (Steps.refl _), h1, h2, h3⟩
section OwnStand
variable {p : Program} {l : Launch} {e : Env} {R : Room} {s : State} {m : MethodId} {args : Array Value} {below : List Frame} {meth : Method} {c : Code} {T : State} {locs : List Loc} {cells slots : Nat}
def Like (X : Stand p l e R s m args below meth c T locs cells slots) (T' : State) : Prop := Stand p l e R s m args below meth c T' locs cells slots
theorem Go.out (X : Stand p l e R s m args below meth c T locs cells slots) {v : Option Value} (hv : meth.sig.returnType = none → v = none) (hlocks : meth.locks = false) {g : JFrame} {ce sl : Nat} {Q : Option Value → Heap → List Loc → Prop}
    (st : ∀ fs : List Frame, (∀ (f : JFrame) (acts : List Action), f.method = m → f.locked = none → f.entered = [] → (doReturn e (T.setTop f) acts v).1 = T.setFrames fs) → Steps p.tables e below (T.setTop g) (T.setFrames fs))
    (hc : cells ≤ ce) (hs : slots ≤ sl) (q : Q v T.heap locs) : Go p.tables e below (Fin' s below ce sl Q) (T.setTop g) := by
  obtain ⟨fs, hr, hrun, hended, hW, hsame⟩ := X.leave (v := v) hv hlocks
  exact ⟨T.setFrames fs, ⟨hrun, _, hended, v, locs, rfl, q, ⟨_, rfl⟩, hW, hsame.mono hc hs⟩, fun t k => (st fs hr).trans k⟩
theorem Go.retI' (X : Stand p l e R s m args below meth c T locs cells slots) (hx : p.tables.exec = Jvm.exec) {pc : Nat} {Ls : Array Slot} {z : Int32} {rest : List Value} {t : FieldType} (hret : meth.sig.returnType = some t) (hlocks : meth.locks = false)
    (ht : t = .int ∨ t = .boolean ∨ t = .byte ∨ t = .char ∨ t = .short) (hn : narrow t (.int z) = .int z) (hd : decode c.code pc = .ok (.ireturn, 1)) {ce sl : Nat} {Q : Option Value → Heap → List Loc → Prop} (hc : cells ≤ ce) (hs : slots ≤ sl) (q : Q (some (.int z)) T.heap locs) :
    Go p.tables e below (Fin' s below ce sl Q) (T.setTop (mkF m pc Ls (.int z :: rest))) :=
  Go.out X (fun h => by rw [hret] at h; cases h) hlocks (fun _ hl => retOut X hx hret hn (Or.inl ⟨rfl, ht, z, rfl⟩) hd hl) hc hs q
theorem Go.retA' (X : Stand p l e R s m args below meth c T locs cells slots) (hx : p.tables.exec = Jvm.exec) {pc : Nat} {Ls : Array Slot} {w : Value} {rest : List Value} {t : FieldType} (hret : meth.sig.returnType = some t) (hlocks : meth.locks = false)
    (ht : t.isReference = true) (hw : w.isRef = true) (hd : decode c.code pc = .ok (.areturn, 1)) {ce sl : Nat} {Q : Option Value → Heap → List Loc → Prop} (hc : cells ≤ ce) (hs : slots ≤ sl) (q : Q (some w) T.heap locs) :
    Go p.tables e below (Fin' s below ce sl Q) (T.setTop (mkF m pc Ls (w :: rest))) :=
  Go.out X (fun h => by rw [hret] at h; cases h) hlocks (fun _ hl => retOut X hx hret (by cases t <;> first | (cases ht; done) | (rcases ref_cases hw with rfl | ⟨z, rfl⟩ <;> rfl)) (Or.inr (Or.inr (Or.inr (Or.inr ⟨rfl, ht, hw⟩)))) hd hl) hc hs q
theorem Go.retD' (X : Stand p l e R s m args below meth c T locs cells slots) (hx : p.tables.exec = Jvm.exec) {pc : Nat} {Ls : Array Slot} {z : UInt64} {rest : List Value} (hret : meth.sig.returnType = some .double) (hlocks : meth.locks = false)
    (hd : decode c.code pc = .ok (.dreturn, 1)) {ce sl : Nat} {Q : Option Value → Heap → List Loc → Prop} (hc : cells ≤ ce) (hs : slots ≤ sl) (q : Q (some (.double z)) T.heap locs) :
    Go p.tables e below (Fin' s below ce sl Q) (T.setTop (mkF m pc Ls (.double z :: rest))) :=
  Go.out X (fun h => by rw [hret] at h; cases h) hlocks (fun _ hl => retOut X hx hret rfl (Or.inr (Or.inr (Or.inl ⟨rfl, rfl, z, rfl⟩))) hd hl) hc hs q
theorem Go.retV' (X : Stand p l e R s m args below meth c T locs cells slots) (hx : p.tables.exec = Jvm.exec) {pc : Nat} {Ls : Array Slot} (hret : meth.sig.returnType = none) (hlocks : meth.locks = false)
    (hd : decode c.code pc = .ok (.return_, 1)) {ce sl : Nat} {Q : Option Value → Heap → List Loc → Prop} (hc : cells ≤ ce) (hs : slots ≤ sl) (q : Q none T.heap locs) :
    Go p.tables e below (Fin' s below ce sl Q) (T.setTop (mkF m pc Ls [])) :=
  Go.out X (fun _ => rfl) hlocks (fun _ hl => X.returnOut hx hret hd hl) hc hs q
theorem own_nil (X : Stand p l e R s m args below meth c T (locs ++ []) cells slots) : Stand p l e R s m args below meth c T locs cells slots := by rw [List.append_nil] at X; exact X
theorem own_pack {k : Nat} (X : Stand p l e R s m args below meth c T locs cells slots) (N : Fr k locs) : ∃ ll, Stand p l e R s m args below meth c T ll cells slots ∧ Fr k ll := ⟨_, X, N⟩
end OwnStand
abbrev vi (x : Int32) : Slot := .val (.int x)
abbrev vr (a : Addr) : Slot := .val (.ref a)
theorem own_nb {z : Int32} (h : z = 0 ∨ z = 1) : narrow .boolean (.int z) = .int z := by rcases h with rfl | rfl <;> rfl
theorem own_fb {z : Int32} (h : z = 0 ∨ z = 1) : fits .boolean (.int z) = true := by rcases h with rfl | rfl <;> rfl
theorem own_bb {x : Int32} : nar .byte (x.toInt8.toInt32) = x.toInt8.toInt32 := by show x.toInt8.toInt32.toInt8.toInt32 = x.toInt8.toInt32; simp
theorem own_nm (x : Int32) : nar .char (x &&& (255 : Int32)) = (x &&& (255 : Int32)) := i2c_mask x
theorem own_i2c {x : Int32} (h0 : ¬ x < (0 : Int32)) (h1 : ¬ (255 : Int32) < x) : x.toUInt32.toUInt16.toUInt32.toInt32 = x := by
  have a := c_i2c x
  have z0 : (0 : Int32).toInt = 0 := rfl
  have z1 : (255 : Int32).toInt = 255 := rfl
  rw [Int32.lt_iff_toInt_lt] at h0 h1
  rw [← Int32.toInt_inj]; omega
theorem own_nc {x : Int32} (h0 : ¬ x < (0 : Int32)) (h1 : ¬ (255 : Int32) < x) : nar .char x = x := own_i2c h0 h1
theorem own_b8 {x y : Int32} (h0 : ¬ x < (0 : Int32)) (h1 : ¬ (255 : Int32) < x) (h2 : ¬ y < (0 : Int32)) (h3 : ¬ (255 : Int32) < y) : (x.toInt8.toInt32) = (y.toInt8.toInt32) ↔ x = y := by
  have a := c_i2b x
  have b := c_i2b y
  have z0 : (0 : Int32).toInt = 0 := rfl
  have z1 : (255 : Int32).toInt = 255 := rfl
  rw [Int32.lt_iff_toInt_lt] at h0 h1 h2 h3
  rw [← Int32.toInt_inj, ← Int32.toInt_inj]; omega
theorem own_m (x : Int32) : ¬ (x &&& (255 : Int32)) < (0 : Int32) ∧ ¬ (255 : Int32) < (x &&& (255 : Int32)) := by
  have h := c_mask x 255 8 (by decide) (by decide)
  have z0 : (0 : Int32).toInt = 0 := rfl
  have z1 : (255 : Int32).toInt = 255 := rfl
  rw [Int32.lt_iff_toInt_lt, Int32.lt_iff_toInt_lt]; omega
theorem own_le {Z : State} {n0 : Nat} {h : Heap} (X : Old Z n0 h) : n0 ≤ h.size := X.1 ▸ X.2.1
theorem own_len {Z : State} {args : Array Value} {t : Term} {a : Addr} {cl : Cell} {ty : FieldType} {z : Int32} (ht : t.eval args Z none [] Z = some (.ref a)) (A : Arr Z Z.heap a cl ty) (h : (Term.length t).eval args Z none [] Z = some (.int z)) : cl.slots.size < 2 ^ 31 ∧ cl.slots.size.toInt32 = z := by
  have ha := Arr.fin (Vm.Alike.refl _) A
  by_cases q : cl.slots.size < 2 ^ 31
  · exact ⟨q, Value.int.inj (Option.some.inj ((len_f ht ha q).symm.trans h))⟩
  · exfalso; simp [Term.eval, ht, ha] at h; exact q (by omega)
theorem own_eqr {Z : State} {args : Array Value} {X F : Term} {a : Addr} (hF : F.eval args Z none [] Z = some (.ref a)) (h : (Cond.eq X F).value args Z none Z [] = some true) : X.eval args Z none [] Z = some (.ref a) := by
  obtain ⟨x, y', e1, e2, k1, k2⟩ := cmp_v (Or.inl h)
  cases hF.symm.trans e2
  have hx : x.isRef = true := k2.2
  have := gotT (eq_R e1 hF hx rfl) h
  rw [e1, this]
def Gh (Z : State) (vcs : Int32) (vfm : Value) : Prop := (Sta Z Z.heap "java/lang/String" "COMPACT_STRINGS" "Z" (.int vcs)) ∧ (¬ (vcs = (0 : Int32))) ∧ (Sta Z Z.heap "jdk/internal/util/Preconditions" "SIOOBE_FORMATTER" "Ljava/util/function/BiFunction;" vfm) ∧ (vfm.isRef = true)
/-! walks that may load String constants: what a walk bears besides its Stand -/
def Sb (Z : State) (EL : List (String × Nat)) (own : String) (cls : ClassId) (s : State) (vm0 : Vm) (h0 H : Heap) : Prop :=
  ∃ k0, s.Since vm0 k0 ∧ k0 ≤ H.size ∧ Z.Warmed39 vm0 ∧ vm0.findClass own = some cls ∧ CHr Z EL s.vm h0 vm0 H
section OwnS
variable {Z s : State} {EL : List (String × Nat)} {own : String} {cls : ClassId} {vm0 : Vm} {h0 H H' : Heap} {a0 : Array Value}
theorem Sb.start (hZ : Z.Warmed39 s.vm) (ho : s.vm.findClass own = some cls) (hC : CHv Z EL s.vm h0) : Sb Z EL own cls s s.vm h0 h0 := ⟨0, (State.WarmedH.refl s).since 0, Nat.zero_le _, hZ, ho, CHr.refl hC⟩
theorem Sb.hZ (b : Sb Z EL own cls s vm0 h0 H) : Z.Warmed39 (s.setVm vm0).vm := b.elim fun _ q => q.2.2.1
theorem Sb.hO (b : Sb Z EL own cls s vm0 h0 H) : (s.setVm vm0).vm.findClass own = some cls := b.elim fun _ q => q.2.2.2.1
theorem Sb.ch (b : Sb Z EL own cls s vm0 h0 H) : CHv Z EL vm0 H := b.elim fun _ q => q.2.2.2.2.1
theorem Sb.ext (b : Sb Z EL own cls s vm0 h0 H) (E : Ext H H') : Sb Z EL own cls s vm0 h0 H' := by
  obtain ⟨k0, b1, b2, b3, b4, b5⟩ := b
  exact ⟨k0, b1, Nat.le_trans b2 E.1, b3, b4, b5.trans (CHr.ext E b5.1)⟩
theorem Sb.wr (b : Sb Z EL own cls s vm0 h0 H) {a : Addr} {sl : Nat} {v : Value} (W : Wr H H' a sl v) (S : Safe Z EL vm0 H a) : Sb Z EL own cls s vm0 h0 H' := by
  obtain ⟨k0, b1, b2, b3, b4, b5⟩ := b
  exact ⟨k0, b1, Nat.le_trans b2 (Nat.le_of_eq W.size.symm), b3, b4, b5.trans (CHr.wr W S b5.1)⟩
theorem Sb.keep (b : Sb Z EL own cls s vm0 h0 H) {ws : List Addr} (K : Keep H H' ws) (hs : ∀ x ∈ ws, Safe Z EL vm0 H x) : Sb Z EL own cls s vm0 h0 H' := by
  obtain ⟨k0, b1, b2, b3, b4, b5⟩ := b
  exact ⟨k0, b1, Nat.le_trans b2 K.1, b3, b4, b5.trans (CHr.keep K hs b5.1)⟩
theorem Sb.called (b : Sb Z EL own cls s vm0 h0 H) {vm1 : Vm} (h2 : (s.setVm vm0).Since vm1 H'.size) (g : H.size ≤ H'.size) (A : CHr Z EL vm0 H vm1 H') : Sb Z EL own cls s vm1 h0 H' := by
  obtain ⟨k0, b1, b2, b3, b4, b5⟩ := b
  exact ⟨H'.size, b1.trans h2 (Nat.le_trans b2 g), Nat.le_refl _, State.Warmed39.trans (t := s.setVm vm0) b3 h2.1, (h2.1.alike.findClass _ _).trans b4, b5.trans A⟩
variable {p : Program} {l : Launch} {e : Env} {R : Room} {m : MethodId} {args : Array Value} {below : List Frame} {meth : Method} {c : Code} {T : State} {locs : List Loc} {cells slots : Nat}
/-- ldc of a String constant of EL, its text read -/
theorem own_ldc (X : Stand p l e R (s.setVm vm0) m args below meth c T locs cells slots) (hx : p.tables.exec = Jvm.exec) (b : Sb Z EL own m.cls s vm0 h0 H) {index : Nat} {text : String} (w : (Cond.stringLink own index text).before a0 Z = true) (wS : ∀ a ∈ Bundle.stringAtoms, a.before a0 Z = true)
    (eT : T.heap = H) (hEL : EW Z a0 EL) (hmem : (own, index) ∈ EL) {vs : List Value} {z : Int32} (ht : (∀ c ∈ text.toList, c.toNat < 256) ∧ text.toList.map (fun c => Value.int (Jvm.Lit.byteI c.toNat.toUInt16)) = vs) (hz : ¬ z < 0) (hl : z.toNatClampNeg = vs.length)
    {g : JFrame} (hg : g.method = m) (hd : decode c.code g.pc = .ok (.ldc index, 2)) {n : Nat} (hn : 4 * text.toList.length ≤ n) (hbig : n ≤ 536870912) (hc : cells + 2 ≤ R.cells) (hl' : slots + (n + 4) ≤ R.slots) :
    ∃ (T' : State) (h' : Heap) (a : Addr) (bb : Addr) (k : ClassId), Stand p l e R (s.setVm T'.vm) m args below meth c T' locs (cells + 2) (slots + (n + 4)) ∧ T'.heap = h' ∧ Ext H h' ∧ Sb Z EL own m.cls s T'.vm h0 h' ∧ CHr Z EL vm0 H T'.vm h' ∧
      Exa Z h' a "java/lang/String" ∧ Fld Z h' a "java/lang/String" "coder" "B" (.int 0) ∧ Fld Z h' a "java/lang/String" "value" "[B" (.ref bb) ∧ Arv Z h' bb k .byte z vs (.int 0) ∧ (∀ x, Safe Z EL T'.vm h' x → x ≠ a ∧ x ≠ bb) ∧
      ∀ target, Steps p.tables e below (T'.setTop { g with pc := g.pc + 2, stack := .ref a :: g.stack }) target → Steps p.tables e below (T.setTop g) target := by
  obtain ⟨k0, b1, b2, b3, b4, b5⟩ := b
  obtain ⟨a, T', h', k1, bb, k, X', e', E, hS, hk, hZ', ho', hA, hC, hV, hB, -, -, A, -, hne, st⟩ := ldcCH X hx b3 b4 w wS eT b1 b2 hEL hmem b5.1 ht hz hl hg hd hn hbig hc hl'
  exact ⟨T', h', a, bb, k, X', e', E, ⟨k1, hS, hk, hZ', ho', b5.trans A⟩, A, hA, hC, hV, hB, hne, st⟩
def FinS (Z : State) (EL : List (String × Nat)) (s : State) (below : List Frame) (ce sl : Nat) (Q : Option Value → Heap → Vm → List Loc → Prop) (u : State) : Prop := u.status = .running ∧ ∃ o, Ended u below o ∧ ∃ v L, o = .returned v ∧ Q v u.heap u.vm L ∧ CHr Z EL s.vm s.heap u.vm u.heap ∧ ReturnedEndW s o u L ce sl
theorem Go.bodyS {tb : Tables} {ce sl : Nat} {Q : Option Value → Heap → Vm → List Loc → Prop} (h : Go tb e below (FinS Z EL s below ce sl Q) T) :
    ∃ s₂ o, Steps tb e below T s₂ ∧ s₂.status = .running ∧ Ended s₂ below o ∧ ∃ v L, o = .returned v ∧ Q v s₂.heap s₂.vm L ∧ CHr Z EL s.vm s.heap s₂.vm s₂.heap ∧ ReturnedEndW s o s₂ L ce sl := by
  obtain ⟨u, ⟨h1, o, h2, h3⟩, h4⟩ := h
  exact ⟨u, o, h4 u (Steps.refl _), h1, h2, h3⟩
theorem Go.outS (X : Stand p l e R (s.setVm vm0) m args below meth c T locs cells slots) (hEL : EW Z a0 EL) (b : Sb Z EL own m.cls s vm0 h0 H) (eT : T.heap = H) (es : s.heap = h0) {v : Option Value} (hv : meth.sig.returnType = none → v = none) (hlocks : meth.locks = false) {g : JFrame} {ce sl : Nat} {Q : Option Value → Heap → Vm → List Loc → Prop}
    (st : ∀ fs : List Frame, (∀ (f : JFrame) (acts : List Action), f.method = m → f.locked = none → f.entered = [] → (doReturn e (T.setTop f) acts v).1 = T.setFrames fs) → Steps p.tables e below (T.setTop g) (T.setFrames fs))
    (hc : cells ≤ ce) (hs : slots ≤ sl) (q : Q v T.heap T.vm locs) : Go p.tables e below (FinS Z EL s below ce sl Q) (T.setTop g) := by
  obtain ⟨k0, b1, b2, b3, b4, b5⟩ := b
  subst eT es
  have A := b5.trans (CHv.at X b3 hEL b5.1)
  obtain ⟨fs, hr, hrun, hended, h1, h2, h3, h4⟩ := X.leaveW b1 b2 hv hlocks
  exact ⟨T.setFrames fs, ⟨hrun, _, hended, v, locs, rfl, q, A, h1, h2, h3, h4.mono hc hs⟩, fun t k => (st fs hr).trans k⟩
theorem Go.retIS (X : Stand p l e R (s.setVm vm0) m args below meth c T locs cells slots) (hx : p.tables.exec = Jvm.exec) (hEL : EW Z a0 EL) (b : Sb Z EL own m.cls s vm0 h0 H) (eT : T.heap = H) (es : s.heap = h0) {pc : Nat} {Ls : Array Slot} {z : Int32} {rest : List Value} {t : FieldType} (hret : meth.sig.returnType = some t) (hlocks : meth.locks = false)
    (ht : t = .int ∨ t = .boolean ∨ t = .byte ∨ t = .char ∨ t = .short) (hn : narrow t (.int z) = .int z) (hd : decode c.code pc = .ok (.ireturn, 1)) {ce sl : Nat} {Q : Option Value → Heap → Vm → List Loc → Prop} (hc : cells ≤ ce) (hs : slots ≤ sl) (q : Q (some (.int z)) T.heap T.vm locs) :
    Go p.tables e below (FinS Z EL s below ce sl Q) (T.setTop (mkF m pc Ls (.int z :: rest))) :=
  Go.outS X hEL b eT es (fun h => by rw [hret] at h; cases h) hlocks (fun _ hl => retOut X hx hret hn (Or.inl ⟨rfl, ht, z, rfl⟩) hd hl) hc hs q
theorem Go.retAS (X : Stand p l e R (s.setVm vm0) m args below meth c T locs cells slots) (hx : p.tables.exec = Jvm.exec) (hEL : EW Z a0 EL) (b : Sb Z EL own m.cls s vm0 h0 H) (eT : T.heap = H) (es : s.heap = h0) {pc : Nat} {Ls : Array Slot} {w : Value} {rest : List Value} {t : FieldType} (hret : meth.sig.returnType = some t) (hlocks : meth.locks = false)
    (ht : t.isReference = true) (hw : w.isRef = true) (hd : decode c.code pc = .ok (.areturn, 1)) {ce sl : Nat} {Q : Option Value → Heap → Vm → List Loc → Prop} (hc : cells ≤ ce) (hs : slots ≤ sl) (q : Q (some w) T.heap T.vm locs) :
    Go p.tables e below (FinS Z EL s below ce sl Q) (T.setTop (mkF m pc Ls (w :: rest))) :=
  Go.outS X hEL b eT es (fun h => by rw [hret] at h; cases h) hlocks (fun _ hl => retOut X hx hret (by cases t <;> first | (cases ht; done) | (rcases ref_cases hw with rfl | ⟨z, rfl⟩ <;> rfl)) (Or.inr (Or.inr (Or.inr (Or.inr ⟨rfl, ht, hw⟩)))) hd hl) hc hs q
theorem Go.retVS (X : Stand p l e R (s.setVm vm0) m args below meth c T locs cells slots) (hx : p.tables.exec = Jvm.exec) (hEL : EW Z a0 EL) (b : Sb Z EL own m.cls s vm0 h0 H) (eT : T.heap = H) (es : s.heap = h0) {pc : Nat} {Ls : Array Slot} (hret : meth.sig.returnType = none) (hlocks : meth.locks = false)
    (hd : decode c.code pc = .ok (.return_, 1)) {ce sl : Nat} {Q : Option Value → Heap → Vm → List Loc → Prop} (hc : cells ≤ ce) (hs : slots ≤ sl) (q : Q none T.heap T.vm locs) :
    Go p.tables e below (FinS Z EL s below ce sl Q) (T.setTop (mkF m pc Ls [])) :=
  Go.outS X hEL b eT es (fun _ => rfl) hlocks (fun _ hl => X.returnOut hx hret hd hl) hc hs q
/-- a callee that may load constants, by its contract; sf: objects that no constant's cell is -/
theorem own_backS {y : MethodName} {bytes : ByteArray} {maxL : Nat} {ret : Option FieldType} {rm : Room} {len W : Nat} {as' : Array Value} {Q : Option Value → Heap → Vm → List Loc → Prop} {sf : List Addr}
    (hM : MetFree l y (head1 [Cond.code y bytes maxL ret] rm) (fun a U => a = as' ∧ Z.Warmed39 U.vm ∧ U.heap = H ∧ CHv Z EL U.vm H ∧ ∀ x ∈ sf, Safe Z EL U.vm H x) (fun _ _ _ _ _ => True) (fun _ U o U' => ∃ v L, o = .returned v ∧ Q v U'.heap U'.vm L ∧ CHr Z EL U.vm U.heap U'.vm U'.heap ∧ ReturnedEndW U o U' L rm.cells rm.slots))
    (b : Sb Z EL own cls s vm0 h0 H) (wc : (Cond.code y bytes maxL ret).before a0 Z = true) (wz : (Cond.initialized y.cls).before a0 Z = true) (hf : rm.frames + 1 ≤ R.frames) (hl : W + (maxL + 11) + rm.locals ≤ R.locals) (hEL : EW Z a0 EL) (hsf : ∀ x ∈ sf, x < H.size ∧ Safe Z EL vm0 H x) :
    BackS l R p e below (s.setVm vm0) args y len W (fun A a => a = as' ∧ A.U.heap = H ∧ A.cells + rm.cells ≤ R.cells ∧ A.slots + rm.slots ≤ R.slots)
      (fun A _ v B => ∃ L, Q v B.U.heap B.U.vm L ∧ B.locs = A.locs ++ L ∧ B.cells = A.cells + rm.cells ∧ B.slots = A.slots + rm.slots ∧ CHr Z EL vm0 H B.U.vm B.U.heap) := by
  have hZ := b.hZ
  have hC := b.ch
  exact BackS.of_freeW (bytes := bytes) (maxL := maxL) (ret := ret) (E := fun _ first o t L k n => k = rm.cells ∧ n = rm.slots ∧ (∃ v, o = .returned v ∧ Q v t.heap t.vm L) ∧ CHr Z EL first.vm first.heap t.vm t.heap) hM hf hl
    (fun m meth c A a Y hp => by
      have hU : Z.Warmed39 A.U.vm := wtrans (s := s.setVm vm0) hZ Y.warmed
      refine ⟨?_, mv hU wc, mv hU wz, hp.2.2.1, hp.2.2.2⟩
      show (Cond.and _ .tt).before a A.U = true
      rw [Cond.before_and, mv hU wc]; rfl)
    (fun m meth c A a g mk Y hp => by
      have q := CHv.at Y hZ hEL hC
      exact ⟨hp.1, wtrans (s := s.setVm vm0) hZ Y.warmed, hp.2.1, q.1, fun x hx => q.safe (hsf x hx).1 (hsf x hx).2⟩)
    (fun _ _ _ _ _ _ _ _ _ => trivial)
    (fun _ _ _ _ h => by obtain ⟨v, L, h1, h2, h3, h4⟩ := h; exact ⟨L, _, _, h4, rfl, rfl, ⟨v, h1, h2⟩, h3⟩)
    (fun m meth c A a g mk v t L k n Y hp _ _ h => by
      obtain ⟨e1, e2, ⟨v', e3, e4⟩, e5⟩ := h
      cases e3; subst e1 e2
      refine ⟨L, e4, rfl, rfl, rfl, (CHv.at Y hZ hEL hC).trans ?_⟩
      rw [← hp.2.1]; exact e5)
theorem own_reb {vm1 : Vm} (X : Stand p l e R ((s.setVm vm0).setVm vm1) m args below meth c T locs cells slots) : Stand p l e R (s.setVm vm1) m args below meth c T locs cells slots := X
end OwnS
theorem own_EW {Z : State} {a0 : Array Value} (hw : ∀ d ∈ tables_1, d.before a0 Z = true) : EW Z a0 consts_1 := (EW.cons (hw _ (List.mem_of_getElem? (i := 114) rfl)) (by decide +kernel) (EW.cons (hw _ (List.mem_of_getElem? (i := 19) rfl)) (by decide +kernel) EW.nil))
theorem own_SA {Z : State} {a0 : Array Value} (hw : ∀ d ∈ tables_1, d.before a0 Z = true) : ∀ d ∈ Bundle.stringAtoms, d.before a0 Z = true := fun d hd => by
  simp only [Bundle.stringAtoms, List.mem_cons, List.not_mem_nil, or_false] at hd
  rcases hd with rfl | rfl | rfl | rfl | rfl | rfl | rfl
  · exact (hw _ (List.mem_of_getElem? (i := 7) rfl))
  · exact (hw _ (List.mem_of_getElem? (i := 6) rfl))
  · exact (hw _ (List.mem_of_getElem? (i := 20) rfl))
  · exact (hw _ (List.mem_of_getElem? (i := 21) rfl))
  · exact (hw _ (List.mem_of_getElem? (i := 22) rfl))
  · exact (hw _ (List.mem_of_getElem? (i := 23) rfl))
  · exact (hw _ (List.mem_of_getElem? (i := 24) rfl))
section OwnCopy
variable {p : Program} {l : Launch} {e : Env} {R : Room} {s Z : State} {m : MethodId} {args a0 : Array Value} {below : List Frame} {meth : Method} {c : Code} {T : State} {locs : List Loc} {cells slots : Nat}
/-- System.arraycopy between arrays of one primitive type -/
theorem own_acopy (X : Stand p l e R s m args below meth c T locs cells slots) (hx : p.tables.exec = Jvm.exec) (hZ : Z.Warmed39 s.vm) {own : String} {index : Nat} (hown : s.vm.findClass own = some m.cls) (hw : ∀ w ∈ Jvm.Free.XT.acW own index, w.before args s = true) {H : Heap} (eT : T.heap = H)
    {ty : FieldType} (hp : ty.isReference = false) {a b : Addr} {ka kb : ClassId} {na nb : Int32} {va vb vs' : List Value} {d : Value} (A : Arv Z H a ka ty na va d) (B : Arv Z H b kb ty nb vb d) {o q n Na Nb : Nat} (hNa : na.toNatClampNeg = Na) (hNb : nb.toNatClampNeg = Nb)
    {jo jq jn : Int32} (ho : jo = Int32.ofNat o) (hq : jq = Int32.ofNat q) (hn : jn = Int32.ofNat n) (h4 : o + n ≤ Na) (h5 : q + n ≤ Nb) (hv : (List.range Nb).map (fun j => vs'.getD j d) = (List.range Nb).map (fun j => if q ≤ j ∧ j < q + n then va.getD (o + (j - q)) d else vb.getD j d))
    {g : JFrame} (hg : g.method = m) (hsize : g.locals.size = c.maxLocals) {rest : List Value} (hstack : g.stack = .int jn :: .int jq :: .ref b :: .int jo :: .ref a :: rest) (hdg : decode c.code g.pc = .ok (.invokestatic index, 3))
    {W : Nat} (hW : 2 * g.monitorRoom + (rest.map fun v => v.category).sum ≤ W) (hfr : 1 ≤ R.frames) (hlo : W + 40 ≤ R.locals) :
    ∃ (T' : State) (h' : Heap) (L : List Loc), Stand p l e R s m args below meth c T' (locs ++ L) cells slots ∧ T'.heap = h' ∧ Keep H h' [b] ∧ Arv Z h' b kb ty nb vs' d ∧ (∀ y ∈ L, y.base = b) ∧
      ∀ target, Steps p.tables e below (T'.setTop { g with pc := g.pc + 3, stack := rest }) target → Steps p.tables e below (T.setTop g) target := by
  obtain ⟨cA, A1, A2, A3, A4, A5, A6⟩ := A
  obtain ⟨cB, B1, B2, B3, B4, B5, B6⟩ := B
  subst eT
  have sa : na.toNatClampNeg < 2 ^ 31 := by have := Int32.toInt_lt na; simp only [Int32.toNatClampNeg]; omega
  have sb : nb.toNatClampNeg < 2 ^ 31 := by have := Int32.toInt_lt nb; simp only [Int32.toNatClampNeg]; omega
  have al := hZ.alike.trans X.warmed.alike
  have hA : Jvm.Free.XT.Arr ty a cA T := ⟨A1.1, State.isArrayOf_alike al A1.2.1, A1.2.2, by rw [A3]; exact sa⟩
  have hB : Jvm.Free.XT.Arr ty b cB T := ⟨B1.1, State.isArrayOf_alike al B1.2.1, B1.2.2, by rw [B3]; exact sb⟩
  have ga : ∀ i, i < cA.slots.size → cA.slots.getD i .null = va.getD i d := fun i hi => by rw [Array.getD_eq_getD_getElem?, A5 i hi]; rfl
  obtain ⟨T', B', X', P, q1, q2, q3, q4, st⟩ := X.acopy hx hown hw hA hB (by cases ty <;> first | rfl | cases hp) ho hq hn (by rw [A3, hNa]; exact h4) (by rw [B3, hNb]; exact h5)
    (fun i hi => ⟨by rw [ga _ (by rw [A3, hNa]; omega)]; exact A6 _ (by rw [A3, hNa]; omega), fun h => by rw [hp] at h; cases h⟩) hg hsize hstack hdg hW hfr hlo
  have hv' : ∀ j, j < Nb → vs'.getD j d = if q ≤ j ∧ j < q + n then va.getD (o + (j - q)) d else vb.getD j d := fun j hj => by
    have z := congrArg (fun L => L[j]?) hv
    simpa [hj] using z
  have sz : B'.slots.size = Nb := by rw [q3, B3, hNb]
  refine ⟨T', _, _, X', rfl, ⟨Nat.le_of_eq P.2.2.symm, fun x cx hx hn => ?_, fun x cx hx => ?_⟩, ⟨B', ⟨P.1, ?_, by rw [q2]; exact B1.2.2⟩, q1.trans B2, by rw [q3]; exact B3, B4, fun j hj => ?_, fun j hj => ?_⟩, fun y hy => copyLocs_base hy, st⟩
  · rw [P.2.1 x (fun z => hn (by simp [z]))]; exact hx
  · by_cases z : x = b
    · subst z; cases B1.1.symm.trans hx; exact ⟨B', P.1, q1, q2, q3⟩
    · exact ⟨cx, (P.2.1 x z).trans hx, rfl, rfl, rfl⟩
  · obtain ⟨r1, k, r2, r3⟩ := B1.2.1
    exact ⟨by rw [q2]; exact r1, k, by rw [q1]; exact r2, r3⟩
  · rw [sz] at hj
    rw [q4 j, hv' j hj]
    split
    · rw [ga _ (by rw [A3, hNa]; omega)]
    · exact B5 j (by rw [B3, hNb]; exact hj)
  · rw [sz] at hj
    rw [hv' j hj]
    split
    · exact A6 _ (by rw [A3, hNa]; omega)
    · exact B6 j (by rw [B3, hNb]; exact hj)
theorem own_acw {own : String} {index : Nat} (h1 : (Cond.methodLink own index acN).before args s = true) (h2 : (Cond.native acN).before args s = true) (h3 : (Cond.static acN).before args s = true) (h4 : (Cond.initialized "java/lang/System").before args s = true) : ∀ w ∈ Jvm.Free.XT.acW own index, w.before args s = true := fun w hw => by
  simp only [Jvm.Free.XT.acW, List.mem_cons, List.not_mem_nil, or_false] at hw
  rcases hw with rfl | rfl | rfl | rfl
  · exact h1
  · exact h2
  · exact h3
  · exact h4
theorem own_nf {C : String} {y z : MethodName} (hsel : (Cond.selects C z z).before args s = true) (h : y.cls = z.cls) : NotFace s y := fun r0 h0 => by
  obtain ⟨c2, r2, m2, q1, q2, q3, q4, -⟩ := Cond.selects_spec hsel
  obtain ⟨kP, hk, hi⟩ := notFace_of_selects hsel _ q3
  have a := findClass_of_methodNamed h0
  have b := findClass_of_methodNamed q3
  rw [h] at a
  exact ⟨kP, by rw [Option.some.inj (a.symm.trans b)]; exact hk, hi⟩
theorem own_same {y : MethodName} (hdecl : (Cond.declares y).before args s = true) (nf : NotFace s y) (hy : y.cls ≠ "java/lang/invoke/MethodHandle" ∧ y.cls ≠ "java/lang/invoke/VarHandle") : (Cond.sameMethod y.cls y.cls y.name y.desc).before args s = true := by
  obtain ⟨r0, r, hn, hrm, hstR, hsigR⟩ := Cond.declares_spec hdecl
  obtain ⟨k, hk, hi⟩ := nf r0 hn
  have hc := findClass_of_methodNamed hn
  have hf := State.methodFound?_of_named hn hy
  cases y
  simp [Cond.before, Cond.holds, Cond.value, hc, hf, hn, hk, hi]
theorem own_selP {C : String} {y : MethodName} (hsel : (Cond.selects C y y).before args s = true) (hpriv : s.PrivateAt y) (hinst : (Cond.instanceMethod y).before args s = true) (hy : y.cls ≠ "java/lang/invoke/MethodHandle" ∧ y.cls ≠ "java/lang/invoke/VarHandle") : (Cond.selects y.cls y y).before args s = true := by
  obtain ⟨c2, r2, m2, q1, q2, q3, q4, kP, hkP, hkPi⟩ := Cond.selects_spec hsel
  exact selects_self_of_private (findClass_of_methodNamed q3) hkP hkPi hpriv hinst hy
end OwnCopy
theorem own_shl0 (x : Int32) : (x <<< ((0 : Int32) &&& 31)) = x := by
  rw [show ((0 : Int32) &&& 31) = 0 from by decide]; simp
theorem own_shr0 (x : Int32) : (x >>> ((0 : Int32) &&& 31)) = x := by
  rw [show ((0 : Int32) &&& 31) = 0 from by decide]; simp
theorem own_sub0 (x : Int32) : (x - (0 : Int32)) = x := by simp
def cpl (va vb : List Value) (jo jq jn nb : Int32) : List Value := (List.range nb.toNatClampNeg).map fun j => if jq.toNatClampNeg ≤ j ∧ j < jq.toNatClampNeg + jn.toNatClampNeg then va.getD (jo.toNatClampNeg + (j - jq.toNatClampNeg)) (.int 0) else vb.getD j (.int 0)
theorem own_nat {j : Int32} (h : ¬ j < 0) : j = Int32.ofNat j.toNatClampNeg := (back32 h).1.symm
section OwnCopyG
variable {p : Program} {l : Launch} {e : Env} {R : Room} {s Z : State} {m : MethodId} {args a0 : Array Value} {below : List Frame} {meth : Method} {c : Code} {T : State} {locs : List Loc} {cells slots : Nat}
theorem own_acopyG (X : Stand p l e R s m args below meth c T locs cells slots) (hx : p.tables.exec = Jvm.exec) (hZ : Z.Warmed39 s.vm) {own : String} {index : Nat} (hown : s.vm.findClass own = some m.cls) (hw : ∀ w ∈ Jvm.Free.XT.acW own index, w.before args s = true) {H : Heap} (eT : T.heap = H)
    {ty : FieldType} (hp : ty.isReference = false) {a b : Addr} {ka kb : ClassId} {na nb : Int32} {va vb : List Value} (A : Arv Z H a ka ty na va (.int 0)) (B : Arv Z H b kb ty nb vb (.int 0))
    {jo jq jn : Int32} (ho : ¬ jo < 0) (hq : ¬ jq < 0) (hn : ¬ jn < 0) (h4 : jo.toInt + jn.toInt ≤ na.toInt) (h5 : jq.toInt + jn.toInt ≤ nb.toInt)
    {g : JFrame} (hg : g.method = m) (hsize : g.locals.size = c.maxLocals) {rest : List Value} (hstack : g.stack = .int jn :: .int jq :: .ref b :: .int jo :: .ref a :: rest) (hdg : decode c.code g.pc = .ok (.invokestatic index, 3))
    {W : Nat} (hW : 2 * g.monitorRoom + (rest.map fun v => v.category).sum ≤ W) (hfr : 1 ≤ R.frames) (hlo : W + 40 ≤ R.locals) :
    ∃ (T' : State) (h' : Heap) (L : List Loc) (vs' : List Value), Stand p l e R s m args below meth c T' (locs ++ L) cells slots ∧ T'.heap = h' ∧ Keep H h' [b] ∧ Arv Z h' b kb ty nb vs' (.int 0) ∧ vs' = cpl va vb jo jq jn nb ∧ (∀ y ∈ L, y.base = b) ∧
      ∀ target, Steps p.tables e below (T'.setTop { g with pc := g.pc + 3, stack := rest }) target → Steps p.tables e below (T.setTop g) target := by
  have z0 : (0 : Int32).toInt = 0 := rfl
  have zo := ho; have zq := hq; have zn := hn
  rw [Int32.lt_iff_toInt_lt, z0] at zo zq zn
  have i1 : jo.toNatClampNeg = jo.toInt.toNat := rfl
  have i2 : jq.toNatClampNeg = jq.toInt.toNat := rfl
  have i3 : jn.toNatClampNeg = jn.toInt.toNat := rfl
  have i4 : na.toNatClampNeg = na.toInt.toNat := rfl
  have i5 : nb.toNatClampNeg = nb.toInt.toNat := rfl
  obtain ⟨T', h', L, X', e', K, V, By, st⟩ := own_acopy X hx hZ hown hw eT hp A B (vs' := cpl va vb jo jq jn nb) rfl rfl (own_nat ho) (own_nat hq) (own_nat hn) (by omega) (by omega)
    (List.map_congr_left fun j hj => by simp [cpl, List.getD, List.mem_range.mp hj]) hg hsize hstack hdg hW hfr hlo
  exact ⟨T', h', L, _, X', e', K, V, rfl, By, st⟩
end OwnCopyG
def Rm (nn mm : Int32) : Prop := ¬ nn < (0 : Int32) ∧ ¬ mm < (0 : Int32) ∧ nn.toInt + mm.toInt ≤ 15 ∧ ¬ ((0 : Int32) < ((nn + mm) - (16 : Int32)))
def QL (za zb : Int32) (v1 v2 : List Value) : List Value := cpl (cpl v2 (cpl [.int 46] (cpl v1 [] 0 0 za 16) 0 ((0 : Int32) + za) 1 16) 0 (((0 : Int32) + za) + (1 : Int32)) zb 16) [] 0 0 ((((0 : Int32) + za) + (1 : Int32)) + zb) ((((0 : Int32) + za) + (1 : Int32)) + zb)
def Z2 (z : Int32) : Prop := z = (0 : Int32) ∨ z = (1 : Int32) ∨ z = (2 : Int32)
theorem own_rm1 {z : Int32} (h : Z2 z) : Rm (0 : Int32) z := by rcases h with rfl | rfl | rfl <;> (unfold Rm; decide)
theorem own_rm2 {z : Int32} (h : Z2 z) : Rm ((0 : Int32) + z) (1 : Int32) := by rcases h with rfl | rfl | rfl <;> (unfold Rm; decide)
theorem own_rm3 {z w : Int32} (h : Z2 z) (g : Z2 w) : Rm (((0 : Int32) + z) + (1 : Int32)) w := by rcases h with rfl | rfl | rfl <;> rcases g with rfl | rfl | rfl <;> (unfold Rm; decide)
theorem own_cc {z w : Int32} (h : Z2 z) (g : Z2 w) : ¬ ((((0 : Int32) + z) + (1 : Int32)) + w) < (0 : Int32) ∧ ((((0 : Int32) + z) + (1 : Int32)) + w) < (16 : Int32) ∧ ¬ ((((0 : Int32) + z) + (1 : Int32)) + w) = (16 : Int32) := by rcases h with rfl | rfl | rfl <;> rcases g with rfl | rfl | rfl <;> decide
example (x y z : Int32) : QL 1 2 [.int x] [.int y, .int z] = [.int x, .int 46, .int y, .int z] := rfl
theorem own_k3_n : ∀ n : Nat, n < 3 → (n.toInt32 = (0 : Int32) ∨ n.toInt32 = (1 : Int32) ∨ n.toInt32 = (2 : Int32)) := by decide +kernel
theorem own_k3 (x : Int32) : ((x &&& (2147483647 : Int32)) % (3 : Int32)) = (0 : Int32) ∨ ((x &&& (2147483647 : Int32)) % (3 : Int32)) = (1 : Int32) ∨ ((x &&& (2147483647 : Int32)) % (3 : Int32)) = (2 : Int32) := by
  have h := c_mask x 2147483647 31 (by decide) (by decide)
  have h2 := (c_irem (x &&& 2147483647) 3 3 rfl).1 (by omega)
  obtain ⟨n, hn⟩ : ∃ n : Nat, (((x &&& (2147483647 : Int32)) % (3 : Int32))).toInt = n := ⟨_, (Int.toNat_of_nonneg (by omega)).symm⟩
  have hx : ((x &&& (2147483647 : Int32)) % (3 : Int32)) = n.toInt32 := by rw [← Int32.toInt_inj, hn, len_toInt (by omega)]
  rw [hx]
  exact own_k3_n n (by omega)
theorem own_u8n : ∀ n : Nat, n < 256 → ((n.toInt32).toInt8.toInt32 &&& (255 : Int32)) = n.toInt32 := by decide +kernel
theorem own_u8 {x : Int32} (h : ¬ x < (0 : Int32) ∧ ¬ (255 : Int32) < x) : ((x.toInt8.toInt32) &&& (255 : Int32)) = x := by
  have z0 : (0 : Int32).toInt = 0 := rfl
  have z1 : (255 : Int32).toInt = 255 := rfl
  rw [Int32.lt_iff_toInt_lt, Int32.lt_iff_toInt_lt] at h
  obtain ⟨n, hn⟩ : ∃ n : Nat, x.toInt = n := ⟨_, (Int.toNat_of_nonneg (by omega)).symm⟩
  have hx : x = n.toInt32 := by rw [← Int32.toInt_inj, hn, len_toInt (by omega)]
  rw [hx]
  exact own_u8n n (by omega)
theorem d36_0 : decode jdk_52_method_21_code 0 = .ok (.iconst 0, 1) := by decide +kernel
theorem d36_1 : decode jdk_52_method_21_code 1 = .ok (.istore 5, 2) := by decide +kernel
theorem d36_3 : decode jdk_52_method_21_code 3 = .ok (.iload 5, 2) := by decide +kernel
theorem d36_5 : decode jdk_52_method_21_code 5 = .ok (.iload 4, 2) := by decide +kernel
theorem d36_7 : decode jdk_52_method_21_code 7 = .ok (.if_icmp .ge 37, 3) := by decide +kernel
theorem d36_10 : decode jdk_52_method_21_code 10 = .ok (.aload_n 0, 1) := by decide +kernel
theorem d36_11 : decode jdk_52_method_21_code 11 = .ok (.iload_n 1, 1) := by decide +kernel
theorem d36_12 : decode jdk_52_method_21_code 12 = .ok (.caload, 1) := by decide +kernel
theorem d36_13 : decode jdk_52_method_21_code 13 = .ok (.istore 6, 2) := by decide +kernel
theorem d36_15 : decode jdk_52_method_21_code 15 = .ok (.iload 6, 2) := by decide +kernel
theorem d36_17 : decode jdk_52_method_21_code 17 = .ok (.sipush 255, 3) := by decide +kernel
theorem d36_20 : decode jdk_52_method_21_code 20 = .ok (.if_icmp .le 6, 3) := by decide +kernel
theorem d36_26 : decode jdk_52_method_21_code 26 = .ok (.aload_n 2, 1) := by decide +kernel
theorem d36_27 : decode jdk_52_method_21_code 27 = .ok (.iload_n 3, 1) := by decide +kernel
theorem d36_28 : decode jdk_52_method_21_code 28 = .ok (.iload 6, 2) := by decide +kernel
theorem d36_30 : decode jdk_52_method_21_code 30 = .ok (.i2b, 1) := by decide +kernel
theorem d36_31 : decode jdk_52_method_21_code 31 = .ok (.bastore, 1) := by decide +kernel
theorem d36_32 : decode jdk_52_method_21_code 32 = .ok (.iinc 1 1, 3) := by decide +kernel
theorem d36_35 : decode jdk_52_method_21_code 35 = .ok (.iinc 3 1, 3) := by decide +kernel
theorem d36_38 : decode jdk_52_method_21_code 38 = .ok (.iinc 5 1, 3) := by decide +kernel
theorem d36_41 : decode jdk_52_method_21_code 41 = .ok (.goto (-38), 3) := by decide +kernel
theorem d36_44 : decode jdk_52_method_21_code 44 = .ok (.iload 4, 2) := by decide +kernel
theorem d36_46 : decode jdk_52_method_21_code 46 = .ok (.ireturn, 1) := by decide +kernel
theorem pn_36 : plainName "java/lang/StringUTF16" = true := by first | (simp [plainName, overriddenIn]; done) | decide +kernel
set_option maxHeartbeats 4000000 in
theorem ef_rmC5_1 (m : MethodId) {ca : Addr} {ba : Addr} : entryFrame m #[(.ref ca), (.int (0 : Int32)), (.ref ba), (.int (0 : Int32)), (.int (1 : Int32))] 7 = mkF m 0 #[vr ca, vi (0 : Int32), vr ba, vi (0 : Int32), vi (1 : Int32), .unset, .unset] [] := by first | (simp [entryFrame, mkF, argsToLocals, Value.category]; done) | rfl
def QrmC5_1 (Z : State) (vcs : Int32) (vfm : Value) (ca : Addr) (ba : Addr) (kc : ClassId) (kb : ClassId) (c0 : Int32) (h0 : Heap) (n0 : Nat) (v : Option Value) (h : Heap) (L : List Loc) : Prop := (v = some (.int (1 : Int32))) ∧ (Fr n0 L) ∧ (Keep h0 h [ba]) ∧ (Arv Z h ba kb .byte (1 : Int32) [(.int (c0.toInt8.toInt32))] (.int (0 : Int32)))
set_option maxRecDepth 65536 in
set_option maxHeartbeats 40000000 in
theorem rmC5_1 (l : Launch) (Z : State) (a0 : Array Value) (hw : ∀ d ∈ tables_1, d.before a0 Z = true) (ws : List Jvm.Cond) (vcs : Int32) (vfm : Value) (G : Gh Z vcs vfm) (ca : Addr) (ba : Addr) (kc : ClassId) (kb : ClassId) (c0 : Int32) (h0 : Heap) (n0 : Nat) (O0 : Old Z n0 h0) (VC : Arv Z h0 ca kc .char (1 : Int32) [(.int c0)] (.int (0 : Int32))) (VB : Arv Z h0 ba kb .byte (1 : Int32) [(.int (0 : Int32))] (.int (0 : Int32))) (g_ba : n0 ≤ ba) (hne : ca ≠ ba) (hb0 : ¬ ((255 : Int32) < c0)) :
    MetFree l (⟨"java/lang/StringUTF16", "compress", "([CI[BII)I"⟩ : MethodName) (head1 (Jvm.Cond.code (⟨"java/lang/StringUTF16", "compress", "([CI[BII)I"⟩ : MethodName) jdk_52_method_21_code 7 (some .int) :: ws) ({ frames := 0, cells := 0, slots := 0, locals := 0 } : Room)) (fun aa' UU' => aa' = #[(.ref ca), (.int (0 : Int32)), (.ref ba), (.int (0 : Int32)), (.int (1 : Int32))] ∧ Z.Warmed39 UU'.vm ∧ UU'.heap = h0) (fun _ _ _ _ _ => True) (fun _ UU' oo' VV' => ∃ v' L', oo' = .returned v' ∧ QrmC5_1 Z vcs vfm ca ba kc kb c0 h0 n0 v' VV'.heap L' ∧ FrameEnd UU' oo' VV' L' ({ frames := 0, cells := 0, slots := 0, locals := 0 } : Room).cells ({ frames := 0, cells := 0, slots := 0, locals := 0 } : Room).slots) := by
  refine MetFree.of_bodySF (plainFor_of_name pn_36) hisR ?_
  intro p e s m args below meth c s₁ Bd hml0 hP hK
  obtain ⟨rfl, hZ, hh⟩ := hP
  have hx := Bd.exec
  have hby := Bd.bytes
  have hlk := Bd.notSynchronized
  have hml : c.maxLocals = 7 := hml0
  have hown : s.vm.findClass "java/lang/StringUTF16" = some m.cls := findClass_of_methodNamed Bd.named
  have hnm := (name_of_methodNamed Bd.named Bd.method).1
  have hret := Bd.returns
  have X0 : Stand p l e ({ frames := 0, cells := 0, slots := 0, locals := 0 } : Room) s m #[(.ref ca), (.int (0 : Int32)), (.ref ba), (.int (0 : Int32)), (.int (1 : Int32))] below meth c s₁ [] 0 0 := Stand.of_body Bd
  have e0 : s₁.heap = h0 := by rw [← hh, Bd.state]; rfl
  have N0 := Fr.nil n0
  have KC0 : Keep h0 h0 [ba] := Keep.refl _ _
  refine Go.body ?_
  obtain ⟨Pf, hPf⟩ : ∃ P, P = Fin' s below ({ frames := 0, cells := 0, slots := 0, locals := 0 } : Room).cells ({ frames := 0, cells := 0, slots := 0, locals := 0 } : Room).slots (QrmC5_1 Z vcs vfm ca ba kc kb c0 h0 n0) := ⟨_, rfl⟩
  rw [← hPf]
  refine Go.cast (ef_rmC5_1 m) ?_
  show Go p.tables e below Pf (s₁.setTop (mkF m 0 #[vr ca, vi (0 : Int32), vr ba, vi (0 : Int32), vi (1 : Int32), .unset, .unset] []))
  refine Go.by' (fun t k => (XS.iconst X0.here hx rfl (hb hby d36_0) (XS.istore X0.here hx rfl (hb hby d36_1) rfl (l' := #[vr ca, vi (0 : Int32), vr ba, vi (0 : Int32), vi (1 : Int32), vi (0 : Int32), .unset]) rfl (XS.iload X0.here hx rfl (hb hby d36_3) rfl (XS.iload X0.here hx rfl (hb hby d36_5) rfl (XS.icmpNo X0.here hx rfl (hb hby d36_7) rfl (tlt (by decide)).2.1 (XS.aloadN X0.here hx rfl (hb hby d36_10) rfl rfl (XS.iloadN X0.here hx rfl (hb hby d36_11) rfl k)))))))) ?_
  obtain ⟨cl1, Ar1, q1, S1, P1, H1, G1⟩ := (id VC)
  have hin1 : ¬ ((0 : Int32) < 0 ∨ cl1.slots.size ≤ ((0 : Int32)).toNatClampNeg) := inb_of S1 ⟨by decide, by decide⟩
  show Go p.tables e below Pf (s₁.setTop (mkF m 12 #[vr ca, vi (0 : Int32), vr ba, vi (0 : Int32), vi (1 : Int32), vi (0 : Int32), .unset] [(.int (0 : Int32)), (.ref ca)]))
  refine Go.by' (fun t k => (X0.caload hx (j := (0 : Int32)) (v := (.int c0)) (by rw [e0]; exact Ar1.1) (State.isArrayOf_alike hZ.alike Ar1.2.1) Ar1.2.2 hin1 (H1.at hin1 rfl) (g := (mkF m 12 #[vr ca, vi (0 : Int32), vr ba, vi (0 : Int32), vi (1 : Int32), vi (0 : Int32), .unset] [(.int (0 : Int32)), (.ref ca)])) rfl rfl (hb hby d36_12) t (XS.istore X0.here hx rfl (hb hby d36_13) rfl (l' := #[vr ca, vi (0 : Int32), vr ba, vi (0 : Int32), vi (1 : Int32), vi (0 : Int32), vi c0]) rfl (XS.iload X0.here hx rfl (hb hby d36_15) rfl (XS.sipush X0.here hx rfl (hb hby d36_17) (XS.icmpYes X0.here hx rfl (pc0 := 20) (pc' := 26) rfl (hb hby d36_20) rfl (flt hb0).2.2.2 (by decide) (by decide) (XS.aloadN X0.here hx rfl (hb hby d36_26) rfl rfl (XS.iloadN X0.here hx rfl (hb hby d36_27) rfl (XS.iload X0.here hx rfl (hb hby d36_28) rfl k))))))))) ?_
  show Go p.tables e below Pf (s₁.setTop (mkF m 30 #[vr ca, vi (0 : Int32), vr ba, vi (0 : Int32), vi (1 : Int32), vi (0 : Int32), vi c0] [(.int c0), (.int (0 : Int32)), (.ref ba)]))
  refine Go.by' (fun t k => (XS.i2b X0.here hx rfl (hb hby d36_30) rfl k)) ?_
  obtain ⟨cl2, Ar2, q2, S2, P2, H2, G2⟩ := (id VB)
  have hin2 : ¬ ((0 : Int32) < 0 ∨ cl2.slots.size ≤ ((0 : Int32)).toNatClampNeg) := inb_of S2 ⟨by decide, by decide⟩
  obtain ⟨T3, h3, X3, e3, W3, st3⟩ := stB X0 hx hZ e0 Ar2 (j := (0 : Int32)) hin2 (g := (mkF m 31 #[vr ca, vi (0 : Int32), vr ba, vi (0 : Int32), vi (1 : Int32), vi (0 : Int32), vi c0] [(.int (c0.toInt8.toInt32)), (.int (0 : Int32)), (.ref ba)])) rfl rfl (hb hby d36_31)
  refine Go.by' st3 ?_
  rw [own_bb] at W3
  have V3 : Arv Z h3 ba kb .byte (1 : Int32) [(.int (c0.toInt8.toInt32))] (Value.int (0 : Int32)) := Arv.set Ar2 q2 S2 P2 H2 G2 (fits_nar_byte _) W3 0 rfl (Nat.le_of_ble_eq_true rfl)
  have N3 := Fr.snoc X3 N0 g_ba
  obtain ⟨lc3, X3, N3⟩ := own_pack X3 N3
  have O3 := O0.wr W3 g_ba
  have KC3 : Keep h0 h3 [ba] := KC0.wr W3 (Or.inl (List.mem_of_getElem? (i := 0) rfl))
  show Go p.tables e below Pf (T3.setTop (mkF m 32 #[vr ca, vi (0 : Int32), vr ba, vi (0 : Int32), vi (1 : Int32), vi (0 : Int32), vi c0] []))
  refine Go.by' (fun t k => (XS.iinc X3.here hx rfl (hb hby d36_32) rfl (l' := #[vr ca, vi ((0 : Int32) + (1 : Int32)), vr ba, vi (0 : Int32), vi (1 : Int32), vi (0 : Int32), vi c0]) rfl k)) ?_
  show Go p.tables e below Pf (T3.setTop (mkF m 35 #[vr ca, vi ((0 : Int32) + (1 : Int32)), vr ba, vi (0 : Int32), vi (1 : Int32), vi (0 : Int32), vi c0] []))
  refine Go.castF (a := ((0 : Int32) + (1 : Int32))) (b := (1 : Int32)) (fun z' : Int32 => mkF m 35 #[vr ca, vi z', vr ba, vi (0 : Int32), vi (1 : Int32), vi (0 : Int32), vi c0] []) (by decide) ?_
  show Go p.tables e below Pf (T3.setTop (mkF m 35 #[vr ca, vi (1 : Int32), vr ba, vi (0 : Int32), vi (1 : Int32), vi (0 : Int32), vi c0] []))
  refine Go.by' (fun t k => (XS.iinc X3.here hx rfl (hb hby d36_35) rfl (l' := #[vr ca, vi (1 : Int32), vr ba, vi ((0 : Int32) + (1 : Int32)), vi (1 : Int32), vi (0 : Int32), vi c0]) rfl k)) ?_
  show Go p.tables e below Pf (T3.setTop (mkF m 38 #[vr ca, vi (1 : Int32), vr ba, vi ((0 : Int32) + (1 : Int32)), vi (1 : Int32), vi (0 : Int32), vi c0] []))
  refine Go.castF (a := ((0 : Int32) + (1 : Int32))) (b := (1 : Int32)) (fun z' : Int32 => mkF m 38 #[vr ca, vi (1 : Int32), vr ba, vi z', vi (1 : Int32), vi (0 : Int32), vi c0] []) (by decide) ?_
  show Go p.tables e below Pf (T3.setTop (mkF m 38 #[vr ca, vi (1 : Int32), vr ba, vi (1 : Int32), vi (1 : Int32), vi (0 : Int32), vi c0] []))
  refine Go.by' (fun t k => (XS.iinc X3.here hx rfl (hb hby d36_38) rfl (l' := #[vr ca, vi (1 : Int32), vr ba, vi (1 : Int32), vi (1 : Int32), vi ((0 : Int32) + (1 : Int32)), vi c0]) rfl k)) ?_
  show Go p.tables e below Pf (T3.setTop (mkF m 41 #[vr ca, vi (1 : Int32), vr ba, vi (1 : Int32), vi (1 : Int32), vi ((0 : Int32) + (1 : Int32)), vi c0] []))
  refine Go.castF (a := ((0 : Int32) + (1 : Int32))) (b := (1 : Int32)) (fun z' : Int32 => mkF m 41 #[vr ca, vi (1 : Int32), vr ba, vi (1 : Int32), vi (1 : Int32), vi z', vi c0] []) (by decide) ?_
  show Go p.tables e below Pf (T3.setTop (mkF m 41 #[vr ca, vi (1 : Int32), vr ba, vi (1 : Int32), vi (1 : Int32), vi (1 : Int32), vi c0] []))
  refine Go.by' (fun t k => (XS.goto X3.here hx rfl (pc0 := 41) (pc' := 3) rfl (hb hby d36_41) (by decide) (by decide) (XS.iload X3.here hx rfl (hb hby d36_3) rfl (XS.iload X3.here hx rfl (hb hby d36_5) rfl (XS.icmpYes X3.here hx rfl (pc0 := 7) (pc' := 44) rfl (hb hby d36_7) rfl (flt (by decide)).2.1 (by decide) (by decide) (XS.iload X3.here hx rfl (hb hby d36_44) rfl k)))))) ?_
  show Go p.tables e below Pf (T3.setTop (mkF m 46 #[vr ca, vi (1 : Int32), vr ba, vi (1 : Int32), vi (1 : Int32), vi (1 : Int32), vi c0] [(.int (1 : Int32))]))
  rw [hPf]
  exact Go.retI' X3 hx hret hlk (by simp) rfl (hb hby d36_46) (by decide) (by decide) ⟨rfl, N3, (by rw [e3]; exact KC3), (by rw [e3]; exact V3)⟩
theorem d35_0 : decode jdk_52_method_16_code 0 = .ok (.iload_n 2, 1) := by decide +kernel
theorem d35_1 : decode jdk_52_method_16_code 1 = .ok (.newarray .byte, 2) := by decide +kernel
theorem d35_3 : decode jdk_52_method_16_code 3 = .ok (.astore_n 3, 1) := by decide +kernel
theorem d35_4 : decode jdk_52_method_16_code 4 = .ok (.aload_n 0, 1) := by decide +kernel
theorem d35_5 : decode jdk_52_method_16_code 5 = .ok (.iload_n 1, 1) := by decide +kernel
theorem d35_6 : decode jdk_52_method_16_code 6 = .ok (.aload_n 3, 1) := by decide +kernel
theorem d35_7 : decode jdk_52_method_16_code 7 = .ok (.iconst 0, 1) := by decide +kernel
theorem d35_8 : decode jdk_52_method_16_code 8 = .ok (.iload_n 2, 1) := by decide +kernel
theorem d35_9 : decode jdk_52_method_16_code 9 = .ok (.invokestatic 115, 3) := by decide +kernel
theorem pd_0 : parseMethodDescriptor "([CI[BII)I" = some ⟨[(.array .char), .int, (.array .byte), .int, .int], some .int⟩ := by decide +kernel
theorem d35_12 : decode jdk_52_method_16_code 12 = .ok (.istore 4, 2) := by decide +kernel
theorem d35_14 : decode jdk_52_method_16_code 14 = .ok (.iload 4, 2) := by decide +kernel
theorem d35_16 : decode jdk_52_method_16_code 16 = .ok (.iload_n 2, 1) := by decide +kernel
theorem d35_17 : decode jdk_52_method_16_code 17 = .ok (.if_icmp .eq 40, 3) := by decide +kernel
theorem d35_57 : decode jdk_52_method_16_code 57 = .ok (.aload_n 3, 1) := by decide +kernel
theorem d35_58 : decode jdk_52_method_16_code 58 = .ok (.areturn, 1) := by decide +kernel
theorem pn_35 : plainName "java/lang/StringUTF16" = true := by first | (simp [plainName, overriddenIn]; done) | decide +kernel
set_option maxHeartbeats 4000000 in
theorem ef_rmC3_1 (m : MethodId) {ca : Addr} : entryFrame m #[(.ref ca), (.int (0 : Int32)), (.int (1 : Int32))] 6 = mkF m 0 #[vr ca, vi (0 : Int32), vi (1 : Int32), .unset, .unset, .unset] [] := by first | (simp [entryFrame, mkF, argsToLocals, Value.category]; done) | rfl
def QrmC3_1 (Z : State) (vcs : Int32) (vfm : Value) (ca : Addr) (kc : ClassId) (c0 : Int32) (h0 : Heap) (n0 : Nat) (v : Option Value) (h : Heap) (L : List Loc) : Prop := ∃ (rb : Addr) (kb : ClassId), (v = some (.ref rb)) ∧ (Fr n0 L) ∧ (Keep h0 h []) ∧ (Arv Z h rb kb .byte (1 : Int32) [(.int (c0.toInt8.toInt32))] (.int (0 : Int32))) ∧ (h0.size ≤ rb)
set_option maxRecDepth 65536 in
set_option maxHeartbeats 40000000 in
theorem rmC3_1 (l : Launch) (Z : State) (a0 : Array Value) (hw : ∀ d ∈ tables_1, d.before a0 Z = true) (ws : List Jvm.Cond) (vcs : Int32) (vfm : Value) (G : Gh Z vcs vfm) (ca : Addr) (kc : ClassId) (c0 : Int32) (h0 : Heap) (n0 : Nat) (O0 : Old Z n0 h0) (VC : Arv Z h0 ca kc .char (1 : Int32) [(.int c0)] (.int (0 : Int32))) (hb0 : ¬ ((255 : Int32) < c0)) :
    MetFree l (⟨"java/lang/StringUTF16", "compress", "([CII)[B"⟩ : MethodName) (head1 (Jvm.Cond.code (⟨"java/lang/StringUTF16", "compress", "([CII)[B"⟩ : MethodName) jdk_52_method_16_code 6 (some (.array .byte)) :: ws) ({ frames := 1, cells := 1, slots := 1, locals := 18 } : Room)) (fun aa' UU' => aa' = #[(.ref ca), (.int (0 : Int32)), (.int (1 : Int32))] ∧ Z.Warmed39 UU'.vm ∧ UU'.heap = h0) (fun _ _ _ _ _ => True) (fun _ UU' oo' VV' => ∃ v' L', oo' = .returned v' ∧ QrmC3_1 Z vcs vfm ca kc c0 h0 n0 v' VV'.heap L' ∧ FrameEnd UU' oo' VV' L' ({ frames := 1, cells := 1, slots := 1, locals := 18 } : Room).cells ({ frames := 1, cells := 1, slots := 1, locals := 18 } : Room).slots) := by
  refine MetFree.of_bodySF (plainFor_of_name pn_35) hisR ?_
  intro p e s m args below meth c s₁ Bd hml0 hP hK
  obtain ⟨rfl, hZ, hh⟩ := hP
  have hx := Bd.exec
  have hby := Bd.bytes
  have hlk := Bd.notSynchronized
  have hml : c.maxLocals = 6 := hml0
  have hown : s.vm.findClass "java/lang/StringUTF16" = some m.cls := findClass_of_methodNamed Bd.named
  have hnm := (name_of_methodNamed Bd.named Bd.method).1
  have hret := Bd.returns
  have X0 : Stand p l e ({ frames := 1, cells := 1, slots := 1, locals := 18 } : Room) s m #[(.ref ca), (.int (0 : Int32)), (.int (1 : Int32))] below meth c s₁ [] 0 0 := Stand.of_body Bd
  have e0 : s₁.heap = h0 := by rw [← hh, Bd.state]; rfl
  have N0 := Fr.nil n0
  have KC0 : Keep h0 h0 [] := Keep.refl _ _
  refine Go.body ?_
  obtain ⟨Pf, hPf⟩ : ∃ P, P = Fin' s below ({ frames := 1, cells := 1, slots := 1, locals := 18 } : Room).cells ({ frames := 1, cells := 1, slots := 1, locals := 18 } : Room).slots (QrmC3_1 Z vcs vfm ca kc c0 h0 n0) := ⟨_, rfl⟩
  rw [← hPf]
  refine Go.cast (ef_rmC3_1 m) ?_
  have hw20 := (hw _ (List.mem_of_getElem? (i := 20) rfl))
  have hw188 := (hw _ (List.mem_of_getElem? (i := 188) rfl))
  have hw190 := (hw _ (List.mem_of_getElem? (i := 190) rfl))
  have hw191 := (hw _ (List.mem_of_getElem? (i := 191) rfl))
  have hw192 := (hw _ (List.mem_of_getElem? (i := 192) rfl))
  show Go p.tables e below Pf (s₁.setTop (mkF m 0 #[vr ca, vi (0 : Int32), vi (1 : Int32), .unset, .unset, .unset] []))
  refine Go.by' (fun t k => (XS.iloadN X0.here hx rfl (hb hby d35_0) rfl k)) ?_
  obtain ⟨T4, h4, k4, X4, e4, E4, A4, st4⟩ := newP (aty := .byte) X0 hx hZ hw20 e0 (g := (mkF m 1 #[vr ca, vi (0 : Int32), vi (1 : Int32), .unset, .unset, .unset] [(.int (1 : Int32))])) rfl (hb hby d35_1) rfl (by decide) (cap := 1) (by decide) (by decide) (by decide) (by decide)
  obtain ⟨b4, g4⟩ : ∃ z, z = h0.size := ⟨_, rfl⟩
  rw [← g4] at A4 st4
  refine Go.by' st4 ?_
  have g_b4 : n0 ≤ b4 := Nat.le_trans (own_le O0) (Nat.le_of_eq g4.symm)
  have sz_b4 : h0.size ≤ b4 := Nat.le_trans KC0.1 (Nat.le_of_eq g4.symm)
  have O4 := O0.ext E4
  have KC4 : Keep h0 h4 [] := KC0.ext E4
  have V4 : Arv Z h4 b4 k4 .byte (1 : Int32) [(.int (0 : Int32))] (Value.int (0 : Int32)) := (Arv.new A4 (by decide)).pad (pad_rep [] (Value.int (0 : Int32)) 1)
  show Go p.tables e below Pf (T4.setTop (mkF m 3 #[vr ca, vi (0 : Int32), vi (1 : Int32), .unset, .unset, .unset] [(.ref b4)]))
  refine Go.by' (fun t k => (XS.astoreN X4.here hx rfl (hb hby d35_3) rfl rfl (l' := #[vr ca, vi (0 : Int32), vi (1 : Int32), vr b4, .unset, .unset]) rfl (XS.aloadN X4.here hx rfl (hb hby d35_4) rfl rfl (XS.iloadN X4.here hx rfl (hb hby d35_5) rfl (XS.aloadN X4.here hx rfl (hb hby d35_6) rfl rfl (XS.iconst X4.here hx rfl (hb hby d35_7) (XS.iloadN X4.here hx rfl (hb hby d35_8) rfl k))))))) ?_
  obtain ⟨_, _, ⟨T5, L5, k5, n5⟩, -, X5, ⟨Lc5, hQ5, l5, y5, z5⟩, st5⟩ := Jvm.LawKit.callS X4 hx (y := (⟨"java/lang/StringUTF16", "compress", "([CI[BII)I"⟩ : MethodName)) hown (mvT hZ hw190) (mvT hZ hw191) (mvT hZ hw188) (mvT hZ hw192) (by decide) (backOf (W := 0) (rmC5_1 l Z a0 hw [] vcs vfm G ca b4 kc k4 c0 h4 n0 O4 (VC.ext E4) V4 g_b4 (Nat.ne_of_lt (Nat.lt_of_lt_of_le VC.lt (Nat.le_of_eq g4.symm))) hb0) hZ hw192 hw188 (by decide) (by decide)) (g := (mkF m 9 #[vr ca, vi (0 : Int32), vi (1 : Int32), vr b4, .unset, .unset] [(.int (1 : Int32)), (.int (0 : Int32)), (.ref b4), (.int (0 : Int32)), (.ref ca)])) rfl (by rw [hml]; rfl) (argsL := [(.ref ca), (.int (0 : Int32)), (.ref b4), (.int (0 : Int32)), (.int (1 : Int32))]) (rest := []) (lenOf pd_0 rfl) rfl (by show 2 * 0 + _ ≤ _; exact Nat.le_of_eq rfl) (hb hby d35_9) (fun _ _ => ⟨rfl, e4, (by decide : 1 + 0 ≤ _), (by decide : 1 + 0 ≤ _)⟩)
  dsimp only [Pt.U, Pt.locs, Pt.cells, Pt.slots] at X5 l5 y5 z5 st5 hQ5
  subst l5 y5 z5
  obtain ⟨rfl, N5q, K5, f5_0⟩ := hQ5
  have N5 := Fr.app N0 N5q
  obtain ⟨lc5, X5, N5⟩ := own_pack X5 N5
  refine Go.by' st5 ?_
  have O5 := O4.keep K5 (allS g_b4 all0)
  have KC5 : Keep h0 T5.heap [] := KC4.trans K5 (allS (Or.inr sz_b4) all0)
  show Go p.tables e below Pf (T5.setTop (mkF m 12 #[vr ca, vi (0 : Int32), vi (1 : Int32), vr b4, .unset, .unset] [(.int (1 : Int32))]))
  refine Go.by' (fun t k => (XS.istore X5.here hx rfl (hb hby d35_12) rfl (l' := #[vr ca, vi (0 : Int32), vi (1 : Int32), vr b4, vi (1 : Int32), .unset]) rfl (XS.iload X5.here hx rfl (hb hby d35_14) rfl (XS.iloadN X5.here hx rfl (hb hby d35_16) rfl (XS.icmpYes X5.here hx rfl (pc0 := 17) (pc' := 57) rfl (hb hby d35_17) rfl (teq (by decide)).1 (by decide) (by decide) (XS.aloadN X5.here hx rfl (hb hby d35_57) rfl rfl k)))))) ?_
  show Go p.tables e below Pf (T5.setTop (mkF m 58 #[vr ca, vi (0 : Int32), vi (1 : Int32), vr b4, vi (1 : Int32), .unset] [(.ref b4)]))
  rw [hPf]
  exact Go.retA' X5 hx hret hlk rfl rfl (hb hby d35_58) (by decide) (by decide) ⟨b4, k4, rfl, N5, KC5, f5_0, sz_b4⟩
theorem d37_0 : decode jdk_52_method_15_code 0 = .ok (.iload_n 1, 1) := by decide +kernel
theorem d37_1 : decode jdk_52_method_15_code 1 = .ok (.aload_n 0, 1) := by decide +kernel
theorem d37_2 : decode jdk_52_method_15_code 2 = .ok (.arraylength, 1) := by decide +kernel
theorem d37_3 : decode jdk_52_method_15_code 3 = .ok (.isub, 1) := by decide +kernel
theorem d37_4 : decode jdk_52_method_15_code 4 = .ok (.bipush 31, 2) := by decide +kernel
theorem d37_6 : decode jdk_52_method_15_code 6 = .ok (.iushr, 1) := by decide +kernel
theorem d37_7 : decode jdk_52_method_15_code 7 = .ok (.i2b, 1) := by decide +kernel
theorem d37_8 : decode jdk_52_method_15_code 8 = .ok (.ireturn, 1) := by decide +kernel
theorem pn_37 : plainName "java/lang/StringUTF16" = true := by first | (simp [plainName, overriddenIn]; done) | decide +kernel
set_option maxHeartbeats 4000000 in
theorem ef_rmCL_1 (m : MethodId) {ba : Addr} : entryFrame m #[(.ref ba), (.int (1 : Int32))] 2 = mkF m 0 #[vr ba, vi (1 : Int32)] [] := by first | (simp [entryFrame, mkF, argsToLocals, Value.category]; done) | rfl
def QrmCL_1 (Z : State) (vcs : Int32) (vfm : Value) (ba : Addr) (kb : ClassId) (x0 : Value) (h0 : Heap) (n0 : Nat) (v : Option Value) (h : Heap) (L : List Loc) : Prop := (v = some (.int (0 : Int32))) ∧ (L = []) ∧ (h = h0)
set_option maxRecDepth 65536 in
set_option maxHeartbeats 40000000 in
theorem rmCL_1 (l : Launch) (Z : State) (a0 : Array Value) (hw : ∀ d ∈ tables_1, d.before a0 Z = true) (ws : List Jvm.Cond) (vcs : Int32) (vfm : Value) (G : Gh Z vcs vfm) (ba : Addr) (kb : ClassId) (x0 : Value) (h0 : Heap) (n0 : Nat) (O0 : Old Z n0 h0) (VB : Arv Z h0 ba kb .byte (1 : Int32) [x0] (.int (0 : Int32))) :
    MetFree l (⟨"java/lang/StringUTF16", "coderFromArrayLen", "([BI)B"⟩ : MethodName) (head1 (Jvm.Cond.code (⟨"java/lang/StringUTF16", "coderFromArrayLen", "([BI)B"⟩ : MethodName) jdk_52_method_15_code 2 (some .byte) :: ws) ({ frames := 0, cells := 0, slots := 0, locals := 0 } : Room)) (fun aa' UU' => aa' = #[(.ref ba), (.int (1 : Int32))] ∧ Z.Warmed39 UU'.vm ∧ UU'.heap = h0) (fun _ _ _ _ _ => True) (fun _ UU' oo' VV' => ∃ v' L', oo' = .returned v' ∧ QrmCL_1 Z vcs vfm ba kb x0 h0 n0 v' VV'.heap L' ∧ FrameEnd UU' oo' VV' L' ({ frames := 0, cells := 0, slots := 0, locals := 0 } : Room).cells ({ frames := 0, cells := 0, slots := 0, locals := 0 } : Room).slots) := by
  refine MetFree.of_bodySF (plainFor_of_name pn_37) hisR ?_
  intro p e s m args below meth c s₁ Bd hml0 hP hK
  obtain ⟨rfl, hZ, hh⟩ := hP
  have hx := Bd.exec
  have hby := Bd.bytes
  have hlk := Bd.notSynchronized
  have hml : c.maxLocals = 2 := hml0
  have hown : s.vm.findClass "java/lang/StringUTF16" = some m.cls := findClass_of_methodNamed Bd.named
  have hnm := (name_of_methodNamed Bd.named Bd.method).1
  have hret := Bd.returns
  have X0 : Stand p l e ({ frames := 0, cells := 0, slots := 0, locals := 0 } : Room) s m #[(.ref ba), (.int (1 : Int32))] below meth c s₁ [] 0 0 := Stand.of_body Bd
  have e0 : s₁.heap = h0 := by rw [← hh, Bd.state]; rfl
  have N0 := Fr.nil n0
  refine Go.body ?_
  obtain ⟨Pf, hPf⟩ : ∃ P, P = Fin' s below ({ frames := 0, cells := 0, slots := 0, locals := 0 } : Room).cells ({ frames := 0, cells := 0, slots := 0, locals := 0 } : Room).slots (QrmCL_1 Z vcs vfm ba kb x0 h0 n0) := ⟨_, rfl⟩
  rw [← hPf]
  refine Go.cast (ef_rmCL_1 m) ?_
  show Go p.tables e below Pf (s₁.setTop (mkF m 0 #[vr ba, vi (1 : Int32)] []))
  refine Go.by' (fun t k => (XS.iloadN X0.here hx rfl (hb hby d37_0) rfl (XS.aloadN X0.here hx rfl (hb hby d37_1) rfl rfl k))) ?_
  obtain ⟨cl6, Ar6, -, S6, P6, -, -⟩ := (id VB)
  show Go p.tables e below Pf (s₁.setTop (mkF m 2 #[vr ba, vi (1 : Int32)] [(.ref ba), (.int (1 : Int32))]))
  refine Go.by' (fun t k => (X0.arraylength hx (by rw [e0]; exact Ar6.1) (State.isArrayOf_alike hZ.alike Ar6.2.1) (g := (mkF m 2 #[vr ba, vi (1 : Int32)] [(.ref ba), (.int (1 : Int32))])) rfl rfl (hb hby d37_2) t k)) ?_
  rw [len_of S6 P6]
  show Go p.tables e below Pf (s₁.setTop (mkF m 3 #[vr ba, vi (1 : Int32)] [(.int (1 : Int32)), (.int (1 : Int32))]))
  refine Go.by' (fun t k => (XS.isub X0.here hx rfl (hb hby d37_3) rfl k)) ?_
  show Go p.tables e below Pf (s₁.setTop (mkF m 4 #[vr ba, vi (1 : Int32)] [(.int ((1 : Int32) - (1 : Int32)))]))
  refine Go.castF (a := ((1 : Int32) - (1 : Int32))) (b := (0 : Int32)) (fun z' : Int32 => mkF m 4 #[vr ba, vi (1 : Int32)] [(.int z')]) (by decide) ?_
  show Go p.tables e below Pf (s₁.setTop (mkF m 4 #[vr ba, vi (1 : Int32)] [(.int (0 : Int32))]))
  refine Go.by' (fun t k => (XS.bipush X0.here hx rfl (hb hby d37_4) (XS.iushr X0.here hx rfl (hb hby d37_6) rfl k))) ?_
  show Go p.tables e below Pf (s₁.setTop (mkF m 7 #[vr ba, vi (1 : Int32)] [(.int (((0 : Int32).toUInt32 >>> ((31 : Int32) &&& 31).toUInt32).toInt32))]))
  refine Go.castF (a := (((0 : Int32).toUInt32 >>> ((31 : Int32) &&& 31).toUInt32).toInt32)) (b := (0 : Int32)) (fun z' : Int32 => mkF m 7 #[vr ba, vi (1 : Int32)] [(.int z')]) (by decide) ?_
  show Go p.tables e below Pf (s₁.setTop (mkF m 7 #[vr ba, vi (1 : Int32)] [(.int (0 : Int32))]))
  refine Go.by' (fun t k => (XS.i2b X0.here hx rfl (hb hby d37_7) rfl k)) ?_
  show Go p.tables e below Pf (s₁.setTop (mkF m 8 #[vr ba, vi (1 : Int32)] [(.int ((0 : Int32).toInt8.toInt32))]))
  refine Go.castF (a := ((0 : Int32).toInt8.toInt32)) (b := (0 : Int32)) (fun z' : Int32 => mkF m 8 #[vr ba, vi (1 : Int32)] [(.int z')]) (by decide) ?_
  show Go p.tables e below Pf (s₁.setTop (mkF m 8 #[vr ba, vi (1 : Int32)] [(.int (0 : Int32))]))
  rw [hPf]
  exact Go.retI' X0 hx hret hlk (by simp) rfl (hb hby d37_8) (by decide) (by decide) ⟨rfl, rfl, e0⟩
theorem d3_0 : decode jdk_42_method_149_code 0 = .ok (.aload_n 0, 1) := by decide +kernel
theorem d3_1 : decode jdk_42_method_149_code 1 = .ok (.invokespecial 1, 3) := by decide +kernel
theorem d3_4 : decode jdk_42_method_149_code 4 = .ok (.iload_n 3, 1) := by decide +kernel
theorem d3_5 : decode jdk_42_method_149_code 5 = .ok (.ifCond .ne 22, 3) := by decide +kernel
theorem d3_27 : decode jdk_42_method_149_code 27 = .ok (.getstatic 38, 3) := by decide +kernel
theorem d3_30 : decode jdk_42_method_149_code 30 = .ok (.ifCond .eq 28, 3) := by decide +kernel
theorem d3_33 : decode jdk_42_method_149_code 33 = .ok (.aload_n 1, 1) := by decide +kernel
theorem d3_34 : decode jdk_42_method_149_code 34 = .ok (.iload_n 2, 1) := by decide +kernel
theorem d3_35 : decode jdk_42_method_149_code 35 = .ok (.iload_n 3, 1) := by decide +kernel
theorem d3_36 : decode jdk_42_method_149_code 36 = .ok (.invokestatic 177, 3) := by decide +kernel
theorem pd_1 : parseMethodDescriptor "([CII)[B" = some ⟨[(.array .char), .int, .int], some (.array .byte)⟩ := by decide +kernel
theorem d3_39 : decode jdk_42_method_149_code 39 = .ok (.astore 5, 2) := by decide +kernel
theorem d3_41 : decode jdk_42_method_149_code 41 = .ok (.aload_n 0, 1) := by decide +kernel
theorem d3_42 : decode jdk_42_method_149_code 42 = .ok (.aload 5, 2) := by decide +kernel
theorem d3_44 : decode jdk_42_method_149_code 44 = .ok (.iload_n 3, 1) := by decide +kernel
theorem d3_45 : decode jdk_42_method_149_code 45 = .ok (.invokestatic 47, 3) := by decide +kernel
theorem pd_2 : parseMethodDescriptor "([BI)B" = some ⟨[(.array .byte), .int], some .byte⟩ := by decide +kernel
theorem d3_48 : decode jdk_42_method_149_code 48 = .ok (.putfield 15, 3) := by decide +kernel
theorem d3_51 : decode jdk_42_method_149_code 51 = .ok (.aload_n 0, 1) := by decide +kernel
theorem d3_52 : decode jdk_42_method_149_code 52 = .ok (.aload 5, 2) := by decide +kernel
theorem d3_54 : decode jdk_42_method_149_code 54 = .ok (.putfield 9, 3) := by decide +kernel
theorem d3_57 : decode jdk_42_method_149_code 57 = .ok (.return_, 1) := by decide +kernel
theorem pn_3 : plainName "java/lang/String" = true := by first | (simp [plainName, overriddenIn]; done) | decide +kernel
set_option maxHeartbeats 4000000 in
theorem ef_rmS4_1 (m : MethodId) {sa : Addr} {ca : Addr} : entryFrame m #[(.ref sa), (.ref ca), (.int (0 : Int32)), (.int (1 : Int32)), .null] 6 = mkF m 0 #[vr sa, vr ca, vi (0 : Int32), vi (1 : Int32), .val .null, .unset] [] := by first | (simp [entryFrame, mkF, argsToLocals, Value.category]; done) | rfl
def QrmS4_1 (Z : State) (vcs : Int32) (vfm : Value) (sa : Addr) (ca : Addr) (kc : ClassId) (c0 : Int32) (h0 : Heap) (n0 : Nat) (v : Option Value) (h : Heap) (L : List Loc) : Prop := ∃ (rb : Addr) (kb : ClassId), (v = none) ∧ (Fr n0 L) ∧ (Keep h0 h [sa]) ∧ (Exa Z h sa "java/lang/String") ∧ (Fld Z h sa "java/lang/String" "value" "[B" (.ref rb)) ∧ (Fld Z h sa "java/lang/String" "coder" "B" (.int (0 : Int32))) ∧ (Arv Z h rb kb .byte (1 : Int32) [(.int (c0.toInt8.toInt32))] (.int (0 : Int32))) ∧ (h0.size ≤ rb)
set_option maxRecDepth 65536 in
set_option maxHeartbeats 40000000 in
theorem rmS4_1 (l : Launch) (Z : State) (a0 : Array Value) (hw : ∀ d ∈ tables_1, d.before a0 Z = true) (ws : List Jvm.Cond) (vcs : Int32) (vfm : Value) (G : Gh Z vcs vfm) (sa : Addr) (ca : Addr) (kc : ClassId) (c0 : Int32) (h0 : Heap) (n0 : Nat) (O0 : Old Z n0 h0) (EX : Exa Z h0 sa "java/lang/String") (FV : Fld Z h0 sa "java/lang/String" "value" "[B" .null) (FC : Fld Z h0 sa "java/lang/String" "coder" "B" (.int (0 : Int32))) (g_sa : n0 ≤ sa) (VC : Arv Z h0 ca kc .char (1 : Int32) [(.int c0)] (.int (0 : Int32))) (hne : sa ≠ ca) (hb0 : ¬ ((255 : Int32) < c0)) :
    MetFree l (⟨"java/lang/String", "<init>", "([CIILjava/lang/Void;)V"⟩ : MethodName) (head1 (Jvm.Cond.code (⟨"java/lang/String", "<init>", "([CIILjava/lang/Void;)V"⟩ : MethodName) jdk_42_method_149_code 6 none :: ws) ({ frames := 2, cells := 1, slots := 1, locals := 35 } : Room)) (fun aa' UU' => aa' = #[(.ref sa), (.ref ca), (.int (0 : Int32)), (.int (1 : Int32)), .null] ∧ Z.Warmed39 UU'.vm ∧ UU'.heap = h0) (fun _ _ _ _ _ => True) (fun _ UU' oo' VV' => ∃ v' L', oo' = .returned v' ∧ QrmS4_1 Z vcs vfm sa ca kc c0 h0 n0 v' VV'.heap L' ∧ FrameEnd UU' oo' VV' L' ({ frames := 2, cells := 1, slots := 1, locals := 35 } : Room).cells ({ frames := 2, cells := 1, slots := 1, locals := 35 } : Room).slots) := by
  refine MetFree.of_bodySF (plainFor_of_name pn_3) hisR ?_
  intro p e s m args below meth c s₁ Bd hml0 hP hK
  obtain ⟨rfl, hZ, hh⟩ := hP
  have hx := Bd.exec
  have hby := Bd.bytes
  have hlk := Bd.notSynchronized
  have hml : c.maxLocals = 6 := hml0
  have hown : s.vm.findClass "java/lang/String" = some m.cls := findClass_of_methodNamed Bd.named
  have hnm := (name_of_methodNamed Bd.named Bd.method).1
  have hret := Bd.returns
  have X0 : Stand p l e ({ frames := 2, cells := 1, slots := 1, locals := 35 } : Room) s m #[(.ref sa), (.ref ca), (.int (0 : Int32)), (.int (1 : Int32)), .null] below meth c s₁ [] 0 0 := Stand.of_body Bd
  have e0 : s₁.heap = h0 := by rw [← hh, Bd.state]; rfl
  have N0 := Fr.nil n0
  have KC0 : Keep h0 h0 [sa] := Keep.refl _ _
  refine Go.body ?_
  obtain ⟨Pf, hPf⟩ : ∃ P, P = Fin' s below ({ frames := 2, cells := 1, slots := 1, locals := 35 } : Room).cells ({ frames := 2, cells := 1, slots := 1, locals := 35 } : Room).slots (QrmS4_1 Z vcs vfm sa ca kc c0 h0 n0) := ⟨_, rfl⟩
  rw [← hPf]
  refine Go.cast (ef_rmS4_1 m) ?_
  have hw6 := (hw _ (List.mem_of_getElem? (i := 6) rfl))
  have hw16 := (hw _ (List.mem_of_getElem? (i := 16) rfl))
  have hw17 := (hw _ (List.mem_of_getElem? (i := 17) rfl))
  have hw18 := (hw _ (List.mem_of_getElem? (i := 18) rfl))
  have hw21 := (hw _ (List.mem_of_getElem? (i := 21) rfl))
  have hw22 := (hw _ (List.mem_of_getElem? (i := 22) rfl))
  have hw25 := (hw _ (List.mem_of_getElem? (i := 25) rfl))
  have hw26 := (hw _ (List.mem_of_getElem? (i := 26) rfl))
  have hw86 := (hw _ (List.mem_of_getElem? (i := 86) rfl))
  have hw186 := (hw _ (List.mem_of_getElem? (i := 186) rfl))
  have hw187 := (hw _ (List.mem_of_getElem? (i := 187) rfl))
  have hw188 := (hw _ (List.mem_of_getElem? (i := 188) rfl))
  have hw189 := (hw _ (List.mem_of_getElem? (i := 189) rfl))
  have hw193 := (hw _ (List.mem_of_getElem? (i := 193) rfl))
  have hw194 := (hw _ (List.mem_of_getElem? (i := 194) rfl))
  have hw195 := (hw _ (List.mem_of_getElem? (i := 195) rfl))
  show Go p.tables e below Pf (s₁.setTop (mkF m 0 #[vr sa, vr ca, vi (0 : Int32), vi (1 : Int32), .val .null, .unset] []))
  refine Go.by' (fun t k => (XS.aloadN X0.here hx rfl (hb hby d3_0) rfl rfl k)) ?_
  obtain ⟨T7, X7, e7, st7⟩ := initO X0 hx hZ hown hw16 hw17 hw18 e0 (g := (mkF m 1 #[vr sa, vr ca, vi (0 : Int32), vi (1 : Int32), .val .null, .unset] [(.ref sa)])) rfl (by rw [hml]; rfl) rfl (hb hby d3_1) (by decide) (W := 0) (by show 2 * 0 + _ ≤ _; exact Nat.le_of_eq rfl) (by decide)
  refine Go.by' st7 ?_
  show Go p.tables e below Pf (T7.setTop (mkF m 4 #[vr sa, vr ca, vi (0 : Int32), vi (1 : Int32), .val .null, .unset] []))
  refine Go.by' (fun t k => (XS.iloadN X7.here hx rfl (hb hby d3_4) rfl (XS.ifYes X7.here hx rfl (pc0 := 5) (pc' := 27) rfl (hb hby d3_5) rfl ((if0 _ _).trans (feq (by decide)).2) (by decide) (by decide) k))) ?_
  obtain ⟨T8, X8, e8, st8⟩ := getS2 X7 hx hZ hown (host := "") (Or.inl hw86) Via.refl e7 (G.1.ext O0.2) (g := (mkF m 27 #[vr sa, vr ca, vi (0 : Int32), vi (1 : Int32), .val .null, .unset] [])) rfl (hb hby d3_27)
  refine Go.by' st8 ?_
  show Go p.tables e below Pf (T8.setTop (mkF m 30 #[vr sa, vr ca, vi (0 : Int32), vi (1 : Int32), .val .null, .unset] [(.int vcs)]))
  refine Go.by' (fun t k => (XS.ifNo X8.here hx rfl (hb hby d3_30) rfl ((if0 _ _).trans (feq G.2.1).1) (XS.aloadN X8.here hx rfl (hb hby d3_33) rfl rfl (XS.iloadN X8.here hx rfl (hb hby d3_34) rfl (XS.iloadN X8.here hx rfl (hb hby d3_35) rfl k))))) ?_
  obtain ⟨_, _, ⟨T9, L9, k9, n9⟩, -, X9, ⟨Lc9, hQ9, l9, y9, z9⟩, st9⟩ := Jvm.LawKit.callS X8 hx (y := (⟨"java/lang/StringUTF16", "compress", "([CII)[B"⟩ : MethodName)) hown (mvT hZ hw186) (mvT hZ hw187) (mvT hZ hw188) (mvT hZ hw189) (by decide) (backOf (W := 0) (rmC3_1 l Z a0 hw [] vcs vfm G ca kc c0 h0 n0 O0 VC hb0) hZ hw189 hw188 (by decide) (by decide)) (g := (mkF m 36 #[vr sa, vr ca, vi (0 : Int32), vi (1 : Int32), .val .null, .unset] [(.int (1 : Int32)), (.int (0 : Int32)), (.ref ca)])) rfl (by rw [hml]; rfl) (argsL := [(.ref ca), (.int (0 : Int32)), (.int (1 : Int32))]) (rest := []) (lenOf pd_1 rfl) rfl (by show 2 * 0 + _ ≤ _; exact Nat.le_of_eq rfl) (hb hby d3_36) (fun _ _ => ⟨rfl, e8, (by decide : 0 + 1 ≤ _), (by decide : 0 + 1 ≤ _)⟩)
  dsimp only [Pt.U, Pt.locs, Pt.cells, Pt.slots] at X9 l9 y9 z9 st9 hQ9
  subst l9 y9 z9
  obtain ⟨rb_9, kb_9, rfl, N9q, K9, f9_0, f9_1⟩ := hQ9
  have N9 := Fr.app N0 N9q
  obtain ⟨lc9, X9, N9⟩ := own_pack X9 N9
  refine Go.by' st9 ?_
  have g_rb_9 : n0 ≤ rb_9 := Nat.le_trans (own_le O0) f9_1
  have sz_rb_9 : h0.size ≤ rb_9 := Nat.le_trans KC0.1 f9_1
  have O9 := O0.keep K9 all0
  have KC9 : Keep h0 T9.heap [sa] := KC0.trans K9 all0
  show Go p.tables e below Pf (T9.setTop (mkF m 39 #[vr sa, vr ca, vi (0 : Int32), vi (1 : Int32), .val .null, .unset] [(.ref rb_9)]))
  refine Go.by' (fun t k => (XS.astore X9.here hx rfl (hb hby d3_39) rfl rfl (l' := #[vr sa, vr ca, vi (0 : Int32), vi (1 : Int32), .val .null, vr rb_9]) rfl (XS.aloadN X9.here hx rfl (hb hby d3_41) rfl rfl (XS.aload X9.here hx rfl (hb hby d3_42) rfl rfl (XS.iloadN X9.here hx rfl (hb hby d3_44) rfl k))))) ?_
  obtain ⟨_, _, ⟨T10, L10, k10, n10⟩, -, X10, ⟨Lc10, hQ10, l10, y10, z10⟩, st10⟩ := Jvm.LawKit.callS X9 hx (y := (⟨"java/lang/StringUTF16", "coderFromArrayLen", "([BI)B"⟩ : MethodName)) hown (mvT hZ hw193) (mvT hZ hw194) (mvT hZ hw188) (mvT hZ hw195) (by decide) (backOf (W := 1) (rmCL_1 l Z a0 hw [] vcs vfm G rb_9 kb_9 ((Value.int (c0.toInt8.toInt32))) T9.heap n0 O9 f9_0) hZ hw195 hw188 (by decide) (by decide)) (g := (mkF m 45 #[vr sa, vr ca, vi (0 : Int32), vi (1 : Int32), .val .null, vr rb_9] [(.int (1 : Int32)), (.ref rb_9), (.ref sa)])) rfl (by rw [hml]; rfl) (argsL := [(.ref rb_9), (.int (1 : Int32))]) (rest := [(.ref sa)]) (lenOf pd_2 rfl) rfl (by show 2 * 0 + _ ≤ _; exact Nat.le_of_eq rfl) (hb hby d3_45) (fun _ _ => ⟨rfl, rfl, (by decide : 1 + 0 ≤ _), (by decide : 1 + 0 ≤ _)⟩)
  dsimp only [Pt.U, Pt.locs, Pt.cells, Pt.slots] at X10 l10 y10 z10 st10 hQ10
  subst l10 y10 z10
  obtain ⟨rfl, rfl, e10⟩ := hQ10
  try replace X10 := own_nil X10
  refine Go.by' st10 ?_
  obtain ⟨T11, h11, X11, e11, W11, st11⟩ := putFN X10 hx hZ hown hw26 Via.refl e10 (FC.keep K9 nin0) (EX.keep K9) (Or.inr ⟨hw22, rfl, hnm⟩) hw6 (ty := .byte) (v' := (.int (0 : Int32))) (by decide) rfl rfl (g := (mkF m 48 #[vr sa, vr ca, vi (0 : Int32), vi (1 : Int32), .val .null, vr rb_9] [(.int (0 : Int32)), (.ref sa)])) rfl rfl (hb hby d3_48)
  refine Go.by' st11 ?_
  have Fw11 : Fld Z h11 sa "java/lang/String" "coder" "B" (Value.int (0 : Int32)) := (FC.keep K9 nin0).same W11
  have N11 := Fr.snoc X11 N9 g_sa
  obtain ⟨lc11, X11, N11⟩ := own_pack X11 N11
  have O11 := O9.wr W11 g_sa
  have KC11 : Keep h0 h11 [sa] := KC9.wr W11 (Or.inl (List.mem_of_getElem? (i := 0) rfl))
  show Go p.tables e below Pf (T11.setTop (mkF m 51 #[vr sa, vr ca, vi (0 : Int32), vi (1 : Int32), .val .null, vr rb_9] []))
  refine Go.by' (fun t k => (XS.aloadN X11.here hx rfl (hb hby d3_51) rfl rfl (XS.aload X11.here hx rfl (hb hby d3_52) rfl rfl k))) ?_
  have c12 := ((EX.keep K9).wr W11)
  have c13 := ((FV.keep K9 nin0).other W11 (Or.inr (slot_ne (Or.inr hw21) (Or.inr hw22) (by decide) (t := (.array .byte)) (t' := .byte) (by decide) (by decide))))
  obtain ⟨T14, h14, X14, e14, W14, st14⟩ := putF X11 hx hZ hown (host := "") (Or.inl hw25) Via.refl e11 c13 c12 (Or.inr ⟨hw21, rfl, hnm⟩) hw6 (ty := (.array .byte)) (by decide) rfl rfl (g := (mkF m 54 #[vr sa, vr ca, vi (0 : Int32), vi (1 : Int32), .val .null, vr rb_9] [(.ref rb_9), (.ref sa)])) rfl rfl (hb hby d3_54)
  refine Go.by' st14 ?_
  have Fw14 : Fld Z h14 sa "java/lang/String" "value" "[B" (Value.ref rb_9) := c13.same W14
  have N14 := Fr.snoc X14 N11 g_sa
  obtain ⟨lc14, X14, N14⟩ := own_pack X14 N14
  have O14 := O11.wr W14 g_sa
  have KC14 : Keep h0 h14 [sa] := KC11.wr W14 (Or.inl (List.mem_of_getElem? (i := 0) rfl))
  have c15 := ((f9_0.other W11 (Ne.symm (Nat.ne_of_lt (Nat.lt_of_lt_of_le EX.lt f9_1)))).other W14 (Ne.symm (Nat.ne_of_lt (Nat.lt_of_lt_of_le EX.lt f9_1))))
  show Go p.tables e below Pf (T14.setTop (mkF m 57 #[vr sa, vr ca, vi (0 : Int32), vi (1 : Int32), .val .null, vr rb_9] []))
  rw [hPf]
  exact Go.retV' X14 hx hret hlk (hb hby d3_57) (by decide) (by decide) ⟨rb_9, kb_9, rfl, N14, (by rw [e14]; exact KC14), (by rw [e14]; exact (c12.wr W14)), (by rw [e14]; exact Fw14), (by rw [e14]; exact (Fw11.other W14 (Or.inr (slot_ne (Or.inr hw22) (Or.inr hw21) (by decide) (t := .byte) (t' := (.array .byte)) (by decide) (by decide))))), (by rw [e14]; exact c15), sz_rb_9⟩
theorem d2_0 : decode jdk_42_method_3_code 0 = .ok (.aload_n 0, 1) := by decide +kernel
theorem d2_1 : decode jdk_42_method_3_code 1 = .ok (.aload_n 1, 1) := by decide +kernel
theorem d2_2 : decode jdk_42_method_3_code 2 = .ok (.iconst 0, 1) := by decide +kernel
theorem d2_3 : decode jdk_42_method_3_code 3 = .ok (.aload_n 1, 1) := by decide +kernel
theorem d2_4 : decode jdk_42_method_3_code 4 = .ok (.arraylength, 1) := by decide +kernel
theorem d2_5 : decode jdk_42_method_3_code 5 = .ok (.aconst_null, 1) := by decide +kernel
theorem d2_6 : decode jdk_42_method_3_code 6 = .ok (.invokespecial 27, 3) := by decide +kernel
theorem pd_3 : parseMethodDescriptor "([CIILjava/lang/Void;)V" = some ⟨[(.array .char), .int, .int, (.object "java/lang/Void")], none⟩ := by decide +kernel
theorem d2_9 : decode jdk_42_method_3_code 9 = .ok (.return_, 1) := by decide +kernel
theorem pn_2 : plainName "java/lang/String" = true := by first | (simp [plainName, overriddenIn]; done) | decide +kernel
set_option maxHeartbeats 4000000 in
theorem ef_rmS1_1 (m : MethodId) {sa : Addr} {ca : Addr} : entryFrame m #[(.ref sa), (.ref ca)] 2 = mkF m 0 #[vr sa, vr ca] [] := by first | (simp [entryFrame, mkF, argsToLocals, Value.category]; done) | rfl
def QrmS1_1 (Z : State) (vcs : Int32) (vfm : Value) (sa : Addr) (ca : Addr) (kc : ClassId) (c0 : Int32) (h0 : Heap) (n0 : Nat) (v : Option Value) (h : Heap) (L : List Loc) : Prop := ∃ (rb : Addr) (kb : ClassId), (v = none) ∧ (Fr n0 L) ∧ (Keep h0 h [sa]) ∧ (Exa Z h sa "java/lang/String") ∧ (Fld Z h sa "java/lang/String" "value" "[B" (.ref rb)) ∧ (Fld Z h sa "java/lang/String" "coder" "B" (.int (0 : Int32))) ∧ (Arv Z h rb kb .byte (1 : Int32) [(.int (c0.toInt8.toInt32))] (.int (0 : Int32))) ∧ (h0.size ≤ rb)
set_option maxRecDepth 65536 in
set_option maxHeartbeats 40000000 in
theorem rmS1_1 (l : Launch) (Z : State) (a0 : Array Value) (hw : ∀ d ∈ tables_1, d.before a0 Z = true) (ws : List Jvm.Cond) (vcs : Int32) (vfm : Value) (G : Gh Z vcs vfm) (sa : Addr) (ca : Addr) (kc : ClassId) (c0 : Int32) (h0 : Heap) (n0 : Nat) (O0 : Old Z n0 h0) (EX : Exa Z h0 sa "java/lang/String") (FV : Fld Z h0 sa "java/lang/String" "value" "[B" .null) (FC : Fld Z h0 sa "java/lang/String" "coder" "B" (.int (0 : Int32))) (g_sa : n0 ≤ sa) (VC : Arv Z h0 ca kc .char (1 : Int32) [(.int c0)] (.int (0 : Int32))) (hne : sa ≠ ca) (hb0 : ¬ ((255 : Int32) < c0)) :
    MetFree l (⟨"java/lang/String", "<init>", "([C)V"⟩ : MethodName) (head1 (Jvm.Cond.code (⟨"java/lang/String", "<init>", "([C)V"⟩ : MethodName) jdk_42_method_3_code 2 none :: ws) ({ frames := 3, cells := 1, slots := 1, locals := 52 } : Room)) (fun aa' UU' => aa' = #[(.ref sa), (.ref ca)] ∧ Z.Warmed39 UU'.vm ∧ UU'.heap = h0) (fun _ _ _ _ _ => True) (fun _ UU' oo' VV' => ∃ v' L', oo' = .returned v' ∧ QrmS1_1 Z vcs vfm sa ca kc c0 h0 n0 v' VV'.heap L' ∧ FrameEnd UU' oo' VV' L' ({ frames := 3, cells := 1, slots := 1, locals := 52 } : Room).cells ({ frames := 3, cells := 1, slots := 1, locals := 52 } : Room).slots) := by
  refine MetFree.of_bodySF (plainFor_of_name pn_2) hisR ?_
  intro p e s m args below meth c s₁ Bd hml0 hP hK
  obtain ⟨rfl, hZ, hh⟩ := hP
  have hx := Bd.exec
  have hby := Bd.bytes
  have hlk := Bd.notSynchronized
  have hml : c.maxLocals = 2 := hml0
  have hown : s.vm.findClass "java/lang/String" = some m.cls := findClass_of_methodNamed Bd.named
  have hnm := (name_of_methodNamed Bd.named Bd.method).1
  have hret := Bd.returns
  have X0 : Stand p l e ({ frames := 3, cells := 1, slots := 1, locals := 52 } : Room) s m #[(.ref sa), (.ref ca)] below meth c s₁ [] 0 0 := Stand.of_body Bd
  have e0 : s₁.heap = h0 := by rw [← hh, Bd.state]; rfl
  have N0 := Fr.nil n0
  have KC0 : Keep h0 h0 [sa] := Keep.refl _ _
  refine Go.body ?_
  obtain ⟨Pf, hPf⟩ : ∃ P, P = Fin' s below ({ frames := 3, cells := 1, slots := 1, locals := 52 } : Room).cells ({ frames := 3, cells := 1, slots := 1, locals := 52 } : Room).slots (QrmS1_1 Z vcs vfm sa ca kc c0 h0 n0) := ⟨_, rfl⟩
  rw [← hPf]
  refine Go.cast (ef_rmS1_1 m) ?_
  have hw7 := (hw _ (List.mem_of_getElem? (i := 7) rfl))
  have hw12 := (hw _ (List.mem_of_getElem? (i := 12) rfl))
  have hw13 := (hw _ (List.mem_of_getElem? (i := 13) rfl))
  have hw15 := (hw _ (List.mem_of_getElem? (i := 15) rfl))
  show Go p.tables e below Pf (s₁.setTop (mkF m 0 #[vr sa, vr ca] []))
  refine Go.by' (fun t k => (XS.aloadN X0.here hx rfl (hb hby d2_0) rfl rfl (XS.aloadN X0.here hx rfl (hb hby d2_1) rfl rfl (XS.iconst X0.here hx rfl (hb hby d2_2) (XS.aloadN X0.here hx rfl (hb hby d2_3) rfl rfl k))))) ?_
  obtain ⟨cl16, Ar16, -, S16, P16, -, -⟩ := (id VC)
  show Go p.tables e below Pf (s₁.setTop (mkF m 4 #[vr sa, vr ca] [(.ref ca), (.int (0 : Int32)), (.ref ca), (.ref sa)]))
  refine Go.by' (fun t k => (X0.arraylength hx (by rw [e0]; exact Ar16.1) (State.isArrayOf_alike hZ.alike Ar16.2.1) (g := (mkF m 4 #[vr sa, vr ca] [(.ref ca), (.int (0 : Int32)), (.ref ca), (.ref sa)])) rfl rfl (hb hby d2_4) t k)) ?_
  rw [len_of S16 P16]
  show Go p.tables e below Pf (s₁.setTop (mkF m 5 #[vr sa, vr ca] [(.int (1 : Int32)), (.int (0 : Int32)), (.ref ca), (.ref sa)]))
  refine Go.by' (fun t k => (XS.aconstNull X0.here hx rfl (hb hby d2_5) k)) ?_
  obtain ⟨_, _, ⟨T17, L17, k17, n17⟩, -, X17, ⟨Lc17, hQ17, l17, y17, z17⟩, st17⟩ := X0.specialBack hx (y := (⟨"java/lang/String", "<init>", "([CIILjava/lang/Void;)V"⟩ : MethodName)) rfl hown (mvT hZ hw12) (mvT hZ hw13) (mvT hZ hw15) (by decide) (backOf (W := 0) (rmS4_1 l Z a0 hw [] vcs vfm G sa ca kc c0 h0 n0 O0 EX FV FC g_sa VC hne hb0) hZ hw15 hw7 (by decide) (by decide)) (g := (mkF m 6 #[vr sa, vr ca] [.null, (.int (1 : Int32)), (.int (0 : Int32)), (.ref ca), (.ref sa)])) rfl (by rw [hml]; rfl) (Steps.refl _) (a := sa) (argsL := [(.ref ca), (.int (0 : Int32)), (.int (1 : Int32)), .null]) (rest := []) (lenOf pd_3 rfl) rfl (by show 2 * 0 + _ ≤ _; exact Nat.le_of_eq rfl) (hb hby d2_6) (fun _ _ => ⟨rfl, e0, (by decide : 0 + 1 ≤ _), (by decide : 0 + 1 ≤ _)⟩)
  dsimp only [Pt.U, Pt.locs, Pt.cells, Pt.slots] at X17 l17 y17 z17 st17 hQ17
  subst l17 y17 z17
  obtain ⟨rb_17, kb_17, rfl, N17q, K17, f17_0, f17_1, f17_2, f17_3, f17_4⟩ := hQ17
  have N17 := Fr.app N0 N17q
  obtain ⟨lc17, X17, N17⟩ := own_pack X17 N17
  refine Go.by' (fun t k => st17.trans k) ?_
  have g_rb_17 : n0 ≤ rb_17 := Nat.le_trans (own_le O0) f17_4
  have sz_rb_17 : h0.size ≤ rb_17 := Nat.le_trans KC0.1 f17_4
  have O17 := O0.keep K17 (allS g_sa all0)
  have KC17 : Keep h0 T17.heap [sa] := KC0.trans K17 (allS (Or.inl (List.mem_of_getElem? (i := 0) rfl)) all0)
  show Go p.tables e below Pf (T17.setTop (mkF m 9 #[vr sa, vr ca] []))
  rw [hPf]
  exact Go.retV' X17 hx hret hlk (hb hby d2_9) (by decide) (by decide) ⟨rb_17, kb_17, rfl, N17, KC17, f17_0, f17_1, f17_2, f17_3, sz_rb_17⟩
set_option maxHeartbeats 4000000 in
theorem ef_rmC5_2 (m : MethodId) {ca : Addr} {ba : Addr} : entryFrame m #[(.ref ca), (.int (0 : Int32)), (.ref ba), (.int (0 : Int32)), (.int (2 : Int32))] 7 = mkF m 0 #[vr ca, vi (0 : Int32), vr ba, vi (0 : Int32), vi (2 : Int32), .unset, .unset] [] := by first | (simp [entryFrame, mkF, argsToLocals, Value.category]; done) | rfl
def QrmC5_2 (Z : State) (vcs : Int32) (vfm : Value) (ca : Addr) (ba : Addr) (kc : ClassId) (kb : ClassId) (c0 : Int32) (c1 : Int32) (h0 : Heap) (n0 : Nat) (v : Option Value) (h : Heap) (L : List Loc) : Prop := (v = some (.int (2 : Int32))) ∧ (Fr n0 L) ∧ (Keep h0 h [ba]) ∧ (Arv Z h ba kb .byte (2 : Int32) [(.int (c0.toInt8.toInt32)), (.int (c1.toInt8.toInt32))] (.int (0 : Int32)))
set_option maxRecDepth 65536 in
set_option maxHeartbeats 40000000 in
theorem rmC5_2 (l : Launch) (Z : State) (a0 : Array Value) (hw : ∀ d ∈ tables_1, d.before a0 Z = true) (ws : List Jvm.Cond) (vcs : Int32) (vfm : Value) (G : Gh Z vcs vfm) (ca : Addr) (ba : Addr) (kc : ClassId) (kb : ClassId) (c0 : Int32) (c1 : Int32) (h0 : Heap) (n0 : Nat) (O0 : Old Z n0 h0) (VC : Arv Z h0 ca kc .char (2 : Int32) [(.int c0), (.int c1)] (.int (0 : Int32))) (VB : Arv Z h0 ba kb .byte (2 : Int32) [(.int (0 : Int32)), (.int (0 : Int32))] (.int (0 : Int32))) (g_ba : n0 ≤ ba) (hne : ca ≠ ba) (hb0 : ¬ ((255 : Int32) < c0)) (hb1 : ¬ ((255 : Int32) < c1)) :
    MetFree l (⟨"java/lang/StringUTF16", "compress", "([CI[BII)I"⟩ : MethodName) (head1 (Jvm.Cond.code (⟨"java/lang/StringUTF16", "compress", "([CI[BII)I"⟩ : MethodName) jdk_52_method_21_code 7 (some .int) :: ws) ({ frames := 0, cells := 0, slots := 0, locals := 0 } : Room)) (fun aa' UU' => aa' = #[(.ref ca), (.int (0 : Int32)), (.ref ba), (.int (0 : Int32)), (.int (2 : Int32))] ∧ Z.Warmed39 UU'.vm ∧ UU'.heap = h0) (fun _ _ _ _ _ => True) (fun _ UU' oo' VV' => ∃ v' L', oo' = .returned v' ∧ QrmC5_2 Z vcs vfm ca ba kc kb c0 c1 h0 n0 v' VV'.heap L' ∧ FrameEnd UU' oo' VV' L' ({ frames := 0, cells := 0, slots := 0, locals := 0 } : Room).cells ({ frames := 0, cells := 0, slots := 0, locals := 0 } : Room).slots) := by
  refine MetFree.of_bodySF (plainFor_of_name pn_36) hisR ?_
  intro p e s m args below meth c s₁ Bd hml0 hP hK
  obtain ⟨rfl, hZ, hh⟩ := hP
  have hx := Bd.exec
  have hby := Bd.bytes
  have hlk := Bd.notSynchronized
  have hml : c.maxLocals = 7 := hml0
  have hown : s.vm.findClass "java/lang/StringUTF16" = some m.cls := findClass_of_methodNamed Bd.named
  have hnm := (name_of_methodNamed Bd.named Bd.method).1
  have hret := Bd.returns
  have X0 : Stand p l e ({ frames := 0, cells := 0, slots := 0, locals := 0 } : Room) s m #[(.ref ca), (.int (0 : Int32)), (.ref ba), (.int (0 : Int32)), (.int (2 : Int32))] below meth c s₁ [] 0 0 := Stand.of_body Bd
  have e0 : s₁.heap = h0 := by rw [← hh, Bd.state]; rfl
  have N0 := Fr.nil n0
  have KC0 : Keep h0 h0 [ba] := Keep.refl _ _
  refine Go.body ?_
  obtain ⟨Pf, hPf⟩ : ∃ P, P = Fin' s below ({ frames := 0, cells := 0, slots := 0, locals := 0 } : Room).cells ({ frames := 0, cells := 0, slots := 0, locals := 0 } : Room).slots (QrmC5_2 Z vcs vfm ca ba kc kb c0 c1 h0 n0) := ⟨_, rfl⟩
  rw [← hPf]
  refine Go.cast (ef_rmC5_2 m) ?_
  show Go p.tables e below Pf (s₁.setTop (mkF m 0 #[vr ca, vi (0 : Int32), vr ba, vi (0 : Int32), vi (2 : Int32), .unset, .unset] []))
  refine Go.by' (fun t k => (XS.iconst X0.here hx rfl (hb hby d36_0) (XS.istore X0.here hx rfl (hb hby d36_1) rfl (l' := #[vr ca, vi (0 : Int32), vr ba, vi (0 : Int32), vi (2 : Int32), vi (0 : Int32), .unset]) rfl (XS.iload X0.here hx rfl (hb hby d36_3) rfl (XS.iload X0.here hx rfl (hb hby d36_5) rfl (XS.icmpNo X0.here hx rfl (hb hby d36_7) rfl (tlt (by decide)).2.1 (XS.aloadN X0.here hx rfl (hb hby d36_10) rfl rfl (XS.iloadN X0.here hx rfl (hb hby d36_11) rfl k)))))))) ?_
  obtain ⟨cl18, Ar18, q18, S18, P18, H18, G18⟩ := (id VC)
  have hin18 : ¬ ((0 : Int32) < 0 ∨ cl18.slots.size ≤ ((0 : Int32)).toNatClampNeg) := inb_of S18 ⟨by decide, by decide⟩
  show Go p.tables e below Pf (s₁.setTop (mkF m 12 #[vr ca, vi (0 : Int32), vr ba, vi (0 : Int32), vi (2 : Int32), vi (0 : Int32), .unset] [(.int (0 : Int32)), (.ref ca)]))
  refine Go.by' (fun t k => (X0.caload hx (j := (0 : Int32)) (v := (.int c0)) (by rw [e0]; exact Ar18.1) (State.isArrayOf_alike hZ.alike Ar18.2.1) Ar18.2.2 hin18 (H18.at hin18 rfl) (g := (mkF m 12 #[vr ca, vi (0 : Int32), vr ba, vi (0 : Int32), vi (2 : Int32), vi (0 : Int32), .unset] [(.int (0 : Int32)), (.ref ca)])) rfl rfl (hb hby d36_12) t (XS.istore X0.here hx rfl (hb hby d36_13) rfl (l' := #[vr ca, vi (0 : Int32), vr ba, vi (0 : Int32), vi (2 : Int32), vi (0 : Int32), vi c0]) rfl (XS.iload X0.here hx rfl (hb hby d36_15) rfl (XS.sipush X0.here hx rfl (hb hby d36_17) (XS.icmpYes X0.here hx rfl (pc0 := 20) (pc' := 26) rfl (hb hby d36_20) rfl (flt hb0).2.2.2 (by decide) (by decide) (XS.aloadN X0.here hx rfl (hb hby d36_26) rfl rfl (XS.iloadN X0.here hx rfl (hb hby d36_27) rfl (XS.iload X0.here hx rfl (hb hby d36_28) rfl k))))))))) ?_
  show Go p.tables e below Pf (s₁.setTop (mkF m 30 #[vr ca, vi (0 : Int32), vr ba, vi (0 : Int32), vi (2 : Int32), vi (0 : Int32), vi c0] [(.int c0), (.int (0 : Int32)), (.ref ba)]))
  refine Go.by' (fun t k => (XS.i2b X0.here hx rfl (hb hby d36_30) rfl k)) ?_
  obtain ⟨cl19, Ar19, q19, S19, P19, H19, G19⟩ := (id VB)
  have hin19 : ¬ ((0 : Int32) < 0 ∨ cl19.slots.size ≤ ((0 : Int32)).toNatClampNeg) := inb_of S19 ⟨by decide, by decide⟩
  obtain ⟨T20, h20, X20, e20, W20, st20⟩ := stB X0 hx hZ e0 Ar19 (j := (0 : Int32)) hin19 (g := (mkF m 31 #[vr ca, vi (0 : Int32), vr ba, vi (0 : Int32), vi (2 : Int32), vi (0 : Int32), vi c0] [(.int (c0.toInt8.toInt32)), (.int (0 : Int32)), (.ref ba)])) rfl rfl (hb hby d36_31)
  refine Go.by' st20 ?_
  rw [own_bb] at W20
  have V20 : Arv Z h20 ba kb .byte (2 : Int32) [(.int (c0.toInt8.toInt32)), (.int (0 : Int32))] (Value.int (0 : Int32)) := Arv.set Ar19 q19 S19 P19 H19 G19 (fits_nar_byte _) W20 0 rfl (Nat.le_of_ble_eq_true rfl)
  have N20 := Fr.snoc X20 N0 g_ba
  obtain ⟨lc20, X20, N20⟩ := own_pack X20 N20
  have O20 := O0.wr W20 g_ba
  have KC20 : Keep h0 h20 [ba] := KC0.wr W20 (Or.inl (List.mem_of_getElem? (i := 0) rfl))
  show Go p.tables e below Pf (T20.setTop (mkF m 32 #[vr ca, vi (0 : Int32), vr ba, vi (0 : Int32), vi (2 : Int32), vi (0 : Int32), vi c0] []))
  refine Go.by' (fun t k => (XS.iinc X20.here hx rfl (hb hby d36_32) rfl (l' := #[vr ca, vi ((0 : Int32) + (1 : Int32)), vr ba, vi (0 : Int32), vi (2 : Int32), vi (0 : Int32), vi c0]) rfl k)) ?_
  show Go p.tables e below Pf (T20.setTop (mkF m 35 #[vr ca, vi ((0 : Int32) + (1 : Int32)), vr ba, vi (0 : Int32), vi (2 : Int32), vi (0 : Int32), vi c0] []))
  refine Go.castF (a := ((0 : Int32) + (1 : Int32))) (b := (1 : Int32)) (fun z' : Int32 => mkF m 35 #[vr ca, vi z', vr ba, vi (0 : Int32), vi (2 : Int32), vi (0 : Int32), vi c0] []) (by decide) ?_
  show Go p.tables e below Pf (T20.setTop (mkF m 35 #[vr ca, vi (1 : Int32), vr ba, vi (0 : Int32), vi (2 : Int32), vi (0 : Int32), vi c0] []))
  refine Go.by' (fun t k => (XS.iinc X20.here hx rfl (hb hby d36_35) rfl (l' := #[vr ca, vi (1 : Int32), vr ba, vi ((0 : Int32) + (1 : Int32)), vi (2 : Int32), vi (0 : Int32), vi c0]) rfl k)) ?_
  show Go p.tables e below Pf (T20.setTop (mkF m 38 #[vr ca, vi (1 : Int32), vr ba, vi ((0 : Int32) + (1 : Int32)), vi (2 : Int32), vi (0 : Int32), vi c0] []))
  refine Go.castF (a := ((0 : Int32) + (1 : Int32))) (b := (1 : Int32)) (fun z' : Int32 => mkF m 38 #[vr ca, vi (1 : Int32), vr ba, vi z', vi (2 : Int32), vi (0 : Int32), vi c0] []) (by decide) ?_
  show Go p.tables e below Pf (T20.setTop (mkF m 38 #[vr ca, vi (1 : Int32), vr ba, vi (1 : Int32), vi (2 : Int32), vi (0 : Int32), vi c0] []))
  refine Go.by' (fun t k => (XS.iinc X20.here hx rfl (hb hby d36_38) rfl (l' := #[vr ca, vi (1 : Int32), vr ba, vi (1 : Int32), vi (2 : Int32), vi ((0 : Int32) + (1 : Int32)), vi c0]) rfl k)) ?_
  show Go p.tables e below Pf (T20.setTop (mkF m 41 #[vr ca, vi (1 : Int32), vr ba, vi (1 : Int32), vi (2 : Int32), vi ((0 : Int32) + (1 : Int32)), vi c0] []))
  refine Go.castF (a := ((0 : Int32) + (1 : Int32))) (b := (1 : Int32)) (fun z' : Int32 => mkF m 41 #[vr ca, vi (1 : Int32), vr ba, vi (1 : Int32), vi (2 : Int32), vi z', vi c0] []) (by decide) ?_
  show Go p.tables e below Pf (T20.setTop (mkF m 41 #[vr ca, vi (1 : Int32), vr ba, vi (1 : Int32), vi (2 : Int32), vi (1 : Int32), vi c0] []))
  refine Go.by' (fun t k => (XS.goto X20.here hx rfl (pc0 := 41) (pc' := 3) rfl (hb hby d36_41) (by decide) (by decide) (XS.iload X20.here hx rfl (hb hby d36_3) rfl (XS.iload X20.here hx rfl (hb hby d36_5) rfl (XS.icmpNo X20.here hx rfl (hb hby d36_7) rfl (tlt (by decide)).2.1 (XS.aloadN X20.here hx rfl (hb hby d36_10) rfl rfl (XS.iloadN X20.here hx rfl (hb hby d36_11) rfl k))))))) ?_
  obtain ⟨cl21, Ar21, q21, S21, P21, H21, G21⟩ := (id (VC.other W20 hne))
  have hin21 : ¬ ((1 : Int32) < 0 ∨ cl21.slots.size ≤ ((1 : Int32)).toNatClampNeg) := inb_of S21 ⟨by decide, by decide⟩
  show Go p.tables e below Pf (T20.setTop (mkF m 12 #[vr ca, vi (1 : Int32), vr ba, vi (1 : Int32), vi (2 : Int32), vi (1 : Int32), vi c0] [(.int (1 : Int32)), (.ref ca)]))
  refine Go.by' (fun t k => (X20.caload hx (j := (1 : Int32)) (v := (.int c1)) (by rw [e20]; exact Ar21.1) (State.isArrayOf_alike hZ.alike Ar21.2.1) Ar21.2.2 hin21 (H21.at hin21 rfl) (g := (mkF m 12 #[vr ca, vi (1 : Int32), vr ba, vi (1 : Int32), vi (2 : Int32), vi (1 : Int32), vi c0] [(.int (1 : Int32)), (.ref ca)])) rfl rfl (hb hby d36_12) t (XS.istore X20.here hx rfl (hb hby d36_13) rfl (l' := #[vr ca, vi (1 : Int32), vr ba, vi (1 : Int32), vi (2 : Int32), vi (1 : Int32), vi c1]) rfl (XS.iload X20.here hx rfl (hb hby d36_15) rfl (XS.sipush X20.here hx rfl (hb hby d36_17) (XS.icmpYes X20.here hx rfl (pc0 := 20) (pc' := 26) rfl (hb hby d36_20) rfl (flt hb1).2.2.2 (by decide) (by decide) (XS.aloadN X20.here hx rfl (hb hby d36_26) rfl rfl (XS.iloadN X20.here hx rfl (hb hby d36_27) rfl (XS.iload X20.here hx rfl (hb hby d36_28) rfl k))))))))) ?_
  show Go p.tables e below Pf (T20.setTop (mkF m 30 #[vr ca, vi (1 : Int32), vr ba, vi (1 : Int32), vi (2 : Int32), vi (1 : Int32), vi c1] [(.int c1), (.int (1 : Int32)), (.ref ba)]))
  refine Go.by' (fun t k => (XS.i2b X20.here hx rfl (hb hby d36_30) rfl k)) ?_
  obtain ⟨cl22, Ar22, q22, S22, P22, H22, G22⟩ := (id V20)
  have hin22 : ¬ ((1 : Int32) < 0 ∨ cl22.slots.size ≤ ((1 : Int32)).toNatClampNeg) := inb_of S22 ⟨by decide, by decide⟩
  obtain ⟨T23, h23, X23, e23, W23, st23⟩ := stB X20 hx hZ e20 Ar22 (j := (1 : Int32)) hin22 (g := (mkF m 31 #[vr ca, vi (1 : Int32), vr ba, vi (1 : Int32), vi (2 : Int32), vi (1 : Int32), vi c1] [(.int (c1.toInt8.toInt32)), (.int (1 : Int32)), (.ref ba)])) rfl rfl (hb hby d36_31)
  refine Go.by' st23 ?_
  rw [own_bb] at W23
  have V23 : Arv Z h23 ba kb .byte (2 : Int32) [(.int (c0.toInt8.toInt32)), (.int (c1.toInt8.toInt32))] (Value.int (0 : Int32)) := Arv.set Ar22 q22 S22 P22 H22 G22 (fits_nar_byte _) W23 1 rfl (Nat.le_of_ble_eq_true rfl)
  have N23 := Fr.snoc X23 N20 g_ba
  obtain ⟨lc23, X23, N23⟩ := own_pack X23 N23
  have O23 := O20.wr W23 g_ba
  have KC23 : Keep h0 h23 [ba] := KC20.wr W23 (Or.inl (List.mem_of_getElem? (i := 0) rfl))
  show Go p.tables e below Pf (T23.setTop (mkF m 32 #[vr ca, vi (1 : Int32), vr ba, vi (1 : Int32), vi (2 : Int32), vi (1 : Int32), vi c1] []))
  refine Go.by' (fun t k => (XS.iinc X23.here hx rfl (hb hby d36_32) rfl (l' := #[vr ca, vi ((1 : Int32) + (1 : Int32)), vr ba, vi (1 : Int32), vi (2 : Int32), vi (1 : Int32), vi c1]) rfl k)) ?_
  show Go p.tables e below Pf (T23.setTop (mkF m 35 #[vr ca, vi ((1 : Int32) + (1 : Int32)), vr ba, vi (1 : Int32), vi (2 : Int32), vi (1 : Int32), vi c1] []))
  refine Go.castF (a := ((1 : Int32) + (1 : Int32))) (b := (2 : Int32)) (fun z' : Int32 => mkF m 35 #[vr ca, vi z', vr ba, vi (1 : Int32), vi (2 : Int32), vi (1 : Int32), vi c1] []) (by decide) ?_
  show Go p.tables e below Pf (T23.setTop (mkF m 35 #[vr ca, vi (2 : Int32), vr ba, vi (1 : Int32), vi (2 : Int32), vi (1 : Int32), vi c1] []))
  refine Go.by' (fun t k => (XS.iinc X23.here hx rfl (hb hby d36_35) rfl (l' := #[vr ca, vi (2 : Int32), vr ba, vi ((1 : Int32) + (1 : Int32)), vi (2 : Int32), vi (1 : Int32), vi c1]) rfl k)) ?_
  show Go p.tables e below Pf (T23.setTop (mkF m 38 #[vr ca, vi (2 : Int32), vr ba, vi ((1 : Int32) + (1 : Int32)), vi (2 : Int32), vi (1 : Int32), vi c1] []))
  refine Go.castF (a := ((1 : Int32) + (1 : Int32))) (b := (2 : Int32)) (fun z' : Int32 => mkF m 38 #[vr ca, vi (2 : Int32), vr ba, vi z', vi (2 : Int32), vi (1 : Int32), vi c1] []) (by decide) ?_
  show Go p.tables e below Pf (T23.setTop (mkF m 38 #[vr ca, vi (2 : Int32), vr ba, vi (2 : Int32), vi (2 : Int32), vi (1 : Int32), vi c1] []))
  refine Go.by' (fun t k => (XS.iinc X23.here hx rfl (hb hby d36_38) rfl (l' := #[vr ca, vi (2 : Int32), vr ba, vi (2 : Int32), vi (2 : Int32), vi ((1 : Int32) + (1 : Int32)), vi c1]) rfl k)) ?_
  show Go p.tables e below Pf (T23.setTop (mkF m 41 #[vr ca, vi (2 : Int32), vr ba, vi (2 : Int32), vi (2 : Int32), vi ((1 : Int32) + (1 : Int32)), vi c1] []))
  refine Go.castF (a := ((1 : Int32) + (1 : Int32))) (b := (2 : Int32)) (fun z' : Int32 => mkF m 41 #[vr ca, vi (2 : Int32), vr ba, vi (2 : Int32), vi (2 : Int32), vi z', vi c1] []) (by decide) ?_
  show Go p.tables e below Pf (T23.setTop (mkF m 41 #[vr ca, vi (2 : Int32), vr ba, vi (2 : Int32), vi (2 : Int32), vi (2 : Int32), vi c1] []))
  refine Go.by' (fun t k => (XS.goto X23.here hx rfl (pc0 := 41) (pc' := 3) rfl (hb hby d36_41) (by decide) (by decide) (XS.iload X23.here hx rfl (hb hby d36_3) rfl (XS.iload X23.here hx rfl (hb hby d36_5) rfl (XS.icmpYes X23.here hx rfl (pc0 := 7) (pc' := 44) rfl (hb hby d36_7) rfl (flt (by decide)).2.1 (by decide) (by decide) (XS.iload X23.here hx rfl (hb hby d36_44) rfl k)))))) ?_
  show Go p.tables e below Pf (T23.setTop (mkF m 46 #[vr ca, vi (2 : Int32), vr ba, vi (2 : Int32), vi (2 : Int32), vi (2 : Int32), vi c1] [(.int (2 : Int32))]))
  rw [hPf]
  exact Go.retI' X23 hx hret hlk (by simp) rfl (hb hby d36_46) (by decide) (by decide) ⟨rfl, N23, (by rw [e23]; exact KC23), (by rw [e23]; exact V23)⟩
set_option maxHeartbeats 4000000 in
theorem ef_rmC3_2 (m : MethodId) {ca : Addr} : entryFrame m #[(.ref ca), (.int (0 : Int32)), (.int (2 : Int32))] 6 = mkF m 0 #[vr ca, vi (0 : Int32), vi (2 : Int32), .unset, .unset, .unset] [] := by first | (simp [entryFrame, mkF, argsToLocals, Value.category]; done) | rfl
def QrmC3_2 (Z : State) (vcs : Int32) (vfm : Value) (ca : Addr) (kc : ClassId) (c0 : Int32) (c1 : Int32) (h0 : Heap) (n0 : Nat) (v : Option Value) (h : Heap) (L : List Loc) : Prop := ∃ (rb : Addr) (kb : ClassId), (v = some (.ref rb)) ∧ (Fr n0 L) ∧ (Keep h0 h []) ∧ (Arv Z h rb kb .byte (2 : Int32) [(.int (c0.toInt8.toInt32)), (.int (c1.toInt8.toInt32))] (.int (0 : Int32))) ∧ (h0.size ≤ rb)
set_option maxRecDepth 65536 in
set_option maxHeartbeats 40000000 in
theorem rmC3_2 (l : Launch) (Z : State) (a0 : Array Value) (hw : ∀ d ∈ tables_1, d.before a0 Z = true) (ws : List Jvm.Cond) (vcs : Int32) (vfm : Value) (G : Gh Z vcs vfm) (ca : Addr) (kc : ClassId) (c0 : Int32) (c1 : Int32) (h0 : Heap) (n0 : Nat) (O0 : Old Z n0 h0) (VC : Arv Z h0 ca kc .char (2 : Int32) [(.int c0), (.int c1)] (.int (0 : Int32))) (hb0 : ¬ ((255 : Int32) < c0)) (hb1 : ¬ ((255 : Int32) < c1)) :
    MetFree l (⟨"java/lang/StringUTF16", "compress", "([CII)[B"⟩ : MethodName) (head1 (Jvm.Cond.code (⟨"java/lang/StringUTF16", "compress", "([CII)[B"⟩ : MethodName) jdk_52_method_16_code 6 (some (.array .byte)) :: ws) ({ frames := 1, cells := 1, slots := 2, locals := 18 } : Room)) (fun aa' UU' => aa' = #[(.ref ca), (.int (0 : Int32)), (.int (2 : Int32))] ∧ Z.Warmed39 UU'.vm ∧ UU'.heap = h0) (fun _ _ _ _ _ => True) (fun _ UU' oo' VV' => ∃ v' L', oo' = .returned v' ∧ QrmC3_2 Z vcs vfm ca kc c0 c1 h0 n0 v' VV'.heap L' ∧ FrameEnd UU' oo' VV' L' ({ frames := 1, cells := 1, slots := 2, locals := 18 } : Room).cells ({ frames := 1, cells := 1, slots := 2, locals := 18 } : Room).slots) := by
  refine MetFree.of_bodySF (plainFor_of_name pn_35) hisR ?_
  intro p e s m args below meth c s₁ Bd hml0 hP hK
  obtain ⟨rfl, hZ, hh⟩ := hP
  have hx := Bd.exec
  have hby := Bd.bytes
  have hlk := Bd.notSynchronized
  have hml : c.maxLocals = 6 := hml0
  have hown : s.vm.findClass "java/lang/StringUTF16" = some m.cls := findClass_of_methodNamed Bd.named
  have hnm := (name_of_methodNamed Bd.named Bd.method).1
  have hret := Bd.returns
  have X0 : Stand p l e ({ frames := 1, cells := 1, slots := 2, locals := 18 } : Room) s m #[(.ref ca), (.int (0 : Int32)), (.int (2 : Int32))] below meth c s₁ [] 0 0 := Stand.of_body Bd
  have e0 : s₁.heap = h0 := by rw [← hh, Bd.state]; rfl
  have N0 := Fr.nil n0
  have KC0 : Keep h0 h0 [] := Keep.refl _ _
  refine Go.body ?_
  obtain ⟨Pf, hPf⟩ : ∃ P, P = Fin' s below ({ frames := 1, cells := 1, slots := 2, locals := 18 } : Room).cells ({ frames := 1, cells := 1, slots := 2, locals := 18 } : Room).slots (QrmC3_2 Z vcs vfm ca kc c0 c1 h0 n0) := ⟨_, rfl⟩
  rw [← hPf]
  refine Go.cast (ef_rmC3_2 m) ?_
  have hw20 := (hw _ (List.mem_of_getElem? (i := 20) rfl))
  have hw188 := (hw _ (List.mem_of_getElem? (i := 188) rfl))
  have hw190 := (hw _ (List.mem_of_getElem? (i := 190) rfl))
  have hw191 := (hw _ (List.mem_of_getElem? (i := 191) rfl))
  have hw192 := (hw _ (List.mem_of_getElem? (i := 192) rfl))
  show Go p.tables e below Pf (s₁.setTop (mkF m 0 #[vr ca, vi (0 : Int32), vi (2 : Int32), .unset, .unset, .unset] []))
  refine Go.by' (fun t k => (XS.iloadN X0.here hx rfl (hb hby d35_0) rfl k)) ?_
  obtain ⟨T24, h24, k24, X24, e24, E24, A24, st24⟩ := newP (aty := .byte) X0 hx hZ hw20 e0 (g := (mkF m 1 #[vr ca, vi (0 : Int32), vi (2 : Int32), .unset, .unset, .unset] [(.int (2 : Int32))])) rfl (hb hby d35_1) rfl (by decide) (cap := 2) (by decide) (by decide) (by decide) (by decide)
  obtain ⟨b24, g24⟩ : ∃ z, z = h0.size := ⟨_, rfl⟩
  rw [← g24] at A24 st24
  refine Go.by' st24 ?_
  have g_b24 : n0 ≤ b24 := Nat.le_trans (own_le O0) (Nat.le_of_eq g24.symm)
  have sz_b24 : h0.size ≤ b24 := Nat.le_trans KC0.1 (Nat.le_of_eq g24.symm)
  have O24 := O0.ext E24
  have KC24 : Keep h0 h24 [] := KC0.ext E24
  have V24 : Arv Z h24 b24 k24 .byte (2 : Int32) [(.int (0 : Int32)), (.int (0 : Int32))] (Value.int (0 : Int32)) := (Arv.new A24 (by decide)).pad (pad_rep [] (Value.int (0 : Int32)) 2)
  show Go p.tables e below Pf (T24.setTop (mkF m 3 #[vr ca, vi (0 : Int32), vi (2 : Int32), .unset, .unset, .unset] [(.ref b24)]))
  refine Go.by' (fun t k => (XS.astoreN X24.here hx rfl (hb hby d35_3) rfl rfl (l' := #[vr ca, vi (0 : Int32), vi (2 : Int32), vr b24, .unset, .unset]) rfl (XS.aloadN X24.here hx rfl (hb hby d35_4) rfl rfl (XS.iloadN X24.here hx rfl (hb hby d35_5) rfl (XS.aloadN X24.here hx rfl (hb hby d35_6) rfl rfl (XS.iconst X24.here hx rfl (hb hby d35_7) (XS.iloadN X24.here hx rfl (hb hby d35_8) rfl k))))))) ?_
  obtain ⟨_, _, ⟨T25, L25, k25, n25⟩, -, X25, ⟨Lc25, hQ25, l25, y25, z25⟩, st25⟩ := Jvm.LawKit.callS X24 hx (y := (⟨"java/lang/StringUTF16", "compress", "([CI[BII)I"⟩ : MethodName)) hown (mvT hZ hw190) (mvT hZ hw191) (mvT hZ hw188) (mvT hZ hw192) (by decide) (backOf (W := 0) (rmC5_2 l Z a0 hw [] vcs vfm G ca b24 kc k24 c0 c1 h24 n0 O24 (VC.ext E24) V24 g_b24 (Nat.ne_of_lt (Nat.lt_of_lt_of_le VC.lt (Nat.le_of_eq g24.symm))) hb0 hb1) hZ hw192 hw188 (by decide) (by decide)) (g := (mkF m 9 #[vr ca, vi (0 : Int32), vi (2 : Int32), vr b24, .unset, .unset] [(.int (2 : Int32)), (.int (0 : Int32)), (.ref b24), (.int (0 : Int32)), (.ref ca)])) rfl (by rw [hml]; rfl) (argsL := [(.ref ca), (.int (0 : Int32)), (.ref b24), (.int (0 : Int32)), (.int (2 : Int32))]) (rest := []) (lenOf pd_0 rfl) rfl (by show 2 * 0 + _ ≤ _; exact Nat.le_of_eq rfl) (hb hby d35_9) (fun _ _ => ⟨rfl, e24, (by decide : 1 + 0 ≤ _), (by decide : 2 + 0 ≤ _)⟩)
  dsimp only [Pt.U, Pt.locs, Pt.cells, Pt.slots] at X25 l25 y25 z25 st25 hQ25
  subst l25 y25 z25
  obtain ⟨rfl, N25q, K25, f25_0⟩ := hQ25
  have N25 := Fr.app N0 N25q
  obtain ⟨lc25, X25, N25⟩ := own_pack X25 N25
  refine Go.by' st25 ?_
  have O25 := O24.keep K25 (allS g_b24 all0)
  have KC25 : Keep h0 T25.heap [] := KC24.trans K25 (allS (Or.inr sz_b24) all0)
  show Go p.tables e below Pf (T25.setTop (mkF m 12 #[vr ca, vi (0 : Int32), vi (2 : Int32), vr b24, .unset, .unset] [(.int (2 : Int32))]))
  refine Go.by' (fun t k => (XS.istore X25.here hx rfl (hb hby d35_12) rfl (l' := #[vr ca, vi (0 : Int32), vi (2 : Int32), vr b24, vi (2 : Int32), .unset]) rfl (XS.iload X25.here hx rfl (hb hby d35_14) rfl (XS.iloadN X25.here hx rfl (hb hby d35_16) rfl (XS.icmpYes X25.here hx rfl (pc0 := 17) (pc' := 57) rfl (hb hby d35_17) rfl (teq (by decide)).1 (by decide) (by decide) (XS.aloadN X25.here hx rfl (hb hby d35_57) rfl rfl k)))))) ?_
  show Go p.tables e below Pf (T25.setTop (mkF m 58 #[vr ca, vi (0 : Int32), vi (2 : Int32), vr b24, vi (2 : Int32), .unset] [(.ref b24)]))
  rw [hPf]
  exact Go.retA' X25 hx hret hlk rfl rfl (hb hby d35_58) (by decide) (by decide) ⟨b24, k24, rfl, N25, KC25, f25_0, sz_b24⟩
set_option maxHeartbeats 4000000 in
theorem ef_rmCL_2 (m : MethodId) {ba : Addr} : entryFrame m #[(.ref ba), (.int (2 : Int32))] 2 = mkF m 0 #[vr ba, vi (2 : Int32)] [] := by first | (simp [entryFrame, mkF, argsToLocals, Value.category]; done) | rfl
def QrmCL_2 (Z : State) (vcs : Int32) (vfm : Value) (ba : Addr) (kb : ClassId) (x0 : Value) (x1 : Value) (h0 : Heap) (n0 : Nat) (v : Option Value) (h : Heap) (L : List Loc) : Prop := (v = some (.int (0 : Int32))) ∧ (L = []) ∧ (h = h0)
set_option maxRecDepth 65536 in
set_option maxHeartbeats 40000000 in
theorem rmCL_2 (l : Launch) (Z : State) (a0 : Array Value) (hw : ∀ d ∈ tables_1, d.before a0 Z = true) (ws : List Jvm.Cond) (vcs : Int32) (vfm : Value) (G : Gh Z vcs vfm) (ba : Addr) (kb : ClassId) (x0 : Value) (x1 : Value) (h0 : Heap) (n0 : Nat) (O0 : Old Z n0 h0) (VB : Arv Z h0 ba kb .byte (2 : Int32) [x0, x1] (.int (0 : Int32))) :
    MetFree l (⟨"java/lang/StringUTF16", "coderFromArrayLen", "([BI)B"⟩ : MethodName) (head1 (Jvm.Cond.code (⟨"java/lang/StringUTF16", "coderFromArrayLen", "([BI)B"⟩ : MethodName) jdk_52_method_15_code 2 (some .byte) :: ws) ({ frames := 0, cells := 0, slots := 0, locals := 0 } : Room)) (fun aa' UU' => aa' = #[(.ref ba), (.int (2 : Int32))] ∧ Z.Warmed39 UU'.vm ∧ UU'.heap = h0) (fun _ _ _ _ _ => True) (fun _ UU' oo' VV' => ∃ v' L', oo' = .returned v' ∧ QrmCL_2 Z vcs vfm ba kb x0 x1 h0 n0 v' VV'.heap L' ∧ FrameEnd UU' oo' VV' L' ({ frames := 0, cells := 0, slots := 0, locals := 0 } : Room).cells ({ frames := 0, cells := 0, slots := 0, locals := 0 } : Room).slots) := by
  refine MetFree.of_bodySF (plainFor_of_name pn_37) hisR ?_
  intro p e s m args below meth c s₁ Bd hml0 hP hK
  obtain ⟨rfl, hZ, hh⟩ := hP
  have hx := Bd.exec
  have hby := Bd.bytes
  have hlk := Bd.notSynchronized
  have hml : c.maxLocals = 2 := hml0
  have hown : s.vm.findClass "java/lang/StringUTF16" = some m.cls := findClass_of_methodNamed Bd.named
  have hnm := (name_of_methodNamed Bd.named Bd.method).1
  have hret := Bd.returns
  have X0 : Stand p l e ({ frames := 0, cells := 0, slots := 0, locals := 0 } : Room) s m #[(.ref ba), (.int (2 : Int32))] below meth c s₁ [] 0 0 := Stand.of_body Bd
  have e0 : s₁.heap = h0 := by rw [← hh, Bd.state]; rfl
  have N0 := Fr.nil n0
  refine Go.body ?_
  obtain ⟨Pf, hPf⟩ : ∃ P, P = Fin' s below ({ frames := 0, cells := 0, slots := 0, locals := 0 } : Room).cells ({ frames := 0, cells := 0, slots := 0, locals := 0 } : Room).slots (QrmCL_2 Z vcs vfm ba kb x0 x1 h0 n0) := ⟨_, rfl⟩
  rw [← hPf]
  refine Go.cast (ef_rmCL_2 m) ?_
  show Go p.tables e below Pf (s₁.setTop (mkF m 0 #[vr ba, vi (2 : Int32)] []))
  refine Go.by' (fun t k => (XS.iloadN X0.here hx rfl (hb hby d37_0) rfl (XS.aloadN X0.here hx rfl (hb hby d37_1) rfl rfl k))) ?_
  obtain ⟨cl26, Ar26, -, S26, P26, -, -⟩ := (id VB)
  show Go p.tables e below Pf (s₁.setTop (mkF m 2 #[vr ba, vi (2 : Int32)] [(.ref ba), (.int (2 : Int32))]))
  refine Go.by' (fun t k => (X0.arraylength hx (by rw [e0]; exact Ar26.1) (State.isArrayOf_alike hZ.alike Ar26.2.1) (g := (mkF m 2 #[vr ba, vi (2 : Int32)] [(.ref ba), (.int (2 : Int32))])) rfl rfl (hb hby d37_2) t k)) ?_
  rw [len_of S26 P26]
  show Go p.tables e below Pf (s₁.setTop (mkF m 3 #[vr ba, vi (2 : Int32)] [(.int (2 : Int32)), (.int (2 : Int32))]))
  refine Go.by' (fun t k => (XS.isub X0.here hx rfl (hb hby d37_3) rfl k)) ?_
  show Go p.tables e below Pf (s₁.setTop (mkF m 4 #[vr ba, vi (2 : Int32)] [(.int ((2 : Int32) - (2 : Int32)))]))
  refine Go.castF (a := ((2 : Int32) - (2 : Int32))) (b := (0 : Int32)) (fun z' : Int32 => mkF m 4 #[vr ba, vi (2 : Int32)] [(.int z')]) (by decide) ?_
  show Go p.tables e below Pf (s₁.setTop (mkF m 4 #[vr ba, vi (2 : Int32)] [(.int (0 : Int32))]))
  refine Go.by' (fun t k => (XS.bipush X0.here hx rfl (hb hby d37_4) (XS.iushr X0.here hx rfl (hb hby d37_6) rfl k))) ?_
  show Go p.tables e below Pf (s₁.setTop (mkF m 7 #[vr ba, vi (2 : Int32)] [(.int (((0 : Int32).toUInt32 >>> ((31 : Int32) &&& 31).toUInt32).toInt32))]))
  refine Go.castF (a := (((0 : Int32).toUInt32 >>> ((31 : Int32) &&& 31).toUInt32).toInt32)) (b := (0 : Int32)) (fun z' : Int32 => mkF m 7 #[vr ba, vi (2 : Int32)] [(.int z')]) (by decide) ?_
  show Go p.tables e below Pf (s₁.setTop (mkF m 7 #[vr ba, vi (2 : Int32)] [(.int (0 : Int32))]))
  refine Go.by' (fun t k => (XS.i2b X0.here hx rfl (hb hby d37_7) rfl k)) ?_
  show Go p.tables e below Pf (s₁.setTop (mkF m 8 #[vr ba, vi (2 : Int32)] [(.int ((0 : Int32).toInt8.toInt32))]))
  refine Go.castF (a := ((0 : Int32).toInt8.toInt32)) (b := (0 : Int32)) (fun z' : Int32 => mkF m 8 #[vr ba, vi (2 : Int32)] [(.int z')]) (by decide) ?_
  show Go p.tables e below Pf (s₁.setTop (mkF m 8 #[vr ba, vi (2 : Int32)] [(.int (0 : Int32))]))
  rw [hPf]
  exact Go.retI' X0 hx hret hlk (by simp) rfl (hb hby d37_8) (by decide) (by decide) ⟨rfl, rfl, e0⟩
set_option maxHeartbeats 4000000 in
theorem ef_rmS4_2 (m : MethodId) {sa : Addr} {ca : Addr} : entryFrame m #[(.ref sa), (.ref ca), (.int (0 : Int32)), (.int (2 : Int32)), .null] 6 = mkF m 0 #[vr sa, vr ca, vi (0 : Int32), vi (2 : Int32), .val .null, .unset] [] := by first | (simp [entryFrame, mkF, argsToLocals, Value.category]; done) | rfl
def QrmS4_2 (Z : State) (vcs : Int32) (vfm : Value) (sa : Addr) (ca : Addr) (kc : ClassId) (c0 : Int32) (c1 : Int32) (h0 : Heap) (n0 : Nat) (v : Option Value) (h : Heap) (L : List Loc) : Prop := ∃ (rb : Addr) (kb : ClassId), (v = none) ∧ (Fr n0 L) ∧ (Keep h0 h [sa]) ∧ (Exa Z h sa "java/lang/String") ∧ (Fld Z h sa "java/lang/String" "value" "[B" (.ref rb)) ∧ (Fld Z h sa "java/lang/String" "coder" "B" (.int (0 : Int32))) ∧ (Arv Z h rb kb .byte (2 : Int32) [(.int (c0.toInt8.toInt32)), (.int (c1.toInt8.toInt32))] (.int (0 : Int32))) ∧ (h0.size ≤ rb)
set_option maxRecDepth 65536 in
set_option maxHeartbeats 40000000 in
theorem rmS4_2 (l : Launch) (Z : State) (a0 : Array Value) (hw : ∀ d ∈ tables_1, d.before a0 Z = true) (ws : List Jvm.Cond) (vcs : Int32) (vfm : Value) (G : Gh Z vcs vfm) (sa : Addr) (ca : Addr) (kc : ClassId) (c0 : Int32) (c1 : Int32) (h0 : Heap) (n0 : Nat) (O0 : Old Z n0 h0) (EX : Exa Z h0 sa "java/lang/String") (FV : Fld Z h0 sa "java/lang/String" "value" "[B" .null) (FC : Fld Z h0 sa "java/lang/String" "coder" "B" (.int (0 : Int32))) (g_sa : n0 ≤ sa) (VC : Arv Z h0 ca kc .char (2 : Int32) [(.int c0), (.int c1)] (.int (0 : Int32))) (hne : sa ≠ ca) (hb0 : ¬ ((255 : Int32) < c0)) (hb1 : ¬ ((255 : Int32) < c1)) :
    MetFree l (⟨"java/lang/String", "<init>", "([CIILjava/lang/Void;)V"⟩ : MethodName) (head1 (Jvm.Cond.code (⟨"java/lang/String", "<init>", "([CIILjava/lang/Void;)V"⟩ : MethodName) jdk_42_method_149_code 6 none :: ws) ({ frames := 2, cells := 1, slots := 2, locals := 35 } : Room)) (fun aa' UU' => aa' = #[(.ref sa), (.ref ca), (.int (0 : Int32)), (.int (2 : Int32)), .null] ∧ Z.Warmed39 UU'.vm ∧ UU'.heap = h0) (fun _ _ _ _ _ => True) (fun _ UU' oo' VV' => ∃ v' L', oo' = .returned v' ∧ QrmS4_2 Z vcs vfm sa ca kc c0 c1 h0 n0 v' VV'.heap L' ∧ FrameEnd UU' oo' VV' L' ({ frames := 2, cells := 1, slots := 2, locals := 35 } : Room).cells ({ frames := 2, cells := 1, slots := 2, locals := 35 } : Room).slots) := by
  refine MetFree.of_bodySF (plainFor_of_name pn_3) hisR ?_
  intro p e s m args below meth c s₁ Bd hml0 hP hK
  obtain ⟨rfl, hZ, hh⟩ := hP
  have hx := Bd.exec
  have hby := Bd.bytes
  have hlk := Bd.notSynchronized
  have hml : c.maxLocals = 6 := hml0
  have hown : s.vm.findClass "java/lang/String" = some m.cls := findClass_of_methodNamed Bd.named
  have hnm := (name_of_methodNamed Bd.named Bd.method).1
  have hret := Bd.returns
  have X0 : Stand p l e ({ frames := 2, cells := 1, slots := 2, locals := 35 } : Room) s m #[(.ref sa), (.ref ca), (.int (0 : Int32)), (.int (2 : Int32)), .null] below meth c s₁ [] 0 0 := Stand.of_body Bd
  have e0 : s₁.heap = h0 := by rw [← hh, Bd.state]; rfl
  have N0 := Fr.nil n0
  have KC0 : Keep h0 h0 [sa] := Keep.refl _ _
  refine Go.body ?_
  obtain ⟨Pf, hPf⟩ : ∃ P, P = Fin' s below ({ frames := 2, cells := 1, slots := 2, locals := 35 } : Room).cells ({ frames := 2, cells := 1, slots := 2, locals := 35 } : Room).slots (QrmS4_2 Z vcs vfm sa ca kc c0 c1 h0 n0) := ⟨_, rfl⟩
  rw [← hPf]
  refine Go.cast (ef_rmS4_2 m) ?_
  have hw6 := (hw _ (List.mem_of_getElem? (i := 6) rfl))
  have hw16 := (hw _ (List.mem_of_getElem? (i := 16) rfl))
  have hw17 := (hw _ (List.mem_of_getElem? (i := 17) rfl))
  have hw18 := (hw _ (List.mem_of_getElem? (i := 18) rfl))
  have hw21 := (hw _ (List.mem_of_getElem? (i := 21) rfl))
  have hw22 := (hw _ (List.mem_of_getElem? (i := 22) rfl))
  have hw25 := (hw _ (List.mem_of_getElem? (i := 25) rfl))
  have hw26 := (hw _ (List.mem_of_getElem? (i := 26) rfl))
  have hw86 := (hw _ (List.mem_of_getElem? (i := 86) rfl))
  have hw186 := (hw _ (List.mem_of_getElem? (i := 186) rfl))
  have hw187 := (hw _ (List.mem_of_getElem? (i := 187) rfl))
  have hw188 := (hw _ (List.mem_of_getElem? (i := 188) rfl))
  have hw189 := (hw _ (List.mem_of_getElem? (i := 189) rfl))
  have hw193 := (hw _ (List.mem_of_getElem? (i := 193) rfl))
  have hw194 := (hw _ (List.mem_of_getElem? (i := 194) rfl))
  have hw195 := (hw _ (List.mem_of_getElem? (i := 195) rfl))
  show Go p.tables e below Pf (s₁.setTop (mkF m 0 #[vr sa, vr ca, vi (0 : Int32), vi (2 : Int32), .val .null, .unset] []))
  refine Go.by' (fun t k => (XS.aloadN X0.here hx rfl (hb hby d3_0) rfl rfl k)) ?_
  obtain ⟨T27, X27, e27, st27⟩ := initO X0 hx hZ hown hw16 hw17 hw18 e0 (g := (mkF m 1 #[vr sa, vr ca, vi (0 : Int32), vi (2 : Int32), .val .null, .unset] [(.ref sa)])) rfl (by rw [hml]; rfl) rfl (hb hby d3_1) (by decide) (W := 0) (by show 2 * 0 + _ ≤ _; exact Nat.le_of_eq rfl) (by decide)
  refine Go.by' st27 ?_
  show Go p.tables e below Pf (T27.setTop (mkF m 4 #[vr sa, vr ca, vi (0 : Int32), vi (2 : Int32), .val .null, .unset] []))
  refine Go.by' (fun t k => (XS.iloadN X27.here hx rfl (hb hby d3_4) rfl (XS.ifYes X27.here hx rfl (pc0 := 5) (pc' := 27) rfl (hb hby d3_5) rfl ((if0 _ _).trans (feq (by decide)).2) (by decide) (by decide) k))) ?_
  obtain ⟨T28, X28, e28, st28⟩ := getS2 X27 hx hZ hown (host := "") (Or.inl hw86) Via.refl e27 (G.1.ext O0.2) (g := (mkF m 27 #[vr sa, vr ca, vi (0 : Int32), vi (2 : Int32), .val .null, .unset] [])) rfl (hb hby d3_27)
  refine Go.by' st28 ?_
  show Go p.tables e below Pf (T28.setTop (mkF m 30 #[vr sa, vr ca, vi (0 : Int32), vi (2 : Int32), .val .null, .unset] [(.int vcs)]))
  refine Go.by' (fun t k => (XS.ifNo X28.here hx rfl (hb hby d3_30) rfl ((if0 _ _).trans (feq G.2.1).1) (XS.aloadN X28.here hx rfl (hb hby d3_33) rfl rfl (XS.iloadN X28.here hx rfl (hb hby d3_34) rfl (XS.iloadN X28.here hx rfl (hb hby d3_35) rfl k))))) ?_
  obtain ⟨_, _, ⟨T29, L29, k29, n29⟩, -, X29, ⟨Lc29, hQ29, l29, y29, z29⟩, st29⟩ := Jvm.LawKit.callS X28 hx (y := (⟨"java/lang/StringUTF16", "compress", "([CII)[B"⟩ : MethodName)) hown (mvT hZ hw186) (mvT hZ hw187) (mvT hZ hw188) (mvT hZ hw189) (by decide) (backOf (W := 0) (rmC3_2 l Z a0 hw [] vcs vfm G ca kc c0 c1 h0 n0 O0 VC hb0 hb1) hZ hw189 hw188 (by decide) (by decide)) (g := (mkF m 36 #[vr sa, vr ca, vi (0 : Int32), vi (2 : Int32), .val .null, .unset] [(.int (2 : Int32)), (.int (0 : Int32)), (.ref ca)])) rfl (by rw [hml]; rfl) (argsL := [(.ref ca), (.int (0 : Int32)), (.int (2 : Int32))]) (rest := []) (lenOf pd_1 rfl) rfl (by show 2 * 0 + _ ≤ _; exact Nat.le_of_eq rfl) (hb hby d3_36) (fun _ _ => ⟨rfl, e28, (by decide : 0 + 1 ≤ _), (by decide : 0 + 2 ≤ _)⟩)
  dsimp only [Pt.U, Pt.locs, Pt.cells, Pt.slots] at X29 l29 y29 z29 st29 hQ29
  subst l29 y29 z29
  obtain ⟨rb_29, kb_29, rfl, N29q, K29, f29_0, f29_1⟩ := hQ29
  have N29 := Fr.app N0 N29q
  obtain ⟨lc29, X29, N29⟩ := own_pack X29 N29
  refine Go.by' st29 ?_
  have g_rb_29 : n0 ≤ rb_29 := Nat.le_trans (own_le O0) f29_1
  have sz_rb_29 : h0.size ≤ rb_29 := Nat.le_trans KC0.1 f29_1
  have O29 := O0.keep K29 all0
  have KC29 : Keep h0 T29.heap [sa] := KC0.trans K29 all0
  show Go p.tables e below Pf (T29.setTop (mkF m 39 #[vr sa, vr ca, vi (0 : Int32), vi (2 : Int32), .val .null, .unset] [(.ref rb_29)]))
  refine Go.by' (fun t k => (XS.astore X29.here hx rfl (hb hby d3_39) rfl rfl (l' := #[vr sa, vr ca, vi (0 : Int32), vi (2 : Int32), .val .null, vr rb_29]) rfl (XS.aloadN X29.here hx rfl (hb hby d3_41) rfl rfl (XS.aload X29.here hx rfl (hb hby d3_42) rfl rfl (XS.iloadN X29.here hx rfl (hb hby d3_44) rfl k))))) ?_
  obtain ⟨_, _, ⟨T30, L30, k30, n30⟩, -, X30, ⟨Lc30, hQ30, l30, y30, z30⟩, st30⟩ := Jvm.LawKit.callS X29 hx (y := (⟨"java/lang/StringUTF16", "coderFromArrayLen", "([BI)B"⟩ : MethodName)) hown (mvT hZ hw193) (mvT hZ hw194) (mvT hZ hw188) (mvT hZ hw195) (by decide) (backOf (W := 1) (rmCL_2 l Z a0 hw [] vcs vfm G rb_29 kb_29 ((Value.int (c0.toInt8.toInt32))) ((Value.int (c1.toInt8.toInt32))) T29.heap n0 O29 f29_0) hZ hw195 hw188 (by decide) (by decide)) (g := (mkF m 45 #[vr sa, vr ca, vi (0 : Int32), vi (2 : Int32), .val .null, vr rb_29] [(.int (2 : Int32)), (.ref rb_29), (.ref sa)])) rfl (by rw [hml]; rfl) (argsL := [(.ref rb_29), (.int (2 : Int32))]) (rest := [(.ref sa)]) (lenOf pd_2 rfl) rfl (by show 2 * 0 + _ ≤ _; exact Nat.le_of_eq rfl) (hb hby d3_45) (fun _ _ => ⟨rfl, rfl, (by decide : 1 + 0 ≤ _), (by decide : 2 + 0 ≤ _)⟩)
  dsimp only [Pt.U, Pt.locs, Pt.cells, Pt.slots] at X30 l30 y30 z30 st30 hQ30
  subst l30 y30 z30
  obtain ⟨rfl, rfl, e30⟩ := hQ30
  try replace X30 := own_nil X30
  refine Go.by' st30 ?_
  obtain ⟨T31, h31, X31, e31, W31, st31⟩ := putFN X30 hx hZ hown hw26 Via.refl e30 (FC.keep K29 nin0) (EX.keep K29) (Or.inr ⟨hw22, rfl, hnm⟩) hw6 (ty := .byte) (v' := (.int (0 : Int32))) (by decide) rfl rfl (g := (mkF m 48 #[vr sa, vr ca, vi (0 : Int32), vi (2 : Int32), .val .null, vr rb_29] [(.int (0 : Int32)), (.ref sa)])) rfl rfl (hb hby d3_48)
  refine Go.by' st31 ?_
  have Fw31 : Fld Z h31 sa "java/lang/String" "coder" "B" (Value.int (0 : Int32)) := (FC.keep K29 nin0).same W31
  have N31 := Fr.snoc X31 N29 g_sa
  obtain ⟨lc31, X31, N31⟩ := own_pack X31 N31
  have O31 := O29.wr W31 g_sa
  have KC31 : Keep h0 h31 [sa] := KC29.wr W31 (Or.inl (List.mem_of_getElem? (i := 0) rfl))
  show Go p.tables e below Pf (T31.setTop (mkF m 51 #[vr sa, vr ca, vi (0 : Int32), vi (2 : Int32), .val .null, vr rb_29] []))
  refine Go.by' (fun t k => (XS.aloadN X31.here hx rfl (hb hby d3_51) rfl rfl (XS.aload X31.here hx rfl (hb hby d3_52) rfl rfl k))) ?_
  have c32 := ((EX.keep K29).wr W31)
  have c33 := ((FV.keep K29 nin0).other W31 (Or.inr (slot_ne (Or.inr hw21) (Or.inr hw22) (by decide) (t := (.array .byte)) (t' := .byte) (by decide) (by decide))))
  obtain ⟨T34, h34, X34, e34, W34, st34⟩ := putF X31 hx hZ hown (host := "") (Or.inl hw25) Via.refl e31 c33 c32 (Or.inr ⟨hw21, rfl, hnm⟩) hw6 (ty := (.array .byte)) (by decide) rfl rfl (g := (mkF m 54 #[vr sa, vr ca, vi (0 : Int32), vi (2 : Int32), .val .null, vr rb_29] [(.ref rb_29), (.ref sa)])) rfl rfl (hb hby d3_54)
  refine Go.by' st34 ?_
  have Fw34 : Fld Z h34 sa "java/lang/String" "value" "[B" (Value.ref rb_29) := c33.same W34
  have N34 := Fr.snoc X34 N31 g_sa
  obtain ⟨lc34, X34, N34⟩ := own_pack X34 N34
  have O34 := O31.wr W34 g_sa
  have KC34 : Keep h0 h34 [sa] := KC31.wr W34 (Or.inl (List.mem_of_getElem? (i := 0) rfl))
  have c35 := ((f29_0.other W31 (Ne.symm (Nat.ne_of_lt (Nat.lt_of_lt_of_le EX.lt f29_1)))).other W34 (Ne.symm (Nat.ne_of_lt (Nat.lt_of_lt_of_le EX.lt f29_1))))
  show Go p.tables e below Pf (T34.setTop (mkF m 57 #[vr sa, vr ca, vi (0 : Int32), vi (2 : Int32), .val .null, vr rb_29] []))
  rw [hPf]
  exact Go.retV' X34 hx hret hlk (hb hby d3_57) (by decide) (by decide) ⟨rb_29, kb_29, rfl, N34, (by rw [e34]; exact KC34), (by rw [e34]; exact (c32.wr W34)), (by rw [e34]; exact Fw34), (by rw [e34]; exact (Fw31.other W34 (Or.inr (slot_ne (Or.inr hw22) (Or.inr hw21) (by decide) (t := .byte) (t' := (.array .byte)) (by decide) (by decide))))), (by rw [e34]; exact c35), sz_rb_29⟩
set_option maxHeartbeats 4000000 in
theorem ef_rmS1_2 (m : MethodId) {sa : Addr} {ca : Addr} : entryFrame m #[(.ref sa), (.ref ca)] 2 = mkF m 0 #[vr sa, vr ca] [] := by first | (simp [entryFrame, mkF, argsToLocals, Value.category]; done) | rfl
def QrmS1_2 (Z : State) (vcs : Int32) (vfm : Value) (sa : Addr) (ca : Addr) (kc : ClassId) (c0 : Int32) (c1 : Int32) (h0 : Heap) (n0 : Nat) (v : Option Value) (h : Heap) (L : List Loc) : Prop := ∃ (rb : Addr) (kb : ClassId), (v = none) ∧ (Fr n0 L) ∧ (Keep h0 h [sa]) ∧ (Exa Z h sa "java/lang/String") ∧ (Fld Z h sa "java/lang/String" "value" "[B" (.ref rb)) ∧ (Fld Z h sa "java/lang/String" "coder" "B" (.int (0 : Int32))) ∧ (Arv Z h rb kb .byte (2 : Int32) [(.int (c0.toInt8.toInt32)), (.int (c1.toInt8.toInt32))] (.int (0 : Int32))) ∧ (h0.size ≤ rb)
set_option maxRecDepth 65536 in
set_option maxHeartbeats 40000000 in
theorem rmS1_2 (l : Launch) (Z : State) (a0 : Array Value) (hw : ∀ d ∈ tables_1, d.before a0 Z = true) (ws : List Jvm.Cond) (vcs : Int32) (vfm : Value) (G : Gh Z vcs vfm) (sa : Addr) (ca : Addr) (kc : ClassId) (c0 : Int32) (c1 : Int32) (h0 : Heap) (n0 : Nat) (O0 : Old Z n0 h0) (EX : Exa Z h0 sa "java/lang/String") (FV : Fld Z h0 sa "java/lang/String" "value" "[B" .null) (FC : Fld Z h0 sa "java/lang/String" "coder" "B" (.int (0 : Int32))) (g_sa : n0 ≤ sa) (VC : Arv Z h0 ca kc .char (2 : Int32) [(.int c0), (.int c1)] (.int (0 : Int32))) (hne : sa ≠ ca) (hb0 : ¬ ((255 : Int32) < c0)) (hb1 : ¬ ((255 : Int32) < c1)) :
    MetFree l (⟨"java/lang/String", "<init>", "([C)V"⟩ : MethodName) (head1 (Jvm.Cond.code (⟨"java/lang/String", "<init>", "([C)V"⟩ : MethodName) jdk_42_method_3_code 2 none :: ws) ({ frames := 3, cells := 1, slots := 2, locals := 52 } : Room)) (fun aa' UU' => aa' = #[(.ref sa), (.ref ca)] ∧ Z.Warmed39 UU'.vm ∧ UU'.heap = h0) (fun _ _ _ _ _ => True) (fun _ UU' oo' VV' => ∃ v' L', oo' = .returned v' ∧ QrmS1_2 Z vcs vfm sa ca kc c0 c1 h0 n0 v' VV'.heap L' ∧ FrameEnd UU' oo' VV' L' ({ frames := 3, cells := 1, slots := 2, locals := 52 } : Room).cells ({ frames := 3, cells := 1, slots := 2, locals := 52 } : Room).slots) := by
  refine MetFree.of_bodySF (plainFor_of_name pn_2) hisR ?_
  intro p e s m args below meth c s₁ Bd hml0 hP hK
  obtain ⟨rfl, hZ, hh⟩ := hP
  have hx := Bd.exec
  have hby := Bd.bytes
  have hlk := Bd.notSynchronized
  have hml : c.maxLocals = 2 := hml0
  have hown : s.vm.findClass "java/lang/String" = some m.cls := findClass_of_methodNamed Bd.named
  have hnm := (name_of_methodNamed Bd.named Bd.method).1
  have hret := Bd.returns
  have X0 : Stand p l e ({ frames := 3, cells := 1, slots := 2, locals := 52 } : Room) s m #[(.ref sa), (.ref ca)] below meth c s₁ [] 0 0 := Stand.of_body Bd
  have e0 : s₁.heap = h0 := by rw [← hh, Bd.state]; rfl
  have N0 := Fr.nil n0
  have KC0 : Keep h0 h0 [sa] := Keep.refl _ _
  refine Go.body ?_
  obtain ⟨Pf, hPf⟩ : ∃ P, P = Fin' s below ({ frames := 3, cells := 1, slots := 2, locals := 52 } : Room).cells ({ frames := 3, cells := 1, slots := 2, locals := 52 } : Room).slots (QrmS1_2 Z vcs vfm sa ca kc c0 c1 h0 n0) := ⟨_, rfl⟩
  rw [← hPf]
  refine Go.cast (ef_rmS1_2 m) ?_
  have hw7 := (hw _ (List.mem_of_getElem? (i := 7) rfl))
  have hw12 := (hw _ (List.mem_of_getElem? (i := 12) rfl))
  have hw13 := (hw _ (List.mem_of_getElem? (i := 13) rfl))
  have hw15 := (hw _ (List.mem_of_getElem? (i := 15) rfl))
  show Go p.tables e below Pf (s₁.setTop (mkF m 0 #[vr sa, vr ca] []))
  refine Go.by' (fun t k => (XS.aloadN X0.here hx rfl (hb hby d2_0) rfl rfl (XS.aloadN X0.here hx rfl (hb hby d2_1) rfl rfl (XS.iconst X0.here hx rfl (hb hby d2_2) (XS.aloadN X0.here hx rfl (hb hby d2_3) rfl rfl k))))) ?_
  obtain ⟨cl36, Ar36, -, S36, P36, -, -⟩ := (id VC)
  show Go p.tables e below Pf (s₁.setTop (mkF m 4 #[vr sa, vr ca] [(.ref ca), (.int (0 : Int32)), (.ref ca), (.ref sa)]))
  refine Go.by' (fun t k => (X0.arraylength hx (by rw [e0]; exact Ar36.1) (State.isArrayOf_alike hZ.alike Ar36.2.1) (g := (mkF m 4 #[vr sa, vr ca] [(.ref ca), (.int (0 : Int32)), (.ref ca), (.ref sa)])) rfl rfl (hb hby d2_4) t k)) ?_
  rw [len_of S36 P36]
  show Go p.tables e below Pf (s₁.setTop (mkF m 5 #[vr sa, vr ca] [(.int (2 : Int32)), (.int (0 : Int32)), (.ref ca), (.ref sa)]))
  refine Go.by' (fun t k => (XS.aconstNull X0.here hx rfl (hb hby d2_5) k)) ?_
  obtain ⟨_, _, ⟨T37, L37, k37, n37⟩, -, X37, ⟨Lc37, hQ37, l37, y37, z37⟩, st37⟩ := X0.specialBack hx (y := (⟨"java/lang/String", "<init>", "([CIILjava/lang/Void;)V"⟩ : MethodName)) rfl hown (mvT hZ hw12) (mvT hZ hw13) (mvT hZ hw15) (by decide) (backOf (W := 0) (rmS4_2 l Z a0 hw [] vcs vfm G sa ca kc c0 c1 h0 n0 O0 EX FV FC g_sa VC hne hb0 hb1) hZ hw15 hw7 (by decide) (by decide)) (g := (mkF m 6 #[vr sa, vr ca] [.null, (.int (2 : Int32)), (.int (0 : Int32)), (.ref ca), (.ref sa)])) rfl (by rw [hml]; rfl) (Steps.refl _) (a := sa) (argsL := [(.ref ca), (.int (0 : Int32)), (.int (2 : Int32)), .null]) (rest := []) (lenOf pd_3 rfl) rfl (by show 2 * 0 + _ ≤ _; exact Nat.le_of_eq rfl) (hb hby d2_6) (fun _ _ => ⟨rfl, e0, (by decide : 0 + 1 ≤ _), (by decide : 0 + 2 ≤ _)⟩)
  dsimp only [Pt.U, Pt.locs, Pt.cells, Pt.slots] at X37 l37 y37 z37 st37 hQ37
  subst l37 y37 z37
  obtain ⟨rb_37, kb_37, rfl, N37q, K37, f37_0, f37_1, f37_2, f37_3, f37_4⟩ := hQ37
  have N37 := Fr.app N0 N37q
  obtain ⟨lc37, X37, N37⟩ := own_pack X37 N37
  refine Go.by' (fun t k => st37.trans k) ?_
  have g_rb_37 : n0 ≤ rb_37 := Nat.le_trans (own_le O0) f37_4
  have sz_rb_37 : h0.size ≤ rb_37 := Nat.le_trans KC0.1 f37_4
  have O37 := O0.keep K37 (allS g_sa all0)
  have KC37 : Keep h0 T37.heap [sa] := KC0.trans K37 (allS (Or.inl (List.mem_of_getElem? (i := 0) rfl)) all0)
  show Go p.tables e below Pf (T37.setTop (mkF m 9 #[vr sa, vr ca] []))
  rw [hPf]
  exact Go.retV' X37 hx hret hlk (hb hby d2_9) (by decide) (by decide) ⟨rb_37, kb_37, rfl, N37, KC37, f37_0, f37_1, f37_2, f37_3, sz_rb_37⟩
theorem d3_8 : decode jdk_42_method_149_code 8 = .ok (.aload_n 0, 1) := by decide +kernel
theorem d3_9 : decode jdk_42_method_149_code 9 = .ok (.ldc 7, 2) := by decide +kernel
theorem d3_11 : decode jdk_42_method_149_code 11 = .ok (.getfield 9, 3) := by decide +kernel
theorem d3_14 : decode jdk_42_method_149_code 14 = .ok (.putfield 9, 3) := by decide +kernel
theorem d3_17 : decode jdk_42_method_149_code 17 = .ok (.aload_n 0, 1) := by decide +kernel
theorem d3_18 : decode jdk_42_method_149_code 18 = .ok (.ldc 7, 2) := by decide +kernel
theorem d3_20 : decode jdk_42_method_149_code 20 = .ok (.getfield 15, 3) := by decide +kernel
theorem d3_23 : decode jdk_42_method_149_code 23 = .ok (.putfield 15, 3) := by decide +kernel
theorem d3_26 : decode jdk_42_method_149_code 26 = .ok (.return_, 1) := by decide +kernel
set_option maxHeartbeats 4000000 in
theorem ef_rmS4_0 (m : MethodId) {sa : Addr} {ca : Addr} : entryFrame m #[(.ref sa), (.ref ca), (.int (0 : Int32)), (.int (0 : Int32)), .null] 6 = mkF m 0 #[vr sa, vr ca, vi (0 : Int32), vi (0 : Int32), .val .null, .unset] [] := by first | (simp [entryFrame, mkF, argsToLocals, Value.category]; done) | rfl
def QrmS4_0 (Z : State) (vcs : Int32) (vfm : Value) (sa : Addr) (ca : Addr) (kc : ClassId) (h0 : Heap) (n0 : Nat) (v : Option Value) (h : Heap) (vm : Vm) (L : List Loc) : Prop := ∃ (rb : Addr) (kb : ClassId), (v = none) ∧ (Fr n0 L) ∧ (Keep h0 h [sa]) ∧ (Exa Z h sa "java/lang/String") ∧ (Fld Z h sa "java/lang/String" "value" "[B" (.ref rb)) ∧ (Fld Z h sa "java/lang/String" "coder" "B" (.int (0 : Int32))) ∧ (Arv Z h rb kb .byte (0 : Int32) [] (.int (0 : Int32))) ∧ (Safe Z consts_1 vm h sa)
set_option maxRecDepth 65536 in
set_option maxHeartbeats 40000000 in
theorem rmS4_0 (l : Launch) (Z : State) (a0 : Array Value) (hw : ∀ d ∈ tables_1, d.before a0 Z = true) (ws : List Jvm.Cond) (vcs : Int32) (vfm : Value) (G : Gh Z vcs vfm) (sa : Addr) (ca : Addr) (kc : ClassId) (h0 : Heap) (n0 : Nat) (O0 : Old Z n0 h0) (EX : Exa Z h0 sa "java/lang/String") (FV : Fld Z h0 sa "java/lang/String" "value" "[B" .null) (FC : Fld Z h0 sa "java/lang/String" "coder" "B" (.int (0 : Int32))) (g_sa : n0 ≤ sa) (VC : Arv Z h0 ca kc .char (0 : Int32) [] (.int (0 : Int32))) :
    MetFree l (⟨"java/lang/String", "<init>", "([CIILjava/lang/Void;)V"⟩ : MethodName) (head1 (Jvm.Cond.code (⟨"java/lang/String", "<init>", "([CIILjava/lang/Void;)V"⟩ : MethodName) jdk_42_method_149_code 6 none :: ws) ({ frames := 1, cells := 4, slots := 8, locals := 12 } : Room)) (fun aa' UU' => aa' = #[(.ref sa), (.ref ca), (.int (0 : Int32)), (.int (0 : Int32)), .null] ∧ Z.Warmed39 UU'.vm ∧ UU'.heap = h0 ∧ CHv Z consts_1 UU'.vm h0 ∧ ∀ x ∈ ([sa] : List Addr), Safe Z consts_1 UU'.vm h0 x) (fun _ _ _ _ _ => True) (fun _ UU' oo' VV' => ∃ v' L', oo' = .returned v' ∧ QrmS4_0 Z vcs vfm sa ca kc h0 n0 v' VV'.heap VV'.vm L' ∧ CHr Z consts_1 UU'.vm UU'.heap VV'.vm VV'.heap ∧ ReturnedEndW UU' oo' VV' L' ({ frames := 1, cells := 4, slots := 8, locals := 12 } : Room).cells ({ frames := 1, cells := 4, slots := 8, locals := 12 } : Room).slots) := by
  refine MetFree.of_bodySF (plainFor_of_name pn_3) hisR ?_
  intro p e s m args below meth c s₁ Bd hml0 hP hK
  obtain ⟨rfl, hZ, hh, hCH, hSf⟩ := hP
  have hx := Bd.exec
  have hby := Bd.bytes
  have hlk := Bd.notSynchronized
  have hml : c.maxLocals = 6 := hml0
  have hown : s.vm.findClass "java/lang/String" = some m.cls := findClass_of_methodNamed Bd.named
  have hnm := (name_of_methodNamed Bd.named Bd.method).1
  have hret := Bd.returns
  have X0 : Stand p l e ({ frames := 1, cells := 4, slots := 8, locals := 12 } : Room) (s.setVm s.vm) m #[(.ref sa), (.ref ca), (.int (0 : Int32)), (.int (0 : Int32)), .null] below meth c s₁ [] 0 0 := Stand.of_body Bd
  have e0 : s₁.heap = h0 := by rw [← hh, Bd.state]; rfl
  have N0 := Fr.nil n0
  have KC0 : Keep h0 h0 [sa] := Keep.refl _ _
  have Sb0 := Sb.start hZ hown hCH
  have hEL := own_EW hw
  have hSA := own_SA hw
  refine Go.bodyS ?_
  obtain ⟨Pf, hPf⟩ : ∃ P, P = FinS Z consts_1 s below ({ frames := 1, cells := 4, slots := 8, locals := 12 } : Room).cells ({ frames := 1, cells := 4, slots := 8, locals := 12 } : Room).slots (QrmS4_0 Z vcs vfm sa ca kc h0 n0) := ⟨_, rfl⟩
  rw [← hPf]
  refine Go.cast (ef_rmS4_0 m) ?_
  have hw6 := (hw _ (List.mem_of_getElem? (i := 6) rfl))
  have hw16 := (hw _ (List.mem_of_getElem? (i := 16) rfl))
  have hw17 := (hw _ (List.mem_of_getElem? (i := 17) rfl))
  have hw18 := (hw _ (List.mem_of_getElem? (i := 18) rfl))
  have hw19 := (hw _ (List.mem_of_getElem? (i := 19) rfl))
  have hw21 := (hw _ (List.mem_of_getElem? (i := 21) rfl))
  have hw22 := (hw _ (List.mem_of_getElem? (i := 22) rfl))
  have hw25 := (hw _ (List.mem_of_getElem? (i := 25) rfl))
  have hw26 := (hw _ (List.mem_of_getElem? (i := 26) rfl))
  show Go p.tables e below Pf (s₁.setTop (mkF m 0 #[vr sa, vr ca, vi (0 : Int32), vi (0 : Int32), .val .null, .unset] []))
  refine Go.by' (fun t k => (XS.aloadN X0.here hx rfl (hb hby d3_0) rfl rfl k)) ?_
  obtain ⟨T38, X38, e38, st38⟩ := initO X0 hx hZ hown hw16 hw17 hw18 e0 (g := (mkF m 1 #[vr sa, vr ca, vi (0 : Int32), vi (0 : Int32), .val .null, .unset] [(.ref sa)])) rfl (by rw [hml]; rfl) rfl (hb hby d3_1) (by decide) (W := 0) (by show 2 * 0 + _ ≤ _; exact Nat.le_of_eq rfl) (by decide)
  refine Go.by' st38 ?_
  show Go p.tables e below Pf (T38.setTop (mkF m 4 #[vr sa, vr ca, vi (0 : Int32), vi (0 : Int32), .val .null, .unset] []))
  refine Go.by' (fun t k => (XS.iloadN X38.here hx rfl (hb hby d3_4) rfl (XS.ifNo X38.here hx rfl (hb hby d3_5) rfl ((if0 _ _).trans (teq (by decide)).2) (XS.aloadN X38.here hx rfl (hb hby d3_8) rfl rfl k)))) ?_
  obtain ⟨T39, h39, a39, bb39, kb39, X39, e39, E39, Sb39, A39, Ex39, Fc39, Fv39, Vb39, Ne39, st39⟩ := own_ldc X38 hx Sb0 hw19 hSA e38 hEL (List.mem_of_getElem? (i := 1) rfl) (vs := []) (z := (0 : Int32)) (by decide +kernel) (by decide) rfl (g := (mkF m 9 #[vr sa, vr ca, vi (0 : Int32), vi (0 : Int32), .val .null, .unset] [(.ref sa)])) rfl (hb hby d3_9) (n := 0) (by decide +kernel) (by decide) (by decide) (by decide)
  refine Go.by' st39 ?_
  have O39 := O0.ext E39
  have KC39 : Keep h0 h39 [sa] := KC0.ext E39
  have hZ39 := Sb39.hZ
  have hO39 := Sb39.hO
  obtain ⟨T40, X40, e40, st40⟩ := getF X39 hx hZ39 hO39 (host := "") (Or.inl hw25) Via.refl e39 Fv39 (g := (mkF m 11 #[vr sa, vr ca, vi (0 : Int32), vi (0 : Int32), .val .null, .unset] [(.ref a39), (.ref sa)])) rfl rfl (hb hby d3_11)
  refine Go.by' st40 ?_
  obtain ⟨T41, h41, X41, e41, W41, st41⟩ := putF X40 hx hZ39 hO39 (host := "") (Or.inl hw25) Via.refl e40 (FV.ext E39) (EX.ext E39) (Or.inr ⟨hw21, rfl, hnm⟩) hw6 (ty := (.array .byte)) (by decide) rfl rfl (g := (mkF m 14 #[vr sa, vr ca, vi (0 : Int32), vi (0 : Int32), .val .null, .unset] [(.ref bb39), (.ref sa)])) rfl rfl (hb hby d3_14)
  refine Go.by' st41 ?_
  have Fw41 : Fld Z h41 sa "java/lang/String" "value" "[B" (Value.ref bb39) := (FV.ext E39).same W41
  have N41 := Fr.snoc X41 N0 g_sa
  obtain ⟨lc41, X41, N41⟩ := own_pack X41 N41
  have Sb41 := Sb39.wr W41 (A39.safe EX.lt (hSf sa (List.mem_of_getElem? (i := 0) rfl)))
  have O41 := O39.wr W41 g_sa
  have KC41 : Keep h0 h41 [sa] := KC39.wr W41 (Or.inl (List.mem_of_getElem? (i := 0) rfl))
  show Go p.tables e below Pf (T41.setTop (mkF m 17 #[vr sa, vr ca, vi (0 : Int32), vi (0 : Int32), .val .null, .unset] []))
  refine Go.by' (fun t k => (XS.aloadN X41.here hx rfl (hb hby d3_17) rfl rfl k)) ?_
  obtain ⟨T42, h42, a42, bb42, kb42, X42, e42, E42, Sb42, A42, Ex42, Fc42, Fv42, Vb42, Ne42, st42⟩ := own_ldc X41 hx Sb41 hw19 hSA e41 hEL (List.mem_of_getElem? (i := 1) rfl) (vs := []) (z := (0 : Int32)) (by decide +kernel) (by decide) rfl (g := (mkF m 18 #[vr sa, vr ca, vi (0 : Int32), vi (0 : Int32), .val .null, .unset] [(.ref sa)])) rfl (hb hby d3_18) (n := 0) (by decide +kernel) (by decide) (by decide) (by decide)
  refine Go.by' st42 ?_
  have O42 := O41.ext E42
  have KC42 : Keep h0 h42 [sa] := KC41.ext E42
  have hZ42 := Sb42.hZ
  have hO42 := Sb42.hO
  obtain ⟨T43, X43, e43, st43⟩ := getF X42 hx hZ42 hO42 (host := "") (Or.inl hw26) Via.refl e42 Fc42 (g := (mkF m 20 #[vr sa, vr ca, vi (0 : Int32), vi (0 : Int32), .val .null, .unset] [(.ref a42), (.ref sa)])) rfl rfl (hb hby d3_20)
  refine Go.by' st43 ?_
  have c44 := (((EX.ext E39).wr W41).ext E42)
  have c45 := (((FC.ext E39).other W41 (Or.inr (slot_ne (Or.inr hw22) (Or.inr hw21) (by decide) (t := .byte) (t' := (.array .byte)) (by decide) (by decide)))).ext E42)
  obtain ⟨T46, h46, X46, e46, W46, st46⟩ := putFN X43 hx hZ42 hO42 hw26 Via.refl e43 c45 c44 (Or.inr ⟨hw22, rfl, hnm⟩) hw6 (ty := .byte) (v' := (.int (0 : Int32))) (by decide) rfl rfl (g := (mkF m 23 #[vr sa, vr ca, vi (0 : Int32), vi (0 : Int32), .val .null, .unset] [(.int (0 : Int32)), (.ref sa)])) rfl rfl (hb hby d3_23)
  refine Go.by' st46 ?_
  have Fw46 : Fld Z h46 sa "java/lang/String" "coder" "B" (Value.int (0 : Int32)) := c45.same W46
  have N46 := Fr.snoc X46 N41 g_sa
  obtain ⟨lc46, X46, N46⟩ := own_pack X46 N46
  have Sb46 := Sb42.wr W46 (A42.safe (Nat.lt_of_lt_of_le EX.lt (Nat.le_trans E39.1 (Nat.le_of_eq W41.size.symm))) (Safe.wr W41 (A39.safe EX.lt (hSf sa (List.mem_of_getElem? (i := 0) rfl))) Sb39.ch (A39.safe EX.lt (hSf sa (List.mem_of_getElem? (i := 0) rfl)))))
  have O46 := O42.wr W46 g_sa
  have KC46 : Keep h0 h46 [sa] := KC42.wr W46 (Or.inl (List.mem_of_getElem? (i := 0) rfl))
  have c47 := ((Fw41.ext E42).other W46 (Or.inr (slot_ne (Or.inr hw21) (Or.inr hw22) (by decide) (t := (.array .byte)) (t' := .byte) (by decide) (by decide))))
  have c48 := (((Vb39.other W41 (Ne.symm (Ne39 sa (A39.safe EX.lt (hSf sa (List.mem_of_getElem? (i := 0) rfl)))).2)).ext E42).other W46 (Ne.symm (Ne39 sa (A39.safe EX.lt (hSf sa (List.mem_of_getElem? (i := 0) rfl)))).2))
  show Go p.tables e below Pf (T46.setTop (mkF m 26 #[vr sa, vr ca, vi (0 : Int32), vi (0 : Int32), .val .null, .unset] []))
  rw [hPf]
  exact Go.retVS X46 hx hEL Sb46 e46 hh hret hlk (hb hby d3_26) (by decide) (by decide) ⟨bb39, kb39, rfl, N46, (by rw [e46]; exact KC46), (by rw [e46]; exact (c44.wr W46)), (by rw [e46]; exact c47), (by rw [e46]; exact Fw46), (by rw [e46]; exact c48), (by rw [e46]; exact ((CHv.at X46 hZ42 hEL Sb46.ch).safe (Nat.lt_of_lt_of_le EX.lt (Nat.le_trans E39.1 (Nat.le_trans (Nat.le_of_eq W41.size.symm) (Nat.le_trans E42.1 (Nat.le_of_eq W46.size.symm))))) (Safe.wr W46 (A42.safe (Nat.lt_of_lt_of_le EX.lt (Nat.le_trans E39.1 (Nat.le_of_eq W41.size.symm))) (Safe.wr W41 (A39.safe EX.lt (hSf sa (List.mem_of_getElem? (i := 0) rfl))) Sb39.ch (A39.safe EX.lt (hSf sa (List.mem_of_getElem? (i := 0) rfl))))) Sb42.ch (A42.safe (Nat.lt_of_lt_of_le EX.lt (Nat.le_trans E39.1 (Nat.le_of_eq W41.size.symm))) (Safe.wr W41 (A39.safe EX.lt (hSf sa (List.mem_of_getElem? (i := 0) rfl))) Sb39.ch (A39.safe EX.lt (hSf sa (List.mem_of_getElem? (i := 0) rfl))))))))⟩
set_option maxHeartbeats 4000000 in
theorem ef_rmS1_0 (m : MethodId) {sa : Addr} {ca : Addr} : entryFrame m #[(.ref sa), (.ref ca)] 2 = mkF m 0 #[vr sa, vr ca] [] := by first | (simp [entryFrame, mkF, argsToLocals, Value.category]; done) | rfl
def QrmS1_0 (Z : State) (vcs : Int32) (vfm : Value) (sa : Addr) (ca : Addr) (kc : ClassId) (h0 : Heap) (n0 : Nat) (v : Option Value) (h : Heap) (vm : Vm) (L : List Loc) : Prop := ∃ (rb : Addr) (kb : ClassId), (v = none) ∧ (Fr n0 L) ∧ (Keep h0 h [sa]) ∧ (Exa Z h sa "java/lang/String") ∧ (Fld Z h sa "java/lang/String" "value" "[B" (.ref rb)) ∧ (Fld Z h sa "java/lang/String" "coder" "B" (.int (0 : Int32))) ∧ (Arv Z h rb kb .byte (0 : Int32) [] (.int (0 : Int32))) ∧ (Safe Z consts_1 vm h sa)
set_option maxRecDepth 65536 in
set_option maxHeartbeats 40000000 in
theorem rmS1_0 (l : Launch) (Z : State) (a0 : Array Value) (hw : ∀ d ∈ tables_1, d.before a0 Z = true) (ws : List Jvm.Cond) (vcs : Int32) (vfm : Value) (G : Gh Z vcs vfm) (sa : Addr) (ca : Addr) (kc : ClassId) (h0 : Heap) (n0 : Nat) (O0 : Old Z n0 h0) (EX : Exa Z h0 sa "java/lang/String") (FV : Fld Z h0 sa "java/lang/String" "value" "[B" .null) (FC : Fld Z h0 sa "java/lang/String" "coder" "B" (.int (0 : Int32))) (g_sa : n0 ≤ sa) (VC : Arv Z h0 ca kc .char (0 : Int32) [] (.int (0 : Int32))) :
    MetFree l (⟨"java/lang/String", "<init>", "([C)V"⟩ : MethodName) (head1 (Jvm.Cond.code (⟨"java/lang/String", "<init>", "([C)V"⟩ : MethodName) jdk_42_method_3_code 2 none :: ws) ({ frames := 2, cells := 4, slots := 8, locals := 29 } : Room)) (fun aa' UU' => aa' = #[(.ref sa), (.ref ca)] ∧ Z.Warmed39 UU'.vm ∧ UU'.heap = h0 ∧ CHv Z consts_1 UU'.vm h0 ∧ ∀ x ∈ ([sa] : List Addr), Safe Z consts_1 UU'.vm h0 x) (fun _ _ _ _ _ => True) (fun _ UU' oo' VV' => ∃ v' L', oo' = .returned v' ∧ QrmS1_0 Z vcs vfm sa ca kc h0 n0 v' VV'.heap VV'.vm L' ∧ CHr Z consts_1 UU'.vm UU'.heap VV'.vm VV'.heap ∧ ReturnedEndW UU' oo' VV' L' ({ frames := 2, cells := 4, slots := 8, locals := 29 } : Room).cells ({ frames := 2, cells := 4, slots := 8, locals := 29 } : Room).slots) := by
  refine MetFree.of_bodySF (plainFor_of_name pn_2) hisR ?_
  intro p e s m args below meth c s₁ Bd hml0 hP hK
  obtain ⟨rfl, hZ, hh, hCH, hSf⟩ := hP
  have hx := Bd.exec
  have hby := Bd.bytes
  have hlk := Bd.notSynchronized
  have hml : c.maxLocals = 2 := hml0
  have hown : s.vm.findClass "java/lang/String" = some m.cls := findClass_of_methodNamed Bd.named
  have hnm := (name_of_methodNamed Bd.named Bd.method).1
  have hret := Bd.returns
  have X0 : Stand p l e ({ frames := 2, cells := 4, slots := 8, locals := 29 } : Room) (s.setVm s.vm) m #[(.ref sa), (.ref ca)] below meth c s₁ [] 0 0 := Stand.of_body Bd
  have e0 : s₁.heap = h0 := by rw [← hh, Bd.state]; rfl
  have N0 := Fr.nil n0
  have KC0 : Keep h0 h0 [sa] := Keep.refl _ _
  have Sb0 := Sb.start hZ hown hCH
  have hEL := own_EW hw
  have hSA := own_SA hw
  refine Go.bodyS ?_
  obtain ⟨Pf, hPf⟩ : ∃ P, P = FinS Z consts_1 s below ({ frames := 2, cells := 4, slots := 8, locals := 29 } : Room).cells ({ frames := 2, cells := 4, slots := 8, locals := 29 } : Room).slots (QrmS1_0 Z vcs vfm sa ca kc h0 n0) := ⟨_, rfl⟩
  rw [← hPf]
  refine Go.cast (ef_rmS1_0 m) ?_
  have hw7 := (hw _ (List.mem_of_getElem? (i := 7) rfl))
  have hw12 := (hw _ (List.mem_of_getElem? (i := 12) rfl))
  have hw13 := (hw _ (List.mem_of_getElem? (i := 13) rfl))
  have hw15 := (hw _ (List.mem_of_getElem? (i := 15) rfl))
  show Go p.tables e below Pf (s₁.setTop (mkF m 0 #[vr sa, vr ca] []))
  refine Go.by' (fun t k => (XS.aloadN X0.here hx rfl (hb hby d2_0) rfl rfl (XS.aloadN X0.here hx rfl (hb hby d2_1) rfl rfl (XS.iconst X0.here hx rfl (hb hby d2_2) (XS.aloadN X0.here hx rfl (hb hby d2_3) rfl rfl k))))) ?_
  obtain ⟨cl49, Ar49, -, S49, P49, -, -⟩ := (id VC)
  show Go p.tables e below Pf (s₁.setTop (mkF m 4 #[vr sa, vr ca] [(.ref ca), (.int (0 : Int32)), (.ref ca), (.ref sa)]))
  refine Go.by' (fun t k => (X0.arraylength hx (by rw [e0]; exact Ar49.1) (State.isArrayOf_alike hZ.alike Ar49.2.1) (g := (mkF m 4 #[vr sa, vr ca] [(.ref ca), (.int (0 : Int32)), (.ref ca), (.ref sa)])) rfl rfl (hb hby d2_4) t k)) ?_
  rw [len_of S49 P49]
  show Go p.tables e below Pf (s₁.setTop (mkF m 5 #[vr sa, vr ca] [(.int (0 : Int32)), (.int (0 : Int32)), (.ref ca), (.ref sa)]))
  refine Go.by' (fun t k => (XS.aconstNull X0.here hx rfl (hb hby d2_5) k)) ?_
  obtain ⟨_, _, ⟨T50, L50, k50, n50⟩, -, X50, Si50, Gr50, ⟨Lc50, hQ50, l50, y50, z50, A50⟩, st50⟩ := X0.specialBackS hx (y := (⟨"java/lang/String", "<init>", "([CIILjava/lang/Void;)V"⟩ : MethodName)) rfl hown (mvT hZ hw12) (mvT hZ hw13) (mvT hZ hw15) (by decide) (own_backS (W := 0) (rmS4_0 l Z a0 hw [] vcs vfm G sa ca kc h0 n0 O0 EX FV FC g_sa VC) Sb0 hw15 hw7 (by decide) (by decide) hEL (allS ⟨EX.lt, (hSf sa (List.mem_of_getElem? (i := 0) rfl))⟩ all0)) (g := (mkF m 6 #[vr sa, vr ca] [.null, (.int (0 : Int32)), (.int (0 : Int32)), (.ref ca), (.ref sa)])) rfl (by rw [hml]; rfl) (Steps.refl _) (a := sa) (argsL := [(.ref ca), (.int (0 : Int32)), (.int (0 : Int32)), .null]) (rest := []) (lenOf pd_3 rfl) rfl (by show 2 * 0 + _ ≤ _; exact Nat.le_of_eq rfl) (hb hby d2_6) (fun _ _ => ⟨rfl, e0, (by decide : 0 + 4 ≤ _), (by decide : 0 + 8 ≤ _)⟩)
  dsimp only [Pt.U, Pt.locs, Pt.cells, Pt.slots] at X50 l50 y50 z50 st50 hQ50 Si50 Gr50 A50
  subst l50 y50 z50
  obtain ⟨rb_50, kb_50, rfl, N50q, K50, f50_0, f50_1, f50_2, f50_3, f50_4⟩ := hQ50
  have N50 := Fr.app N0 N50q
  obtain ⟨lc50, X50, N50⟩ := own_pack X50 N50
  replace X50 := own_reb X50
  have Sb50 := Sb0.called Si50 (by rw [← e0]; exact Gr50) A50
  have hZ50 := Sb50.hZ
  have hO50 := Sb50.hO
  refine Go.by' (fun t k => st50.trans k) ?_
  have O50 := O0.keep K50 (allS g_sa all0)
  have KC50 : Keep h0 T50.heap [sa] := KC0.trans K50 (allS (Or.inl (List.mem_of_getElem? (i := 0) rfl)) all0)
  show Go p.tables e below Pf (T50.setTop (mkF m 9 #[vr sa, vr ca] []))
  rw [hPf]
  exact Go.retVS X50 hx hEL Sb50 rfl hh hret hlk (hb hby d2_9) (by decide) (by decide) ⟨rb_50, kb_50, rfl, N50, KC50, f50_0, f50_1, f50_2, f50_3, ((CHv.at X50 hZ50 hEL Sb50.ch).safe (Nat.lt_of_lt_of_le EX.lt K50.1) f50_4)⟩
theorem d9_0 : decode jdk_68_method_2_code 0 = .ok (.aload_n 0, 1) := by decide +kernel
theorem d9_1 : decode jdk_68_method_2_code 1 = .ok (.invokespecial 3, 3) := by decide +kernel
theorem d9_4 : decode jdk_68_method_2_code 4 = .ok (.getstatic 18, 3) := by decide +kernel
theorem d9_7 : decode jdk_68_method_2_code 7 = .ok (.ifCond .eq 18, 3) := by decide +kernel
theorem d9_10 : decode jdk_68_method_2_code 10 = .ok (.aload_n 0, 1) := by decide +kernel
theorem d9_11 : decode jdk_68_method_2_code 11 = .ok (.iload_n 1, 1) := by decide +kernel
theorem d9_12 : decode jdk_68_method_2_code 12 = .ok (.newarray .byte, 2) := by decide +kernel
theorem d9_14 : decode jdk_68_method_2_code 14 = .ok (.putfield 15, 3) := by decide +kernel
theorem d9_17 : decode jdk_68_method_2_code 17 = .ok (.aload_n 0, 1) := by decide +kernel
theorem d9_18 : decode jdk_68_method_2_code 18 = .ok (.iconst 0, 1) := by decide +kernel
theorem d9_19 : decode jdk_68_method_2_code 19 = .ok (.putfield 22, 3) := by decide +kernel
theorem d9_22 : decode jdk_68_method_2_code 22 = .ok (.goto 16, 3) := by decide +kernel
theorem d9_38 : decode jdk_68_method_2_code 38 = .ok (.return_, 1) := by decide +kernel
theorem pn_9 : plainName "java/lang/AbstractStringBuilder" = true := by first | (simp [plainName, overriddenIn]; done) | decide +kernel
set_option maxHeartbeats 4000000 in
theorem ef_rmBI0 (m : MethodId) {so : Addr} : entryFrame m #[(.ref so), (.int (16 : Int32))] 2 = mkF m 0 #[vr so, vi (16 : Int32)] [] := by first | (simp [entryFrame, mkF, argsToLocals, Value.category]; done) | rfl
def QrmBI0 (Z : State) (vcs : Int32) (vfm : Value) (so : Addr) (h0 : Heap) (n0 : Nat) (v : Option Value) (h : Heap) (L : List Loc) : Prop := ∃ (rb : Addr) (kb : ClassId), (v = none) ∧ (Fr n0 L) ∧ (Keep h0 h [so]) ∧ (Exa Z h so "java/lang/StringBuilder") ∧ (Fld Z h so "java/lang/AbstractStringBuilder" "value" "[B" (.ref rb)) ∧ (Fld Z h so "java/lang/AbstractStringBuilder" "coder" "B" (.int (0 : Int32))) ∧ (Fld Z h so "java/lang/AbstractStringBuilder" "count" "I" (.int (0 : Int32))) ∧ (Arv Z h rb kb .byte (16 : Int32) [] (.int (0 : Int32))) ∧ (h0.size ≤ rb)
set_option maxRecDepth 65536 in
set_option maxHeartbeats 40000000 in
theorem rmBI0 (l : Launch) (Z : State) (a0 : Array Value) (hw : ∀ d ∈ tables_1, d.before a0 Z = true) (ws : List Jvm.Cond) (vcs : Int32) (vfm : Value) (G : Gh Z vcs vfm) (so : Addr) (h0 : Heap) (n0 : Nat) (O0 : Old Z n0 h0) (EX : Exa Z h0 so "java/lang/StringBuilder") (FV : Fld Z h0 so "java/lang/AbstractStringBuilder" "value" "[B" .null) (FC : Fld Z h0 so "java/lang/AbstractStringBuilder" "coder" "B" (.int (0 : Int32))) (FN : Fld Z h0 so "java/lang/AbstractStringBuilder" "count" "I" (.int (0 : Int32))) (g_so : n0 ≤ so) :
    MetFree l (⟨"java/lang/AbstractStringBuilder", "<init>", "(I)V"⟩ : MethodName) (head1 (Jvm.Cond.code (⟨"java/lang/AbstractStringBuilder", "<init>", "(I)V"⟩ : MethodName) jdk_68_method_2_code 2 none :: ws) ({ frames := 1, cells := 1, slots := 16, locals := 12 } : Room)) (fun aa' UU' => aa' = #[(.ref so), (.int (16 : Int32))] ∧ Z.Warmed39 UU'.vm ∧ UU'.heap = h0) (fun _ _ _ _ _ => True) (fun _ UU' oo' VV' => ∃ v' L', oo' = .returned v' ∧ QrmBI0 Z vcs vfm so h0 n0 v' VV'.heap L' ∧ FrameEnd UU' oo' VV' L' ({ frames := 1, cells := 1, slots := 16, locals := 12 } : Room).cells ({ frames := 1, cells := 1, slots := 16, locals := 12 } : Room).slots) := by
  refine MetFree.of_bodySF (plainFor_of_name pn_9) hisR ?_
  intro p e s m args below meth c s₁ Bd hml0 hP hK
  obtain ⟨rfl, hZ, hh⟩ := hP
  have hx := Bd.exec
  have hby := Bd.bytes
  have hlk := Bd.notSynchronized
  have hml : c.maxLocals = 2 := hml0
  have hown : s.vm.findClass "java/lang/AbstractStringBuilder" = some m.cls := findClass_of_methodNamed Bd.named
  have hnm := (name_of_methodNamed Bd.named Bd.method).1
  have hret := Bd.returns
  have X0 : Stand p l e ({ frames := 1, cells := 1, slots := 16, locals := 12 } : Room) s m #[(.ref so), (.int (16 : Int32))] below meth c s₁ [] 0 0 := Stand.of_body Bd
  have e0 : s₁.heap = h0 := by rw [← hh, Bd.state]; rfl
  have N0 := Fr.nil n0
  have KC0 : Keep h0 h0 [so] := Keep.refl _ _
  refine Go.body ?_
  obtain ⟨Pf, hPf⟩ : ∃ P, P = Fin' s below ({ frames := 1, cells := 1, slots := 16, locals := 12 } : Room).cells ({ frames := 1, cells := 1, slots := 16, locals := 12 } : Room).slots (QrmBI0 Z vcs vfm so h0 n0) := ⟨_, rfl⟩
  rw [← hPf]
  refine Go.cast (ef_rmBI0 m) ?_
  have hw17 := (hw _ (List.mem_of_getElem? (i := 17) rfl))
  have hw18 := (hw _ (List.mem_of_getElem? (i := 18) rfl))
  have hw20 := (hw _ (List.mem_of_getElem? (i := 20) rfl))
  have hw49 := (hw _ (List.mem_of_getElem? (i := 49) rfl))
  have hw60 := (hw _ (List.mem_of_getElem? (i := 60) rfl))
  have hw61 := (hw _ (List.mem_of_getElem? (i := 61) rfl))
  have hw62 := (hw _ (List.mem_of_getElem? (i := 62) rfl))
  have hw63 := (hw _ (List.mem_of_getElem? (i := 63) rfl))
  have hw64 := (hw _ (List.mem_of_getElem? (i := 64) rfl))
  have hw65 := (hw _ (List.mem_of_getElem? (i := 65) rfl))
  have hw88 := (hw _ (List.mem_of_getElem? (i := 88) rfl))
  show Go p.tables e below Pf (s₁.setTop (mkF m 0 #[vr so, vi (16 : Int32)] []))
  refine Go.by' (fun t k => (XS.aloadN X0.here hx rfl (hb hby d9_0) rfl rfl k)) ?_
  obtain ⟨T51, X51, e51, st51⟩ := initO X0 hx hZ hown hw60 hw17 hw18 e0 (g := (mkF m 1 #[vr so, vi (16 : Int32)] [(.ref so)])) rfl (by rw [hml]; rfl) rfl (hb hby d9_1) (by decide) (W := 0) (by show 2 * 0 + _ ≤ _; exact Nat.le_of_eq rfl) (by decide)
  refine Go.by' st51 ?_
  obtain ⟨T52, X52, e52, st52⟩ := getS2 X51 hx hZ hown (host := "") (Or.inl hw61) Via.refl e51 (G.1.ext O0.2) (g := (mkF m 4 #[vr so, vi (16 : Int32)] [])) rfl (hb hby d9_4)
  refine Go.by' st52 ?_
  show Go p.tables e below Pf (T52.setTop (mkF m 7 #[vr so, vi (16 : Int32)] [(.int vcs)]))
  refine Go.by' (fun t k => (XS.ifNo X52.here hx rfl (hb hby d9_7) rfl ((if0 _ _).trans (feq G.2.1).1) (XS.aloadN X52.here hx rfl (hb hby d9_10) rfl rfl (XS.iloadN X52.here hx rfl (hb hby d9_11) rfl k)))) ?_
  obtain ⟨T53, h53, k53, X53, e53, E53, A53, st53⟩ := newP (aty := .byte) X52 hx hZ hw20 e52 (g := (mkF m 12 #[vr so, vi (16 : Int32)] [(.int (16 : Int32)), (.ref so)])) rfl (hb hby d9_12) rfl (by decide) (cap := 16) (by decide) (by decide) (by decide) (by decide)
  obtain ⟨b53, g53⟩ : ∃ z, z = h0.size := ⟨_, rfl⟩
  rw [← g53] at A53 st53
  refine Go.by' st53 ?_
  have g_b53 : n0 ≤ b53 := Nat.le_trans (own_le O0) (Nat.le_of_eq g53.symm)
  have sz_b53 : h0.size ≤ b53 := Nat.le_trans KC0.1 (Nat.le_of_eq g53.symm)
  have O53 := O0.ext E53
  have KC53 : Keep h0 h53 [so] := KC0.ext E53
  have V53 : Arv Z h53 b53 k53 .byte (16 : Int32) [] (Value.int (0 : Int32)) := Arv.new A53 (by decide)
  obtain ⟨T54, h54, X54, e54, W54, st54⟩ := putF X53 hx hZ hown (host := "") (Or.inl hw62) Via.refl e53 (FV.ext E53) (EX.ext E53) (Or.inl hw63) hw49 (ty := (.array .byte)) (by decide) rfl rfl (g := (mkF m 14 #[vr so, vi (16 : Int32)] [(.ref b53), (.ref so)])) rfl rfl (hb hby d9_14)
  refine Go.by' st54 ?_
  have Fw54 : Fld Z h54 so "java/lang/AbstractStringBuilder" "value" "[B" (Value.ref b53) := (FV.ext E53).same W54
  have N54 := Fr.snoc X54 N0 g_so
  obtain ⟨lc54, X54, N54⟩ := own_pack X54 N54
  have O54 := O53.wr W54 g_so
  have KC54 : Keep h0 h54 [so] := KC53.wr W54 (Or.inl (List.mem_of_getElem? (i := 0) rfl))
  show Go p.tables e below Pf (T54.setTop (mkF m 17 #[vr so, vi (16 : Int32)] []))
  refine Go.by' (fun t k => (XS.aloadN X54.here hx rfl (hb hby d9_17) rfl rfl (XS.iconst X54.here hx rfl (hb hby d9_18) k))) ?_
  have c55 := ((EX.ext E53).wr W54)
  have c56 := ((FC.ext E53).other W54 (Or.inr (slot_ne (Or.inl hw65) (Or.inl hw63) (by decide) (t := .byte) (t' := (.array .byte)) (by decide) (by decide))))
  obtain ⟨T57, h57, X57, e57, W57, st57⟩ := putFN X54 hx hZ hown hw64 Via.refl e54 c56 c55 (Or.inl hw65) hw49 (ty := .byte) (v' := (.int (0 : Int32))) (by decide) rfl rfl (g := (mkF m 19 #[vr so, vi (16 : Int32)] [(.int (0 : Int32)), (.ref so)])) rfl rfl (hb hby d9_19)
  refine Go.by' st57 ?_
  have Fw57 : Fld Z h57 so "java/lang/AbstractStringBuilder" "coder" "B" (Value.int (0 : Int32)) := c56.same W57
  have N57 := Fr.snoc X57 N54 g_so
  obtain ⟨lc57, X57, N57⟩ := own_pack X57 N57
  have O57 := O54.wr W57 g_so
  have KC57 : Keep h0 h57 [so] := KC54.wr W57 (Or.inl (List.mem_of_getElem? (i := 0) rfl))
  show Go p.tables e below Pf (T57.setTop (mkF m 22 #[vr so, vi (16 : Int32)] []))
  refine Go.by' (fun t k => (XS.goto X57.here hx rfl (pc0 := 22) (pc' := 38) rfl (hb hby d9_22) (by decide) (by decide) k)) ?_
  have c58 := (((FN.ext E53).other W54 (Or.inr (slot_ne (Or.inl hw88) (Or.inl hw63) (by decide) (t := .int) (t' := (.array .byte)) (by decide) (by decide)))).other W57 (Or.inr (slot_ne (Or.inl hw88) (Or.inl hw65) (by decide) (t := .int) (t' := .byte) (by decide) (by decide))))
  have c59 := ((V53.other W54 (Ne.symm (Nat.ne_of_lt (Nat.lt_of_lt_of_le EX.lt (Nat.le_of_eq g53.symm))))).other W57 (Ne.symm (Nat.ne_of_lt (Nat.lt_of_lt_of_le EX.lt (Nat.le_of_eq g53.symm)))))
  show Go p.tables e below Pf (T57.setTop (mkF m 38 #[vr so, vi (16 : Int32)] []))
  rw [hPf]
  exact Go.retV' X57 hx hret hlk (hb hby d9_38) (by decide) (by decide) ⟨b53, k53, rfl, N57, (by rw [e57]; exact KC57), (by rw [e57]; exact (c55.wr W57)), (by rw [e57]; exact (Fw54.other W57 (Or.inr (slot_ne (Or.inl hw63) (Or.inl hw65) (by decide) (t := (.array .byte)) (t' := .byte) (by decide) (by decide))))), (by rw [e57]; exact Fw57), (by rw [e57]; exact c58), (by rw [e57]; exact c59), sz_b53⟩
theorem d8_0 : decode jdk_67_method_1_code 0 = .ok (.aload_n 0, 1) := by decide +kernel
theorem d8_1 : decode jdk_67_method_1_code 1 = .ok (.bipush 16, 2) := by decide +kernel
theorem d8_3 : decode jdk_67_method_1_code 3 = .ok (.invokespecial 1, 3) := by decide +kernel
theorem pd_4 : parseMethodDescriptor "(I)V" = some ⟨[.int], none⟩ := by decide +kernel
theorem d8_6 : decode jdk_67_method_1_code 6 = .ok (.return_, 1) := by decide +kernel
theorem pn_8 : plainName "java/lang/StringBuilder" = true := by first | (simp [plainName, overriddenIn]; done) | decide +kernel
set_option maxHeartbeats 4000000 in
theorem ef_rmBI (m : MethodId) {so : Addr} : entryFrame m #[(.ref so)] 1 = mkF m 0 #[vr so] [] := by first | (simp [entryFrame, mkF, argsToLocals, Value.category]; done) | rfl
def QrmBI (Z : State) (vcs : Int32) (vfm : Value) (so : Addr) (h0 : Heap) (n0 : Nat) (v : Option Value) (h : Heap) (L : List Loc) : Prop := ∃ (rb : Addr) (kb : ClassId), (v = none) ∧ (Fr n0 L) ∧ (Keep h0 h [so]) ∧ (Exa Z h so "java/lang/StringBuilder") ∧ (Fld Z h so "java/lang/AbstractStringBuilder" "value" "[B" (.ref rb)) ∧ (Fld Z h so "java/lang/AbstractStringBuilder" "coder" "B" (.int (0 : Int32))) ∧ (Fld Z h so "java/lang/AbstractStringBuilder" "count" "I" (.int (0 : Int32))) ∧ (Arv Z h rb kb .byte (16 : Int32) [] (.int (0 : Int32))) ∧ (h0.size ≤ rb)
set_option maxRecDepth 65536 in
set_option maxHeartbeats 40000000 in
theorem rmBI (l : Launch) (Z : State) (a0 : Array Value) (hw : ∀ d ∈ tables_1, d.before a0 Z = true) (ws : List Jvm.Cond) (vcs : Int32) (vfm : Value) (G : Gh Z vcs vfm) (so : Addr) (h0 : Heap) (n0 : Nat) (O0 : Old Z n0 h0) (EX : Exa Z h0 so "java/lang/StringBuilder") (FV : Fld Z h0 so "java/lang/AbstractStringBuilder" "value" "[B" .null) (FC : Fld Z h0 so "java/lang/AbstractStringBuilder" "coder" "B" (.int (0 : Int32))) (FN : Fld Z h0 so "java/lang/AbstractStringBuilder" "count" "I" (.int (0 : Int32))) (g_so : n0 ≤ so) :
    MetFree l (⟨"java/lang/StringBuilder", "<init>", "()V"⟩ : MethodName) (head1 (Jvm.Cond.code (⟨"java/lang/StringBuilder", "<init>", "()V"⟩ : MethodName) jdk_67_method_1_code 1 none :: ws) ({ frames := 2, cells := 1, slots := 16, locals := 25 } : Room)) (fun aa' UU' => aa' = #[(.ref so)] ∧ Z.Warmed39 UU'.vm ∧ UU'.heap = h0) (fun _ _ _ _ _ => True) (fun _ UU' oo' VV' => ∃ v' L', oo' = .returned v' ∧ QrmBI Z vcs vfm so h0 n0 v' VV'.heap L' ∧ FrameEnd UU' oo' VV' L' ({ frames := 2, cells := 1, slots := 16, locals := 25 } : Room).cells ({ frames := 2, cells := 1, slots := 16, locals := 25 } : Room).slots) := by
  refine MetFree.of_bodySF (plainFor_of_name pn_8) hisR ?_
  intro p e s m args below meth c s₁ Bd hml0 hP hK
  obtain ⟨rfl, hZ, hh⟩ := hP
  have hx := Bd.exec
  have hby := Bd.bytes
  have hlk := Bd.notSynchronized
  have hml : c.maxLocals = 1 := hml0
  have hown : s.vm.findClass "java/lang/StringBuilder" = some m.cls := findClass_of_methodNamed Bd.named
  have hnm := (name_of_methodNamed Bd.named Bd.method).1
  have hret := Bd.returns
  have X0 : Stand p l e ({ frames := 2, cells := 1, slots := 16, locals := 25 } : Room) s m #[(.ref so)] below meth c s₁ [] 0 0 := Stand.of_body Bd
  have e0 : s₁.heap = h0 := by rw [← hh, Bd.state]; rfl
  have N0 := Fr.nil n0
  have KC0 : Keep h0 h0 [so] := Keep.refl _ _
  refine Go.body ?_
  obtain ⟨Pf, hPf⟩ : ∃ P, P = Fin' s below ({ frames := 2, cells := 1, slots := 16, locals := 25 } : Room).cells ({ frames := 2, cells := 1, slots := 16, locals := 25 } : Room).slots (QrmBI Z vcs vfm so h0 n0) := ⟨_, rfl⟩
  rw [← hPf]
  refine Go.cast (ef_rmBI m) ?_
  have hw54 := (hw _ (List.mem_of_getElem? (i := 54) rfl))
  have hw55 := (hw _ (List.mem_of_getElem? (i := 55) rfl))
  have hw58 := (hw _ (List.mem_of_getElem? (i := 58) rfl))
  have hw59 := (hw _ (List.mem_of_getElem? (i := 59) rfl))
  show Go p.tables e below Pf (s₁.setTop (mkF m 0 #[vr so] []))
  refine Go.by' (fun t k => (XS.aloadN X0.here hx rfl (hb hby d8_0) rfl rfl (XS.bipush X0.here hx rfl (hb hby d8_1) k))) ?_
  obtain ⟨_, _, ⟨T60, L60, k60, n60⟩, -, X60, ⟨Lc60, hQ60, l60, y60, z60⟩, st60⟩ := X0.specialBack hx (y := (⟨"java/lang/AbstractStringBuilder", "<init>", "(I)V"⟩ : MethodName)) rfl hown (mvT hZ hw54) (mvT hZ hw55) (mvT hZ hw59) (by decide) (backOf (W := 0) (rmBI0 l Z a0 hw [] vcs vfm G so h0 n0 O0 EX FV FC FN g_so) hZ hw59 hw58 (by decide) (by decide)) (g := (mkF m 3 #[vr so] [(.int (16 : Int32)), (.ref so)])) rfl (by rw [hml]; rfl) (Steps.refl _) (a := so) (argsL := [(.int (16 : Int32))]) (rest := []) (lenOf pd_4 rfl) rfl (by show 2 * 0 + _ ≤ _; exact Nat.le_of_eq rfl) (hb hby d8_3) (fun _ _ => ⟨rfl, e0, (by decide : 0 + 1 ≤ _), (by decide : 0 + 16 ≤ _)⟩)
  dsimp only [Pt.U, Pt.locs, Pt.cells, Pt.slots] at X60 l60 y60 z60 st60 hQ60
  subst l60 y60 z60
  obtain ⟨rb_60, kb_60, rfl, N60q, K60, f60_0, f60_1, f60_2, f60_3, f60_4, f60_5⟩ := hQ60
  have N60 := Fr.app N0 N60q
  obtain ⟨lc60, X60, N60⟩ := own_pack X60 N60
  refine Go.by' (fun t k => st60.trans k) ?_
  have g_rb_60 : n0 ≤ rb_60 := Nat.le_trans (own_le O0) f60_5
  have sz_rb_60 : h0.size ≤ rb_60 := Nat.le_trans KC0.1 f60_5
  have O60 := O0.keep K60 (allS g_so all0)
  have KC60 : Keep h0 T60.heap [so] := KC0.trans K60 (allS (Or.inl (List.mem_of_getElem? (i := 0) rfl)) all0)
  show Go p.tables e below Pf (T60.setTop (mkF m 6 #[vr so] []))
  rw [hPf]
  exact Go.retV' X60 hx hret hlk (hb hby d8_6) (by decide) (by decide) ⟨rb_60, kb_60, rfl, N60, KC60, f60_0, f60_1, f60_2, f60_3, f60_4, sz_rb_60⟩
theorem d13_0 : decode jdk_42_method_152_code 0 = .ok (.getstatic 38, 3) := by decide +kernel
theorem d13_3 : decode jdk_42_method_152_code 3 = .ok (.ifCond .eq 10, 3) := by decide +kernel
theorem d13_6 : decode jdk_42_method_152_code 6 = .ok (.aload_n 0, 1) := by decide +kernel
theorem d13_7 : decode jdk_42_method_152_code 7 = .ok (.getfield 15, 3) := by decide +kernel
theorem d13_10 : decode jdk_42_method_152_code 10 = .ok (.goto 4, 3) := by decide +kernel
theorem d13_14 : decode jdk_42_method_152_code 14 = .ok (.ireturn, 1) := by decide +kernel
theorem pn_13 : plainName "java/lang/String" = true := by first | (simp [plainName, overriddenIn]; done) | decide +kernel
set_option maxHeartbeats 4000000 in
theorem ef_rmCo (m : MethodId) {sa : Addr} : entryFrame m #[(.ref sa)] 1 = mkF m 0 #[vr sa] [] := by first | (simp [entryFrame, mkF, argsToLocals, Value.category]; done) | rfl
def QrmCo (Z : State) (vcs : Int32) (vfm : Value) (sa : Addr) (h0 : Heap) (n0 : Nat) (v : Option Value) (h : Heap) (L : List Loc) : Prop := (v = some (.int (0 : Int32))) ∧ (L = []) ∧ (h = h0)
set_option maxRecDepth 65536 in
set_option maxHeartbeats 40000000 in
theorem rmCo (l : Launch) (Z : State) (a0 : Array Value) (hw : ∀ d ∈ tables_1, d.before a0 Z = true) (ws : List Jvm.Cond) (vcs : Int32) (vfm : Value) (G : Gh Z vcs vfm) (sa : Addr) (h0 : Heap) (n0 : Nat) (O0 : Old Z n0 h0) (CA : Fld Z h0 sa "java/lang/String" "coder" "B" (.int (0 : Int32))) :
    MetFree l (⟨"java/lang/String", "coder", "()B"⟩ : MethodName) (head1 (Jvm.Cond.code (⟨"java/lang/String", "coder", "()B"⟩ : MethodName) jdk_42_method_152_code 1 (some .byte) :: ws) ({ frames := 0, cells := 0, slots := 0, locals := 0 } : Room)) (fun aa' UU' => aa' = #[(.ref sa)] ∧ Z.Warmed39 UU'.vm ∧ UU'.heap = h0) (fun _ _ _ _ _ => True) (fun _ UU' oo' VV' => ∃ v' L', oo' = .returned v' ∧ QrmCo Z vcs vfm sa h0 n0 v' VV'.heap L' ∧ FrameEnd UU' oo' VV' L' ({ frames := 0, cells := 0, slots := 0, locals := 0 } : Room).cells ({ frames := 0, cells := 0, slots := 0, locals := 0 } : Room).slots) := by
  refine MetFree.of_bodySF (plainFor_of_name pn_13) hisR ?_
  intro p e s m args below meth c s₁ Bd hml0 hP hK
  obtain ⟨rfl, hZ, hh⟩ := hP
  have hx := Bd.exec
  have hby := Bd.bytes
  have hlk := Bd.notSynchronized
  have hml : c.maxLocals = 1 := hml0
  have hown : s.vm.findClass "java/lang/String" = some m.cls := findClass_of_methodNamed Bd.named
  have hnm := (name_of_methodNamed Bd.named Bd.method).1
  have hret := Bd.returns
  have X0 : Stand p l e ({ frames := 0, cells := 0, slots := 0, locals := 0 } : Room) s m #[(.ref sa)] below meth c s₁ [] 0 0 := Stand.of_body Bd
  have e0 : s₁.heap = h0 := by rw [← hh, Bd.state]; rfl
  have N0 := Fr.nil n0
  refine Go.body ?_
  obtain ⟨Pf, hPf⟩ : ∃ P, P = Fin' s below ({ frames := 0, cells := 0, slots := 0, locals := 0 } : Room).cells ({ frames := 0, cells := 0, slots := 0, locals := 0 } : Room).slots (QrmCo Z vcs vfm sa h0 n0) := ⟨_, rfl⟩
  rw [← hPf]
  refine Go.cast (ef_rmCo m) ?_
  have hw26 := (hw _ (List.mem_of_getElem? (i := 26) rfl))
  have hw86 := (hw _ (List.mem_of_getElem? (i := 86) rfl))
  obtain ⟨T61, X61, e61, st61⟩ := getS2 X0 hx hZ hown (host := "") (Or.inl hw86) Via.refl e0 (G.1.ext O0.2) (g := (mkF m 0 #[vr sa] [])) rfl (hb hby d13_0)
  refine Go.by' st61 ?_
  show Go p.tables e below Pf (T61.setTop (mkF m 3 #[vr sa] [(.int vcs)]))
  refine Go.by' (fun t k => (XS.ifNo X61.here hx rfl (hb hby d13_3) rfl ((if0 _ _).trans (feq G.2.1).1) (XS.aloadN X61.here hx rfl (hb hby d13_6) rfl rfl k))) ?_
  obtain ⟨T62, X62, e62, st62⟩ := getF X61 hx hZ hown (host := "") (Or.inl hw26) Via.refl e61 CA (g := (mkF m 7 #[vr sa] [(.ref sa)])) rfl rfl (hb hby d13_7)
  refine Go.by' st62 ?_
  show Go p.tables e below Pf (T62.setTop (mkF m 10 #[vr sa] [(.int (0 : Int32))]))
  refine Go.by' (fun t k => (XS.goto X62.here hx rfl (pc0 := 10) (pc' := 14) rfl (hb hby d13_10) (by decide) (by decide) k)) ?_
  show Go p.tables e below Pf (T62.setTop (mkF m 14 #[vr sa] [(.int (0 : Int32))]))
  rw [hPf]
  exact Go.retI' X62 hx hret hlk (by simp) rfl (hb hby d13_14) (by decide) (by decide) ⟨rfl, rfl, e62⟩
theorem d16_0 : decode jdk_68_method_71_code 0 = .ok (.getstatic 18, 3) := by decide +kernel
theorem d16_3 : decode jdk_68_method_71_code 3 = .ok (.ifCond .eq 18, 3) := by decide +kernel
theorem d16_6 : decode jdk_68_method_71_code 6 = .ok (.aload_n 0, 1) := by decide +kernel
theorem d16_7 : decode jdk_68_method_71_code 7 = .ok (.getfield 22, 3) := by decide +kernel
theorem d16_10 : decode jdk_68_method_71_code 10 = .ok (.aload_n 1, 1) := by decide +kernel
theorem d16_11 : decode jdk_68_method_71_code 11 = .ok (.invokevirtual 40, 3) := by decide +kernel
theorem pd_5 : parseMethodDescriptor "()B" = some ⟨[], some .byte⟩ := by decide +kernel
theorem d16_14 : decode jdk_68_method_71_code 14 = .ok (.if_icmp .eq 7, 3) := by decide +kernel
theorem d16_21 : decode jdk_68_method_71_code 21 = .ok (.return_, 1) := by decide +kernel
theorem pn_16 : plainName "java/lang/AbstractStringBuilder" = true := by first | (simp [plainName, overriddenIn]; done) | decide +kernel
set_option maxHeartbeats 4000000 in
theorem ef_rmIf (m : MethodId) {so : Addr} {sa : Addr} : entryFrame m #[(.ref so), (.ref sa)] 2 = mkF m 0 #[vr so, vr sa] [] := by first | (simp [entryFrame, mkF, argsToLocals, Value.category]; done) | rfl
def QrmIf (Z : State) (vcs : Int32) (vfm : Value) (so : Addr) (sa : Addr) (h0 : Heap) (n0 : Nat) (v : Option Value) (h : Heap) (L : List Loc) : Prop := (v = none) ∧ (L = []) ∧ (h = h0)
set_option maxRecDepth 65536 in
set_option maxHeartbeats 40000000 in
theorem rmIf (l : Launch) (Z : State) (a0 : Array Value) (hw : ∀ d ∈ tables_1, d.before a0 Z = true) (ws : List Jvm.Cond) (vcs : Int32) (vfm : Value) (G : Gh Z vcs vfm) (so : Addr) (sa : Addr) (h0 : Heap) (n0 : Nat) (O0 : Old Z n0 h0) (FC : Fld Z h0 so "java/lang/AbstractStringBuilder" "coder" "B" (.int (0 : Int32))) (EX : Exa Z h0 sa "java/lang/String") (CA : Fld Z h0 sa "java/lang/String" "coder" "B" (.int (0 : Int32))) :
    MetFree l (⟨"java/lang/AbstractStringBuilder", "inflateIfNeededFor", "(Ljava/lang/String;)V"⟩ : MethodName) (head1 (Jvm.Cond.code (⟨"java/lang/AbstractStringBuilder", "inflateIfNeededFor", "(Ljava/lang/String;)V"⟩ : MethodName) jdk_68_method_71_code 2 none :: ws) ({ frames := 1, cells := 0, slots := 0, locals := 13 } : Room)) (fun aa' UU' => aa' = #[(.ref so), (.ref sa)] ∧ Z.Warmed39 UU'.vm ∧ UU'.heap = h0) (fun _ _ _ _ _ => True) (fun _ UU' oo' VV' => ∃ v' L', oo' = .returned v' ∧ QrmIf Z vcs vfm so sa h0 n0 v' VV'.heap L' ∧ FrameEnd UU' oo' VV' L' ({ frames := 1, cells := 0, slots := 0, locals := 13 } : Room).cells ({ frames := 1, cells := 0, slots := 0, locals := 13 } : Room).slots) := by
  refine MetFree.of_bodySF (plainFor_of_name pn_16) hisR ?_
  intro p e s m args below meth c s₁ Bd hml0 hP hK
  obtain ⟨rfl, hZ, hh⟩ := hP
  have hx := Bd.exec
  have hby := Bd.bytes
  have hlk := Bd.notSynchronized
  have hml : c.maxLocals = 2 := hml0
  have hown : s.vm.findClass "java/lang/AbstractStringBuilder" = some m.cls := findClass_of_methodNamed Bd.named
  have hnm := (name_of_methodNamed Bd.named Bd.method).1
  have hret := Bd.returns
  have X0 : Stand p l e ({ frames := 1, cells := 0, slots := 0, locals := 13 } : Room) s m #[(.ref so), (.ref sa)] below meth c s₁ [] 0 0 := Stand.of_body Bd
  have e0 : s₁.heap = h0 := by rw [← hh, Bd.state]; rfl
  have N0 := Fr.nil n0
  refine Go.body ?_
  obtain ⟨Pf, hPf⟩ : ∃ P, P = Fin' s below ({ frames := 1, cells := 0, slots := 0, locals := 13 } : Room).cells ({ frames := 1, cells := 0, slots := 0, locals := 13 } : Room).slots (QrmIf Z vcs vfm so sa h0 n0) := ⟨_, rfl⟩
  rw [← hPf]
  refine Go.cast (ef_rmIf m) ?_
  have hw7 := (hw _ (List.mem_of_getElem? (i := 7) rfl))
  have hw61 := (hw _ (List.mem_of_getElem? (i := 61) rfl))
  have hw64 := (hw _ (List.mem_of_getElem? (i := 64) rfl))
  have hw82 := (hw _ (List.mem_of_getElem? (i := 82) rfl))
  have hw83 := (hw _ (List.mem_of_getElem? (i := 83) rfl))
  have hw84 := (hw _ (List.mem_of_getElem? (i := 84) rfl))
  have hw85 := (hw _ (List.mem_of_getElem? (i := 85) rfl))
  have hw104 := (hw _ (List.mem_of_getElem? (i := 104) rfl))
  obtain ⟨T63, X63, e63, st63⟩ := getS2 X0 hx hZ hown (host := "") (Or.inl hw61) Via.refl e0 (G.1.ext O0.2) (g := (mkF m 0 #[vr so, vr sa] [])) rfl (hb hby d16_0)
  refine Go.by' st63 ?_
  show Go p.tables e below Pf (T63.setTop (mkF m 3 #[vr so, vr sa] [(.int vcs)]))
  refine Go.by' (fun t k => (XS.ifNo X63.here hx rfl (hb hby d16_3) rfl ((if0 _ _).trans (feq G.2.1).1) (XS.aloadN X63.here hx rfl (hb hby d16_6) rfl rfl k))) ?_
  obtain ⟨T64, X64, e64, st64⟩ := getF X63 hx hZ hown (host := "") (Or.inl hw64) Via.refl e63 FC (g := (mkF m 7 #[vr so, vr sa] [(.ref so)])) rfl rfl (hb hby d16_7)
  refine Go.by' st64 ?_
  show Go p.tables e below Pf (T64.setTop (mkF m 10 #[vr so, vr sa] [(.int (0 : Int32))]))
  refine Go.by' (fun t k => (XS.aloadN X64.here hx rfl (hb hby d16_10) rfl rfl k)) ?_
  obtain ⟨cq65, kq65, q65a, q65b, q65c⟩ := isOf hZ e64 EX
  obtain ⟨_, _, ⟨T65, L65, k65, n65⟩, -, X65, ⟨Lc65, hQ65, l65, y65, z65⟩, st65⟩ := X64.virtualBack hx (y := (⟨"java/lang/String", "coder", "()B"⟩ : MethodName)) (z := (⟨"java/lang/String", "coder", "()B"⟩ : MethodName)) hown (mvT hZ hw104) (mvT hZ hw82) (notFace_of_selects (args := #[]) (mvT hZ hw84)) (mvT hZ hw84) (mvT hZ hw83) (by decide) (backOf (W := 1) (rmCo l Z a0 hw [] vcs vfm G sa h0 n0 O0 CA) hZ hw85 hw7 (by decide) (by decide)) q65a q65c (g := (mkF m 11 #[vr so, vr sa] [(.ref sa), (.int (0 : Int32))])) rfl (by rw [hml]; rfl) (Steps.refl _) (argsL := []) (rest := [(.int (0 : Int32))]) (lenOf pd_5 rfl) rfl (by show 2 * 0 + _ ≤ _; exact Nat.le_of_eq rfl) (hb hby d16_11) (fun _ _ => ⟨rfl, e64, (by decide : 0 + 0 ≤ _), (by decide : 0 + 0 ≤ _)⟩)
  dsimp only [Pt.U, Pt.locs, Pt.cells, Pt.slots] at X65 l65 y65 z65 st65 hQ65
  subst l65 y65 z65
  obtain ⟨rfl, rfl, e65⟩ := hQ65
  try replace X65 := own_nil X65
  refine Go.by' (fun t k => st65.trans k) ?_
  show Go p.tables e below Pf (T65.setTop (mkF m 14 #[vr so, vr sa] [(.int (0 : Int32)), (.int (0 : Int32))]))
  refine Go.by' (fun t k => (XS.icmpYes X65.here hx rfl (pc0 := 14) (pc' := 21) rfl (hb hby d16_14) rfl (teq (by decide)).1 (by decide) (by decide) k)) ?_
  show Go p.tables e below Pf (T65.setTop (mkF m 21 #[vr so, vr sa] []))
  rw [hPf]
  exact Go.retV' X65 hx hret hlk (hb hby d16_21) (by decide) (by decide) ⟨rfl, rfl, e65⟩
theorem d12_0 : decode jdk_42_method_54_code 0 = .ok (.aload_n 0, 1) := by decide +kernel
theorem d12_1 : decode jdk_42_method_54_code 1 = .ok (.getfield 9, 3) := by decide +kernel
theorem d12_4 : decode jdk_42_method_54_code 4 = .ok (.arraylength, 1) := by decide +kernel
theorem d12_5 : decode jdk_42_method_54_code 5 = .ok (.aload_n 0, 1) := by decide +kernel
theorem d12_6 : decode jdk_42_method_54_code 6 = .ok (.invokevirtual 335, 3) := by decide +kernel
theorem d12_9 : decode jdk_42_method_54_code 9 = .ok (.ishr, 1) := by decide +kernel
theorem d12_10 : decode jdk_42_method_54_code 10 = .ok (.ireturn, 1) := by decide +kernel
theorem pn_12 : plainName "java/lang/String" = true := by first | (simp [plainName, overriddenIn]; done) | decide +kernel
set_option maxHeartbeats 4000000 in
theorem ef_rmLn (m : MethodId) {sa : Addr} : entryFrame m #[(.ref sa)] 1 = mkF m 0 #[vr sa] [] := by first | (simp [entryFrame, mkF, argsToLocals, Value.category]; done) | rfl
def QrmLn (Z : State) (vcs : Int32) (vfm : Value) (sa : Addr) (va : Addr) (ka : ClassId) (mm : Int32) (vsa : (List Value)) (h0 : Heap) (n0 : Nat) (v : Option Value) (h : Heap) (L : List Loc) : Prop := (v = some (.int mm)) ∧ (L = []) ∧ (h = h0)
set_option maxRecDepth 65536 in
set_option maxHeartbeats 40000000 in
theorem rmLn (l : Launch) (Z : State) (a0 : Array Value) (hw : ∀ d ∈ tables_1, d.before a0 Z = true) (ws : List Jvm.Cond) (vcs : Int32) (vfm : Value) (G : Gh Z vcs vfm) (sa : Addr) (va : Addr) (ka : ClassId) (mm : Int32) (vsa : (List Value)) (h0 : Heap) (n0 : Nat) (O0 : Old Z n0 h0) (EA : Exa Z h0 sa "java/lang/String") (FA : Fld Z h0 sa "java/lang/String" "value" "[B" (.ref va)) (CA : Fld Z h0 sa "java/lang/String" "coder" "B" (.int (0 : Int32))) (VA : Arv Z h0 va ka .byte mm vsa (.int (0 : Int32))) :
    MetFree l (⟨"java/lang/String", "length", "()I"⟩ : MethodName) (head1 (Jvm.Cond.code (⟨"java/lang/String", "length", "()I"⟩ : MethodName) jdk_42_method_54_code 1 (some .int) :: ws) ({ frames := 1, cells := 0, slots := 0, locals := 13 } : Room)) (fun aa' UU' => aa' = #[(.ref sa)] ∧ Z.Warmed39 UU'.vm ∧ UU'.heap = h0) (fun _ _ _ _ _ => True) (fun _ UU' oo' VV' => ∃ v' L', oo' = .returned v' ∧ QrmLn Z vcs vfm sa va ka mm vsa h0 n0 v' VV'.heap L' ∧ FrameEnd UU' oo' VV' L' ({ frames := 1, cells := 0, slots := 0, locals := 13 } : Room).cells ({ frames := 1, cells := 0, slots := 0, locals := 13 } : Room).slots) := by
  refine MetFree.of_bodySF (plainFor_of_name pn_12) hisR ?_
  intro p e s m args below meth c s₁ Bd hml0 hP hK
  obtain ⟨rfl, hZ, hh⟩ := hP
  have hx := Bd.exec
  have hby := Bd.bytes
  have hlk := Bd.notSynchronized
  have hml : c.maxLocals = 1 := hml0
  have hown : s.vm.findClass "java/lang/String" = some m.cls := findClass_of_methodNamed Bd.named
  have hnm := (name_of_methodNamed Bd.named Bd.method).1
  have hret := Bd.returns
  have X0 : Stand p l e ({ frames := 1, cells := 0, slots := 0, locals := 13 } : Room) s m #[(.ref sa)] below meth c s₁ [] 0 0 := Stand.of_body Bd
  have e0 : s₁.heap = h0 := by rw [← hh, Bd.state]; rfl
  have N0 := Fr.nil n0
  refine Go.body ?_
  obtain ⟨Pf, hPf⟩ : ∃ P, P = Fin' s below ({ frames := 1, cells := 0, slots := 0, locals := 13 } : Room).cells ({ frames := 1, cells := 0, slots := 0, locals := 13 } : Room).slots (QrmLn Z vcs vfm sa va ka mm vsa h0 n0) := ⟨_, rfl⟩
  rw [← hPf]
  refine Go.cast (ef_rmLn m) ?_
  have hw7 := (hw _ (List.mem_of_getElem? (i := 7) rfl))
  have hw25 := (hw _ (List.mem_of_getElem? (i := 25) rfl))
  have hw81 := (hw _ (List.mem_of_getElem? (i := 81) rfl))
  have hw82 := (hw _ (List.mem_of_getElem? (i := 82) rfl))
  have hw83 := (hw _ (List.mem_of_getElem? (i := 83) rfl))
  have hw84 := (hw _ (List.mem_of_getElem? (i := 84) rfl))
  have hw85 := (hw _ (List.mem_of_getElem? (i := 85) rfl))
  show Go p.tables e below Pf (s₁.setTop (mkF m 0 #[vr sa] []))
  refine Go.by' (fun t k => (XS.aloadN X0.here hx rfl (hb hby d12_0) rfl rfl k)) ?_
  obtain ⟨T66, X66, e66, st66⟩ := getF X0 hx hZ hown (host := "") (Or.inl hw25) Via.refl e0 FA (g := (mkF m 1 #[vr sa] [(.ref sa)])) rfl rfl (hb hby d12_1)
  refine Go.by' st66 ?_
  obtain ⟨cl67, Ar67, -, S67, P67, -, -⟩ := (id VA)
  show Go p.tables e below Pf (T66.setTop (mkF m 4 #[vr sa] [(.ref va)]))
  refine Go.by' (fun t k => (X66.arraylength hx (by rw [e66]; exact Ar67.1) (State.isArrayOf_alike hZ.alike Ar67.2.1) (g := (mkF m 4 #[vr sa] [(.ref va)])) rfl rfl (hb hby d12_4) t k)) ?_
  rw [len_of S67 P67]
  show Go p.tables e below Pf (T66.setTop (mkF m 5 #[vr sa] [(.int mm)]))
  refine Go.by' (fun t k => (XS.aloadN X66.here hx rfl (hb hby d12_5) rfl rfl k)) ?_
  obtain ⟨cq68, kq68, q68a, q68b, q68c⟩ := isOf hZ e66 EA
  obtain ⟨_, _, ⟨T68, L68, k68, n68⟩, -, X68, ⟨Lc68, hQ68, l68, y68, z68⟩, st68⟩ := X66.virtualBack hx (y := (⟨"java/lang/String", "coder", "()B"⟩ : MethodName)) (z := (⟨"java/lang/String", "coder", "()B"⟩ : MethodName)) hown (mvT hZ hw81) (mvT hZ hw82) (notFace_of_selects (args := #[]) (mvT hZ hw84)) (mvT hZ hw84) (mvT hZ hw83) (by decide) (backOf (W := 1) (rmCo l Z a0 hw [] vcs vfm G sa h0 n0 O0 CA) hZ hw85 hw7 (by decide) (by decide)) q68a q68c (g := (mkF m 6 #[vr sa] [(.ref sa), (.int mm)])) rfl (by rw [hml]; rfl) (Steps.refl _) (argsL := []) (rest := [(.int mm)]) (lenOf pd_5 rfl) rfl (by show 2 * 0 + _ ≤ _; exact Nat.le_of_eq rfl) (hb hby d12_6) (fun _ _ => ⟨rfl, e66, (by decide : 0 + 0 ≤ _), (by decide : 0 + 0 ≤ _)⟩)
  dsimp only [Pt.U, Pt.locs, Pt.cells, Pt.slots] at X68 l68 y68 z68 st68 hQ68
  subst l68 y68 z68
  obtain ⟨rfl, rfl, e68⟩ := hQ68
  try replace X68 := own_nil X68
  refine Go.by' (fun t k => st68.trans k) ?_
  show Go p.tables e below Pf (T68.setTop (mkF m 9 #[vr sa] [(.int (0 : Int32)), (.int mm)]))
  refine Go.by' (fun t k => (XS.ishr X68.here hx rfl (hb hby d12_9) rfl k)) ?_
  show Go p.tables e below Pf (T68.setTop (mkF m 10 #[vr sa] [(.int (mm >>> ((0 : Int32) &&& 31)))]))
  refine Go.castF (a := (mm >>> ((0 : Int32) &&& 31))) (b := mm) (fun z' : Int32 => mkF m 10 #[vr sa] [(.int z')]) (own_shr0 _) ?_
  show Go p.tables e below Pf (T68.setTop (mkF m 10 #[vr sa] [(.int mm)]))
  rw [hPf]
  exact Go.retI' X68 hx hret hlk (by simp) rfl (hb hby d12_10) (by decide) (by decide) ⟨rfl, rfl, e68⟩
theorem d14_0 : decode jdk_68_method_9_code 0 = .ok (.aload_n 0, 1) := by decide +kernel
theorem d14_1 : decode jdk_68_method_9_code 1 = .ok (.getfield 15, 3) := by decide +kernel
theorem d14_4 : decode jdk_68_method_9_code 4 = .ok (.arraylength, 1) := by decide +kernel
theorem d14_5 : decode jdk_68_method_9_code 5 = .ok (.aload_n 0, 1) := by decide +kernel
theorem d14_6 : decode jdk_68_method_9_code 6 = .ok (.getfield 22, 3) := by decide +kernel
theorem d14_9 : decode jdk_68_method_9_code 9 = .ok (.ishr, 1) := by decide +kernel
theorem d14_10 : decode jdk_68_method_9_code 10 = .ok (.istore_n 2, 1) := by decide +kernel
theorem d14_11 : decode jdk_68_method_9_code 11 = .ok (.iload_n 1, 1) := by decide +kernel
theorem d14_12 : decode jdk_68_method_9_code 12 = .ok (.iload_n 2, 1) := by decide +kernel
theorem d14_13 : decode jdk_68_method_9_code 13 = .ok (.isub, 1) := by decide +kernel
theorem d14_14 : decode jdk_68_method_9_code 14 = .ok (.ifCond .le 24, 3) := by decide +kernel
theorem d14_38 : decode jdk_68_method_9_code 38 = .ok (.return_, 1) := by decide +kernel
theorem pn_14 : plainName "java/lang/AbstractStringBuilder" = true := by first | (simp [plainName, overriddenIn]; done) | decide +kernel
set_option maxHeartbeats 4000000 in
theorem ef_rmEn (m : MethodId) {so : Addr} {kk : Int32} : entryFrame m #[(.ref so), (.int kk)] 3 = mkF m 0 #[vr so, vi kk, .unset] [] := by first | (simp [entryFrame, mkF, argsToLocals, Value.category]; done) | rfl
def QrmEn (Z : State) (vcs : Int32) (vfm : Value) (so : Addr) (kk : Int32) (rb : Addr) (kb : ClassId) (vsb : (List Value)) (h0 : Heap) (n0 : Nat) (v : Option Value) (h : Heap) (L : List Loc) : Prop := (v = none) ∧ (L = []) ∧ (h = h0)
set_option maxRecDepth 65536 in
set_option maxHeartbeats 40000000 in
theorem rmEn (l : Launch) (Z : State) (a0 : Array Value) (hw : ∀ d ∈ tables_1, d.before a0 Z = true) (ws : List Jvm.Cond) (vcs : Int32) (vfm : Value) (G : Gh Z vcs vfm) (so : Addr) (kk : Int32) (rb : Addr) (kb : ClassId) (vsb : (List Value)) (h0 : Heap) (n0 : Nat) (O0 : Old Z n0 h0) (FV : Fld Z h0 so "java/lang/AbstractStringBuilder" "value" "[B" (.ref rb)) (FC : Fld Z h0 so "java/lang/AbstractStringBuilder" "coder" "B" (.int (0 : Int32))) (VB : Arv Z h0 rb kb .byte (16 : Int32) vsb (.int (0 : Int32))) (hkk : ¬ ((0 : Int32) < (kk - (16 : Int32)))) :
    MetFree l (⟨"java/lang/AbstractStringBuilder", "ensureCapacityInternal", "(I)V"⟩ : MethodName) (head1 (Jvm.Cond.code (⟨"java/lang/AbstractStringBuilder", "ensureCapacityInternal", "(I)V"⟩ : MethodName) jdk_68_method_9_code 3 none :: ws) ({ frames := 0, cells := 0, slots := 0, locals := 0 } : Room)) (fun aa' UU' => aa' = #[(.ref so), (.int kk)] ∧ Z.Warmed39 UU'.vm ∧ UU'.heap = h0) (fun _ _ _ _ _ => True) (fun _ UU' oo' VV' => ∃ v' L', oo' = .returned v' ∧ QrmEn Z vcs vfm so kk rb kb vsb h0 n0 v' VV'.heap L' ∧ FrameEnd UU' oo' VV' L' ({ frames := 0, cells := 0, slots := 0, locals := 0 } : Room).cells ({ frames := 0, cells := 0, slots := 0, locals := 0 } : Room).slots) := by
  refine MetFree.of_bodySF (plainFor_of_name pn_14) hisR ?_
  intro p e s m args below meth c s₁ Bd hml0 hP hK
  obtain ⟨rfl, hZ, hh⟩ := hP
  have hx := Bd.exec
  have hby := Bd.bytes
  have hlk := Bd.notSynchronized
  have hml : c.maxLocals = 3 := hml0
  have hown : s.vm.findClass "java/lang/AbstractStringBuilder" = some m.cls := findClass_of_methodNamed Bd.named
  have hnm := (name_of_methodNamed Bd.named Bd.method).1
  have hret := Bd.returns
  have X0 : Stand p l e ({ frames := 0, cells := 0, slots := 0, locals := 0 } : Room) s m #[(.ref so), (.int kk)] below meth c s₁ [] 0 0 := Stand.of_body Bd
  have e0 : s₁.heap = h0 := by rw [← hh, Bd.state]; rfl
  have N0 := Fr.nil n0
  refine Go.body ?_
  obtain ⟨Pf, hPf⟩ : ∃ P, P = Fin' s below ({ frames := 0, cells := 0, slots := 0, locals := 0 } : Room).cells ({ frames := 0, cells := 0, slots := 0, locals := 0 } : Room).slots (QrmEn Z vcs vfm so kk rb kb vsb h0 n0) := ⟨_, rfl⟩
  rw [← hPf]
  refine Go.cast (ef_rmEn m) ?_
  have hw62 := (hw _ (List.mem_of_getElem? (i := 62) rfl))
  have hw64 := (hw _ (List.mem_of_getElem? (i := 64) rfl))
  show Go p.tables e below Pf (s₁.setTop (mkF m 0 #[vr so, vi kk, .unset] []))
  refine Go.by' (fun t k => (XS.aloadN X0.here hx rfl (hb hby d14_0) rfl rfl k)) ?_
  obtain ⟨T69, X69, e69, st69⟩ := getF X0 hx hZ hown (host := "") (Or.inl hw62) Via.refl e0 FV (g := (mkF m 1 #[vr so, vi kk, .unset] [(.ref so)])) rfl rfl (hb hby d14_1)
  refine Go.by' st69 ?_
  obtain ⟨cl70, Ar70, -, S70, P70, -, -⟩ := (id VB)
  show Go p.tables e below Pf (T69.setTop (mkF m 4 #[vr so, vi kk, .unset] [(.ref rb)]))
  refine Go.by' (fun t k => (X69.arraylength hx (by rw [e69]; exact Ar70.1) (State.isArrayOf_alike hZ.alike Ar70.2.1) (g := (mkF m 4 #[vr so, vi kk, .unset] [(.ref rb)])) rfl rfl (hb hby d14_4) t k)) ?_
  rw [len_of S70 P70]
  show Go p.tables e below Pf (T69.setTop (mkF m 5 #[vr so, vi kk, .unset] [(.int (16 : Int32))]))
  refine Go.by' (fun t k => (XS.aloadN X69.here hx rfl (hb hby d14_5) rfl rfl k)) ?_
  obtain ⟨T71, X71, e71, st71⟩ := getF X69 hx hZ hown (host := "") (Or.inl hw64) Via.refl e69 FC (g := (mkF m 6 #[vr so, vi kk, .unset] [(.ref so), (.int (16 : Int32))])) rfl rfl (hb hby d14_6)
  refine Go.by' st71 ?_
  show Go p.tables e below Pf (T71.setTop (mkF m 9 #[vr so, vi kk, .unset] [(.int (0 : Int32)), (.int (16 : Int32))]))
  refine Go.by' (fun t k => (XS.ishr X71.here hx rfl (hb hby d14_9) rfl k)) ?_
  show Go p.tables e below Pf (T71.setTop (mkF m 10 #[vr so, vi kk, .unset] [(.int ((16 : Int32) >>> ((0 : Int32) &&& 31)))]))
  refine Go.castF (a := ((16 : Int32) >>> ((0 : Int32) &&& 31))) (b := (16 : Int32)) (fun z' : Int32 => mkF m 10 #[vr so, vi kk, .unset] [(.int z')]) (by decide) ?_
  show Go p.tables e below Pf (T71.setTop (mkF m 10 #[vr so, vi kk, .unset] [(.int (16 : Int32))]))
  refine Go.by' (fun t k => (XS.istoreN X71.here hx rfl (hb hby d14_10) rfl (l' := #[vr so, vi kk, vi (16 : Int32)]) rfl (XS.iloadN X71.here hx rfl (hb hby d14_11) rfl (XS.iloadN X71.here hx rfl (hb hby d14_12) rfl (XS.isub X71.here hx rfl (hb hby d14_13) rfl (XS.ifYes X71.here hx rfl (pc0 := 14) (pc' := 38) rfl (hb hby d14_14) rfl ((if0 _ _).trans (flt hkk).2.2.2) (by decide) (by decide) k)))))) ?_
  show Go p.tables e below Pf (T71.setTop (mkF m 38 #[vr so, vi kk, vi (16 : Int32)] []))
  rw [hPf]
  exact Go.retV' X71 hx hret hlk (hb hby d14_38) (by decide) (by decide) ⟨rfl, rfl, e71⟩
theorem d17_0 : decode jdk_42_method_147_code 0 = .ok (.aload_n 0, 1) := by decide +kernel
theorem d17_1 : decode jdk_42_method_147_code 1 = .ok (.invokevirtual 335, 3) := by decide +kernel
theorem d17_4 : decode jdk_42_method_147_code 4 = .ok (.iload_n 3, 1) := by decide +kernel
theorem d17_5 : decode jdk_42_method_147_code 5 = .ok (.if_icmp .ne 23, 3) := by decide +kernel
theorem d17_8 : decode jdk_42_method_147_code 8 = .ok (.aload_n 0, 1) := by decide +kernel
theorem d17_9 : decode jdk_42_method_147_code 9 = .ok (.getfield 9, 3) := by decide +kernel
theorem d17_12 : decode jdk_42_method_147_code 12 = .ok (.iconst 0, 1) := by decide +kernel
theorem d17_13 : decode jdk_42_method_147_code 13 = .ok (.aload_n 1, 1) := by decide +kernel
theorem d17_14 : decode jdk_42_method_147_code 14 = .ok (.iload_n 2, 1) := by decide +kernel
theorem d17_15 : decode jdk_42_method_147_code 15 = .ok (.iload_n 3, 1) := by decide +kernel
theorem d17_16 : decode jdk_42_method_147_code 16 = .ok (.ishl, 1) := by decide +kernel
theorem d17_17 : decode jdk_42_method_147_code 17 = .ok (.aload_n 0, 1) := by decide +kernel
theorem d17_18 : decode jdk_42_method_147_code 18 = .ok (.getfield 9, 3) := by decide +kernel
theorem d17_21 : decode jdk_42_method_147_code 21 = .ok (.arraylength, 1) := by decide +kernel
theorem d17_22 : decode jdk_42_method_147_code 22 = .ok (.invokestatic 212, 3) := by decide +kernel
theorem d17_25 : decode jdk_42_method_147_code 25 = .ok (.goto 18, 3) := by decide +kernel
theorem d17_43 : decode jdk_42_method_147_code 43 = .ok (.return_, 1) := by decide +kernel
theorem pn_17 : plainName "java/lang/String" = true := by first | (simp [plainName, overriddenIn]; done) | decide +kernel
set_option maxHeartbeats 4000000 in
theorem ef_rmGB (m : MethodId) {sa : Addr} {rb : Addr} {nn : Int32} : entryFrame m #[(.ref sa), (.ref rb), (.int nn), (.int (0 : Int32))] 4 = mkF m 0 #[vr sa, vr rb, vi nn, vi (0 : Int32)] [] := by first | (simp [entryFrame, mkF, argsToLocals, Value.category]; done) | rfl
def QrmGB (Z : State) (vcs : Int32) (vfm : Value) (sa : Addr) (rb : Addr) (nn : Int32) (va : Addr) (ka : ClassId) (mm : Int32) (vsa : (List Value)) (kb : ClassId) (vsb : (List Value)) (h0 : Heap) (n0 : Nat) (v : Option Value) (h : Heap) (L : List Loc) : Prop := ∃ (vsn : (List Value)), (v = none) ∧ (Fr n0 L) ∧ (Keep h0 h [rb]) ∧ (Arv Z h rb kb .byte (16 : Int32) vsn (.int (0 : Int32))) ∧ (vsn = cpl vsa vsb (0 : Int32) nn mm (16 : Int32))
set_option maxRecDepth 65536 in
set_option maxHeartbeats 40000000 in
theorem rmGB (l : Launch) (Z : State) (a0 : Array Value) (hw : ∀ d ∈ tables_1, d.before a0 Z = true) (ws : List Jvm.Cond) (vcs : Int32) (vfm : Value) (G : Gh Z vcs vfm) (sa : Addr) (rb : Addr) (nn : Int32) (va : Addr) (ka : ClassId) (mm : Int32) (vsa : (List Value)) (kb : ClassId) (vsb : (List Value)) (h0 : Heap) (n0 : Nat) (O0 : Old Z n0 h0) (EA : Exa Z h0 sa "java/lang/String") (FA : Fld Z h0 sa "java/lang/String" "value" "[B" (.ref va)) (CA : Fld Z h0 sa "java/lang/String" "coder" "B" (.int (0 : Int32))) (VA : Arv Z h0 va ka .byte mm vsa (.int (0 : Int32))) (VB : Arv Z h0 rb kb .byte (16 : Int32) vsb (.int (0 : Int32))) (g_rb : n0 ≤ rb) (hRm : Rm nn mm) :
    MetFree l (⟨"java/lang/String", "getBytes", "([BIB)V"⟩ : MethodName) (head1 (Jvm.Cond.code (⟨"java/lang/String", "getBytes", "([BIB)V"⟩ : MethodName) jdk_42_method_147_code 4 none :: ws) ({ frames := 1, cells := 0, slots := 0, locals := 40 } : Room)) (fun aa' UU' => aa' = #[(.ref sa), (.ref rb), (.int nn), (.int (0 : Int32))] ∧ Z.Warmed39 UU'.vm ∧ UU'.heap = h0) (fun _ _ _ _ _ => True) (fun _ UU' oo' VV' => ∃ v' L', oo' = .returned v' ∧ QrmGB Z vcs vfm sa rb nn va ka mm vsa kb vsb h0 n0 v' VV'.heap L' ∧ FrameEnd UU' oo' VV' L' ({ frames := 1, cells := 0, slots := 0, locals := 40 } : Room).cells ({ frames := 1, cells := 0, slots := 0, locals := 40 } : Room).slots) := by
  refine MetFree.of_bodySF (plainFor_of_name pn_17) hisR ?_
  intro p e s m args below meth c s₁ Bd hml0 hP hK
  obtain ⟨rfl, hZ, hh⟩ := hP
  have hx := Bd.exec
  have hby := Bd.bytes
  have hlk := Bd.notSynchronized
  have hml : c.maxLocals = 4 := hml0
  have hown : s.vm.findClass "java/lang/String" = some m.cls := findClass_of_methodNamed Bd.named
  have hnm := (name_of_methodNamed Bd.named Bd.method).1
  have hret := Bd.returns
  have X0 : Stand p l e ({ frames := 1, cells := 0, slots := 0, locals := 40 } : Room) s m #[(.ref sa), (.ref rb), (.int nn), (.int (0 : Int32))] below meth c s₁ [] 0 0 := Stand.of_body Bd
  have e0 : s₁.heap = h0 := by rw [← hh, Bd.state]; rfl
  have N0 := Fr.nil n0
  have KC0 : Keep h0 h0 [rb] := Keep.refl _ _
  refine Go.body ?_
  obtain ⟨Pf, hPf⟩ : ∃ P, P = Fin' s below ({ frames := 1, cells := 0, slots := 0, locals := 40 } : Room).cells ({ frames := 1, cells := 0, slots := 0, locals := 40 } : Room).slots (QrmGB Z vcs vfm sa rb nn va ka mm vsa kb vsb h0 n0) := ⟨_, rfl⟩
  rw [← hPf]
  refine Go.cast (ef_rmGB m) ?_
  have hw7 := (hw _ (List.mem_of_getElem? (i := 7) rfl))
  have hw25 := (hw _ (List.mem_of_getElem? (i := 25) rfl))
  have hw81 := (hw _ (List.mem_of_getElem? (i := 81) rfl))
  have hw82 := (hw _ (List.mem_of_getElem? (i := 82) rfl))
  have hw83 := (hw _ (List.mem_of_getElem? (i := 83) rfl))
  have hw84 := (hw _ (List.mem_of_getElem? (i := 84) rfl))
  have hw85 := (hw _ (List.mem_of_getElem? (i := 85) rfl))
  have hw110 := (hw _ (List.mem_of_getElem? (i := 110) rfl))
  have hw111 := (hw _ (List.mem_of_getElem? (i := 111) rfl))
  have hw112 := (hw _ (List.mem_of_getElem? (i := 112) rfl))
  have hw113 := (hw _ (List.mem_of_getElem? (i := 113) rfl))
  show Go p.tables e below Pf (s₁.setTop (mkF m 0 #[vr sa, vr rb, vi nn, vi (0 : Int32)] []))
  refine Go.by' (fun t k => (XS.aloadN X0.here hx rfl (hb hby d17_0) rfl rfl k)) ?_
  obtain ⟨cq72, kq72, q72a, q72b, q72c⟩ := isOf hZ e0 EA
  obtain ⟨_, _, ⟨T72, L72, k72, n72⟩, -, X72, ⟨Lc72, hQ72, l72, y72, z72⟩, st72⟩ := X0.virtualBack hx (y := (⟨"java/lang/String", "coder", "()B"⟩ : MethodName)) (z := (⟨"java/lang/String", "coder", "()B"⟩ : MethodName)) hown (mvT hZ hw81) (mvT hZ hw82) (notFace_of_selects (args := #[]) (mvT hZ hw84)) (mvT hZ hw84) (mvT hZ hw83) (by decide) (backOf (W := 0) (rmCo l Z a0 hw [] vcs vfm G sa h0 n0 O0 CA) hZ hw85 hw7 (by decide) (by decide)) q72a q72c (g := (mkF m 1 #[vr sa, vr rb, vi nn, vi (0 : Int32)] [(.ref sa)])) rfl (by rw [hml]; rfl) (Steps.refl _) (argsL := []) (rest := []) (lenOf pd_5 rfl) rfl (by show 2 * 0 + _ ≤ _; exact Nat.le_of_eq rfl) (hb hby d17_1) (fun _ _ => ⟨rfl, e0, (by decide : 0 + 0 ≤ _), (by decide : 0 + 0 ≤ _)⟩)
  dsimp only [Pt.U, Pt.locs, Pt.cells, Pt.slots] at X72 l72 y72 z72 st72 hQ72
  subst l72 y72 z72
  obtain ⟨rfl, rfl, e72⟩ := hQ72
  try replace X72 := own_nil X72
  refine Go.by' (fun t k => st72.trans k) ?_
  show Go p.tables e below Pf (T72.setTop (mkF m 4 #[vr sa, vr rb, vi nn, vi (0 : Int32)] [(.int (0 : Int32))]))
  refine Go.by' (fun t k => (XS.iloadN X72.here hx rfl (hb hby d17_4) rfl (XS.icmpNo X72.here hx rfl (hb hby d17_5) rfl (teq (by decide)).2 (XS.aloadN X72.here hx rfl (hb hby d17_8) rfl rfl k)))) ?_
  obtain ⟨T73, X73, e73, st73⟩ := getF X72 hx hZ hown (host := "") (Or.inl hw25) Via.refl e72 FA (g := (mkF m 9 #[vr sa, vr rb, vi nn, vi (0 : Int32)] [(.ref sa)])) rfl rfl (hb hby d17_9)
  refine Go.by' st73 ?_
  show Go p.tables e below Pf (T73.setTop (mkF m 12 #[vr sa, vr rb, vi nn, vi (0 : Int32)] [(.ref va)]))
  refine Go.by' (fun t k => (XS.iconst X73.here hx rfl (hb hby d17_12) (XS.aloadN X73.here hx rfl (hb hby d17_13) rfl rfl (XS.iloadN X73.here hx rfl (hb hby d17_14) rfl (XS.iloadN X73.here hx rfl (hb hby d17_15) rfl (XS.ishl X73.here hx rfl (hb hby d17_16) rfl k)))))) ?_
  show Go p.tables e below Pf (T73.setTop (mkF m 17 #[vr sa, vr rb, vi nn, vi (0 : Int32)] [(.int (nn <<< ((0 : Int32) &&& 31))), (.ref rb), (.int (0 : Int32)), (.ref va)]))
  refine Go.castF (a := (nn <<< ((0 : Int32) &&& 31))) (b := nn) (fun z' : Int32 => mkF m 17 #[vr sa, vr rb, vi nn, vi (0 : Int32)] [(.int z'), (.ref rb), (.int (0 : Int32)), (.ref va)]) (own_shl0 _) ?_
  show Go p.tables e below Pf (T73.setTop (mkF m 17 #[vr sa, vr rb, vi nn, vi (0 : Int32)] [(.int nn), (.ref rb), (.int (0 : Int32)), (.ref va)]))
  refine Go.by' (fun t k => (XS.aloadN X73.here hx rfl (hb hby d17_17) rfl rfl k)) ?_
  obtain ⟨T74, X74, e74, st74⟩ := getF X73 hx hZ hown (host := "") (Or.inl hw25) Via.refl e73 FA (g := (mkF m 18 #[vr sa, vr rb, vi nn, vi (0 : Int32)] [(.ref sa), (.int nn), (.ref rb), (.int (0 : Int32)), (.ref va)])) rfl rfl (hb hby d17_18)
  refine Go.by' st74 ?_
  obtain ⟨cl75, Ar75, -, S75, P75, -, -⟩ := (id VA)
  show Go p.tables e below Pf (T74.setTop (mkF m 21 #[vr sa, vr rb, vi nn, vi (0 : Int32)] [(.ref va), (.int nn), (.ref rb), (.int (0 : Int32)), (.ref va)]))
  refine Go.by' (fun t k => (X74.arraylength hx (by rw [e74]; exact Ar75.1) (State.isArrayOf_alike hZ.alike Ar75.2.1) (g := (mkF m 21 #[vr sa, vr rb, vi nn, vi (0 : Int32)] [(.ref va), (.int nn), (.ref rb), (.int (0 : Int32)), (.ref va)])) rfl rfl (hb hby d17_21) t k)) ?_
  rw [len_of S75 P75]
  obtain ⟨T76, h76, Lc76, vc76, X76, e76, K76, V76, Rc76, By76, st76⟩ := own_acopyG X74 hx hZ hown (own_acw (mvT hZ hw110) (mvT hZ hw113) (mvT hZ hw111) (mvT hZ hw112)) e74 rfl VA VB (by decide) hRm.1 hRm.2.1 (Int.le_of_eq (Int.zero_add _)) (Int.le_trans hRm.2.2.1 (by decide)) (g := (mkF m 22 #[vr sa, vr rb, vi nn, vi (0 : Int32)] [(.int mm), (.int nn), (.ref rb), (.int (0 : Int32)), (.ref va)])) rfl (by rw [hml]; rfl) rfl (hb hby d17_22) (W := 0) (by show 2 * 0 + _ ≤ _; exact Nat.le_of_eq rfl) (by decide) (by decide)
  refine Go.by' st76 ?_
  have N76 := Fr.app N0 (fun y hy => by rw [By76 y hy]; exact g_rb : Fr n0 Lc76)
  obtain ⟨lc76, X76, N76⟩ := own_pack X76 N76
  have O76 := O0.keep K76 (allS g_rb all0)
  have KC76 : Keep h0 h76 [rb] := KC0.trans K76 (allS (Or.inl (List.mem_of_getElem? (i := 0) rfl)) all0)
  show Go p.tables e below Pf (T76.setTop (mkF m 25 #[vr sa, vr rb, vi nn, vi (0 : Int32)] []))
  refine Go.by' (fun t k => (XS.goto X76.here hx rfl (pc0 := 25) (pc' := 43) rfl (hb hby d17_25) (by decide) (by decide) k)) ?_
  show Go p.tables e below Pf (T76.setTop (mkF m 43 #[vr sa, vr rb, vi nn, vi (0 : Int32)] []))
  rw [hPf]
  exact Go.retV' X76 hx hret hlk (hb hby d17_43) (by decide) (by decide) ⟨vc76, rfl, N76, (by rw [e76]; exact KC76), (by rw [e76]; exact V76), Rc76⟩
theorem d15_0 : decode jdk_68_method_73_code 0 = .ok (.aload_n 0, 1) := by decide +kernel
theorem d15_1 : decode jdk_68_method_73_code 1 = .ok (.aload_n 2, 1) := by decide +kernel
theorem d15_2 : decode jdk_68_method_73_code 2 = .ok (.invokevirtual 397, 3) := by decide +kernel
theorem pd_6 : parseMethodDescriptor "(Ljava/lang/String;)V" = some ⟨[(.object "java/lang/String")], none⟩ := by decide +kernel
theorem d15_5 : decode jdk_68_method_73_code 5 = .ok (.aload_n 2, 1) := by decide +kernel
theorem d15_6 : decode jdk_68_method_73_code 6 = .ok (.aload_n 0, 1) := by decide +kernel
theorem d15_7 : decode jdk_68_method_73_code 7 = .ok (.getfield 15, 3) := by decide +kernel
theorem d15_10 : decode jdk_68_method_73_code 10 = .ok (.iload_n 1, 1) := by decide +kernel
theorem d15_11 : decode jdk_68_method_73_code 11 = .ok (.aload_n 0, 1) := by decide +kernel
theorem d15_12 : decode jdk_68_method_73_code 12 = .ok (.getfield 22, 3) := by decide +kernel
theorem d15_15 : decode jdk_68_method_73_code 15 = .ok (.invokevirtual 399, 3) := by decide +kernel
theorem pd_7 : parseMethodDescriptor "([BIB)V" = some ⟨[(.array .byte), .int, .byte], none⟩ := by decide +kernel
theorem d15_18 : decode jdk_68_method_73_code 18 = .ok (.return_, 1) := by decide +kernel
theorem pn_15 : plainName "java/lang/AbstractStringBuilder" = true := by first | (simp [plainName, overriddenIn]; done) | decide +kernel
set_option maxHeartbeats 4000000 in
theorem ef_rmPS (m : MethodId) {so : Addr} {nn : Int32} {sa : Addr} : entryFrame m #[(.ref so), (.int nn), (.ref sa)] 3 = mkF m 0 #[vr so, vi nn, vr sa] [] := by first | (simp [entryFrame, mkF, argsToLocals, Value.category]; done) | rfl
def QrmPS (Z : State) (vcs : Int32) (vfm : Value) (so : Addr) (nn : Int32) (sa : Addr) (rb : Addr) (kb : ClassId) (vsb : (List Value)) (va : Addr) (ka : ClassId) (mm : Int32) (vsa : (List Value)) (h0 : Heap) (n0 : Nat) (v : Option Value) (h : Heap) (L : List Loc) : Prop := ∃ (vsn : (List Value)), (v = none) ∧ (Fr n0 L) ∧ (Keep h0 h [rb]) ∧ (Arv Z h rb kb .byte (16 : Int32) vsn (.int (0 : Int32))) ∧ (vsn = cpl vsa vsb (0 : Int32) nn mm (16 : Int32))
set_option maxRecDepth 65536 in
set_option maxHeartbeats 40000000 in
theorem rmPS (l : Launch) (Z : State) (a0 : Array Value) (hw : ∀ d ∈ tables_1, d.before a0 Z = true) (ws : List Jvm.Cond) (vcs : Int32) (vfm : Value) (G : Gh Z vcs vfm) (so : Addr) (nn : Int32) (sa : Addr) (rb : Addr) (kb : ClassId) (vsb : (List Value)) (va : Addr) (ka : ClassId) (mm : Int32) (vsa : (List Value)) (h0 : Heap) (n0 : Nat) (O0 : Old Z n0 h0) (EX : Exa Z h0 so "java/lang/StringBuilder") (FV : Fld Z h0 so "java/lang/AbstractStringBuilder" "value" "[B" (.ref rb)) (FC : Fld Z h0 so "java/lang/AbstractStringBuilder" "coder" "B" (.int (0 : Int32))) (EA : Exa Z h0 sa "java/lang/String") (FA : Fld Z h0 sa "java/lang/String" "value" "[B" (.ref va)) (CA : Fld Z h0 sa "java/lang/String" "coder" "B" (.int (0 : Int32))) (VA : Arv Z h0 va ka .byte mm vsa (.int (0 : Int32))) (VB : Arv Z h0 rb kb .byte (16 : Int32) vsb (.int (0 : Int32))) (g_rb : n0 ≤ rb) (hRm : Rm nn mm) :
    MetFree l (⟨"java/lang/AbstractStringBuilder", "putStringAt", "(ILjava/lang/String;)V"⟩ : MethodName) (head1 (Jvm.Cond.code (⟨"java/lang/AbstractStringBuilder", "putStringAt", "(ILjava/lang/String;)V"⟩ : MethodName) jdk_68_method_73_code 3 none :: ws) ({ frames := 2, cells := 0, slots := 0, locals := 55 } : Room)) (fun aa' UU' => aa' = #[(.ref so), (.int nn), (.ref sa)] ∧ Z.Warmed39 UU'.vm ∧ UU'.heap = h0) (fun _ _ _ _ _ => True) (fun _ UU' oo' VV' => ∃ v' L', oo' = .returned v' ∧ QrmPS Z vcs vfm so nn sa rb kb vsb va ka mm vsa h0 n0 v' VV'.heap L' ∧ FrameEnd UU' oo' VV' L' ({ frames := 2, cells := 0, slots := 0, locals := 55 } : Room).cells ({ frames := 2, cells := 0, slots := 0, locals := 55 } : Room).slots) := by
  refine MetFree.of_bodySF (plainFor_of_name pn_15) hisR ?_
  intro p e s m args below meth c s₁ Bd hml0 hP hK
  obtain ⟨rfl, hZ, hh⟩ := hP
  have hx := Bd.exec
  have hby := Bd.bytes
  have hlk := Bd.notSynchronized
  have hml : c.maxLocals = 3 := hml0
  have hown : s.vm.findClass "java/lang/AbstractStringBuilder" = some m.cls := findClass_of_methodNamed Bd.named
  have hnm := (name_of_methodNamed Bd.named Bd.method).1
  have hret := Bd.returns
  have X0 : Stand p l e ({ frames := 2, cells := 0, slots := 0, locals := 55 } : Room) s m #[(.ref so), (.int nn), (.ref sa)] below meth c s₁ [] 0 0 := Stand.of_body Bd
  have e0 : s₁.heap = h0 := by rw [← hh, Bd.state]; rfl
  have N0 := Fr.nil n0
  have KC0 : Keep h0 h0 [rb] := Keep.refl _ _
  refine Go.body ?_
  obtain ⟨Pf, hPf⟩ : ∃ P, P = Fin' s below ({ frames := 2, cells := 0, slots := 0, locals := 55 } : Room).cells ({ frames := 2, cells := 0, slots := 0, locals := 55 } : Room).slots (QrmPS Z vcs vfm so nn sa rb kb vsb va ka mm vsa h0 n0) := ⟨_, rfl⟩
  rw [← hPf]
  refine Go.cast (ef_rmPS m) ?_
  have hw7 := (hw _ (List.mem_of_getElem? (i := 7) rfl))
  have hw58 := (hw _ (List.mem_of_getElem? (i := 58) rfl))
  have hw62 := (hw _ (List.mem_of_getElem? (i := 62) rfl))
  have hw64 := (hw _ (List.mem_of_getElem? (i := 64) rfl))
  have hw99 := (hw _ (List.mem_of_getElem? (i := 99) rfl))
  have hw100 := (hw _ (List.mem_of_getElem? (i := 100) rfl))
  have hw101 := (hw _ (List.mem_of_getElem? (i := 101) rfl))
  have hw102 := (hw _ (List.mem_of_getElem? (i := 102) rfl))
  have hw103 := (hw _ (List.mem_of_getElem? (i := 103) rfl))
  have hw105 := (hw _ (List.mem_of_getElem? (i := 105) rfl))
  have hw106 := (hw _ (List.mem_of_getElem? (i := 106) rfl))
  have hw107 := (hw _ (List.mem_of_getElem? (i := 107) rfl))
  have hw108 := (hw _ (List.mem_of_getElem? (i := 108) rfl))
  have hw109 := (hw _ (List.mem_of_getElem? (i := 109) rfl))
  show Go p.tables e below Pf (s₁.setTop (mkF m 0 #[vr so, vi nn, vr sa] []))
  refine Go.by' (fun t k => (XS.aloadN X0.here hx rfl (hb hby d15_0) rfl rfl (XS.aloadN X0.here hx rfl (hb hby d15_1) rfl rfl k))) ?_
  obtain ⟨cq77, q77, q77'⟩ := EX.cell
  obtain ⟨_, _, ⟨T77, L77, k77, n77⟩, -, X77, ⟨Lc77, hQ77, l77, y77, z77⟩, st77⟩ := X0.privateBack hx (y := (⟨"java/lang/AbstractStringBuilder", "inflateIfNeededFor", "(Ljava/lang/String;)V"⟩ : MethodName)) hown (mvT hZ hw99) (mvT hZ hw100) (own_selP (mvT hZ hw102) (Cond.privateMethod_at (mvP hZ hw101 (args := #[]))) (mvT hZ hw100) (by decide)) (Cond.privateMethod_at (mvP hZ hw101 (args := #[]))) (mvT hZ hw103) (by decide) (backOf (W := 0) (rmIf l Z a0 hw [] vcs vfm G so sa h0 n0 O0 FC EA CA) hZ hw103 hw58 (by decide) (by decide)) (g := (mkF m 2 #[vr so, vi nn, vr sa] [(.ref sa), (.ref so)])) rfl (by rw [hml]; rfl) (Steps.refl _) (a := so) (by rw [e0]; exact q77) q77' (argsL := [(.ref sa)]) (rest := []) (lenOf pd_6 rfl) rfl (by show 2 * 0 + _ ≤ _; exact Nat.le_of_eq rfl) (hb hby d15_2) (fun _ _ => ⟨rfl, e0, (by decide : 0 + 0 ≤ _), (by decide : 0 + 0 ≤ _)⟩)
  dsimp only [Pt.U, Pt.locs, Pt.cells, Pt.slots] at X77 l77 y77 z77 st77 hQ77
  subst l77 y77 z77
  obtain ⟨rfl, rfl, e77⟩ := hQ77
  try replace X77 := own_nil X77
  refine Go.by' (fun t k => st77.trans k) ?_
  show Go p.tables e below Pf (T77.setTop (mkF m 5 #[vr so, vi nn, vr sa] []))
  refine Go.by' (fun t k => (XS.aloadN X77.here hx rfl (hb hby d15_5) rfl rfl (XS.aloadN X77.here hx rfl (hb hby d15_6) rfl rfl k))) ?_
  obtain ⟨T78, X78, e78, st78⟩ := getF X77 hx hZ hown (host := "") (Or.inl hw62) Via.refl e77 FV (g := (mkF m 7 #[vr so, vi nn, vr sa] [(.ref so), (.ref sa)])) rfl rfl (hb hby d15_7)
  refine Go.by' st78 ?_
  show Go p.tables e below Pf (T78.setTop (mkF m 10 #[vr so, vi nn, vr sa] [(.ref rb), (.ref sa)]))
  refine Go.by' (fun t k => (XS.iloadN X78.here hx rfl (hb hby d15_10) rfl (XS.aloadN X78.here hx rfl (hb hby d15_11) rfl rfl k))) ?_
  obtain ⟨T79, X79, e79, st79⟩ := getF X78 hx hZ hown (host := "") (Or.inl hw64) Via.refl e78 FC (g := (mkF m 12 #[vr so, vi nn, vr sa] [(.ref so), (.int nn), (.ref rb), (.ref sa)])) rfl rfl (hb hby d15_12)
  refine Go.by' st79 ?_
  obtain ⟨cq80, kq80, q80a, q80b, q80c⟩ := isOf hZ e79 EA
  obtain ⟨_, _, ⟨T80, L80, k80, n80⟩, -, X80, ⟨Lc80, hQ80, l80, y80, z80⟩, st80⟩ := X79.virtualBack hx (y := (⟨"java/lang/String", "getBytes", "([BIB)V"⟩ : MethodName)) (z := (⟨"java/lang/String", "getBytes", "([BIB)V"⟩ : MethodName)) hown (mvT hZ hw105) (mvT hZ hw106) (notFace_of_selects (args := #[]) (mvT hZ hw108)) (mvT hZ hw108) (mvT hZ hw107) (by decide) (backOf (W := 0) (rmGB l Z a0 hw [] vcs vfm G sa rb nn va ka mm vsa kb vsb h0 n0 O0 EA FA CA VA VB g_rb hRm) hZ hw109 hw7 (by decide) (by decide)) q80a q80c (g := (mkF m 15 #[vr so, vi nn, vr sa] [(.int (0 : Int32)), (.int nn), (.ref rb), (.ref sa)])) rfl (by rw [hml]; rfl) (Steps.refl _) (argsL := [(.ref rb), (.int nn), (.int (0 : Int32))]) (rest := []) (lenOf pd_7 rfl) rfl (by show 2 * 0 + _ ≤ _; exact Nat.le_of_eq rfl) (hb hby d15_15) (fun _ _ => ⟨rfl, e79, (by decide : 0 + 0 ≤ _), (by decide : 0 + 0 ≤ _)⟩)
  dsimp only [Pt.U, Pt.locs, Pt.cells, Pt.slots] at X80 l80 y80 z80 st80 hQ80
  subst l80 y80 z80
  obtain ⟨vsn_80, rfl, N80q, K80, f80_0, r80_0⟩ := hQ80
  have N80 := Fr.app N0 N80q
  obtain ⟨lc80, X80, N80⟩ := own_pack X80 N80
  refine Go.by' (fun t k => st80.trans k) ?_
  have O80 := O0.keep K80 (allS g_rb all0)
  have KC80 : Keep h0 T80.heap [rb] := KC0.trans K80 (allS (Or.inl (List.mem_of_getElem? (i := 0) rfl)) all0)
  show Go p.tables e below Pf (T80.setTop (mkF m 18 #[vr so, vi nn, vr sa] []))
  rw [hPf]
  exact Go.retV' X80 hx hret hlk (hb hby d15_18) (by decide) (by decide) ⟨vsn_80, rfl, N80, KC80, f80_0, r80_0⟩
theorem d11_0 : decode jdk_68_method_22_code 0 = .ok (.aload_n 1, 1) := by decide +kernel
theorem d11_1 : decode jdk_68_method_22_code 1 = .ok (.ifnonnull 8, 3) := by decide +kernel
theorem d11_9 : decode jdk_68_method_22_code 9 = .ok (.aload_n 1, 1) := by decide +kernel
theorem d11_10 : decode jdk_68_method_22_code 10 = .ok (.invokevirtual 32, 3) := by decide +kernel
theorem pd_8 : parseMethodDescriptor "()I" = some ⟨[], some .int⟩ := by decide +kernel
theorem d11_13 : decode jdk_68_method_22_code 13 = .ok (.istore_n 2, 1) := by decide +kernel
theorem d11_14 : decode jdk_68_method_22_code 14 = .ok (.aload_n 0, 1) := by decide +kernel
theorem d11_15 : decode jdk_68_method_22_code 15 = .ok (.aload_n 0, 1) := by decide +kernel
theorem d11_16 : decode jdk_68_method_22_code 16 = .ok (.getfield 79, 3) := by decide +kernel
theorem d11_19 : decode jdk_68_method_22_code 19 = .ok (.iload_n 2, 1) := by decide +kernel
theorem d11_20 : decode jdk_68_method_22_code 20 = .ok (.iadd, 1) := by decide +kernel
theorem d11_21 : decode jdk_68_method_22_code 21 = .ok (.invokevirtual 100, 3) := by decide +kernel
theorem d11_24 : decode jdk_68_method_22_code 24 = .ok (.aload_n 0, 1) := by decide +kernel
theorem d11_25 : decode jdk_68_method_22_code 25 = .ok (.aload_n 0, 1) := by decide +kernel
theorem d11_26 : decode jdk_68_method_22_code 26 = .ok (.getfield 79, 3) := by decide +kernel
theorem d11_29 : decode jdk_68_method_22_code 29 = .ok (.aload_n 1, 1) := by decide +kernel
theorem d11_30 : decode jdk_68_method_22_code 30 = .ok (.invokevirtual 208, 3) := by decide +kernel
theorem pd_9 : parseMethodDescriptor "(ILjava/lang/String;)V" = some ⟨[.int, (.object "java/lang/String")], none⟩ := by decide +kernel
theorem d11_33 : decode jdk_68_method_22_code 33 = .ok (.aload_n 0, 1) := by decide +kernel
theorem d11_34 : decode jdk_68_method_22_code 34 = .ok (.dup, 1) := by decide +kernel
theorem d11_35 : decode jdk_68_method_22_code 35 = .ok (.getfield 79, 3) := by decide +kernel
theorem d11_38 : decode jdk_68_method_22_code 38 = .ok (.iload_n 2, 1) := by decide +kernel
theorem d11_39 : decode jdk_68_method_22_code 39 = .ok (.iadd, 1) := by decide +kernel
theorem d11_40 : decode jdk_68_method_22_code 40 = .ok (.putfield 79, 3) := by decide +kernel
theorem d11_43 : decode jdk_68_method_22_code 43 = .ok (.aload_n 0, 1) := by decide +kernel
theorem d11_44 : decode jdk_68_method_22_code 44 = .ok (.areturn, 1) := by decide +kernel
theorem pn_11 : plainName "java/lang/AbstractStringBuilder" = true := by first | (simp [plainName, overriddenIn]; done) | decide +kernel
set_option maxHeartbeats 4000000 in
theorem ef_rmAA (m : MethodId) {so : Addr} {sa : Addr} : entryFrame m #[(.ref so), (.ref sa)] 3 = mkF m 0 #[vr so, vr sa, .unset] [] := by first | (simp [entryFrame, mkF, argsToLocals, Value.category]; done) | rfl
def QrmAA (Z : State) (vcs : Int32) (vfm : Value) (so : Addr) (sa : Addr) (nn : Int32) (rb : Addr) (kb : ClassId) (vsb : (List Value)) (va : Addr) (ka : ClassId) (mm : Int32) (vsa : (List Value)) (h0 : Heap) (n0 : Nat) (v : Option Value) (h : Heap) (L : List Loc) : Prop := ∃ (vsn : (List Value)), (v = some (.ref so)) ∧ (Fr n0 L) ∧ (Keep h0 h [so, rb]) ∧ (Exa Z h so "java/lang/StringBuilder") ∧ (Fld Z h so "java/lang/AbstractStringBuilder" "value" "[B" (.ref rb)) ∧ (Fld Z h so "java/lang/AbstractStringBuilder" "coder" "B" (.int (0 : Int32))) ∧ (Fld Z h so "java/lang/AbstractStringBuilder" "count" "I" (.int (nn + mm))) ∧ (Arv Z h rb kb .byte (16 : Int32) vsn (.int (0 : Int32))) ∧ (vsn = cpl vsa vsb (0 : Int32) nn mm (16 : Int32))
set_option maxRecDepth 65536 in
set_option maxHeartbeats 40000000 in
theorem rmAA (l : Launch) (Z : State) (a0 : Array Value) (hw : ∀ d ∈ tables_1, d.before a0 Z = true) (ws : List Jvm.Cond) (vcs : Int32) (vfm : Value) (G : Gh Z vcs vfm) (so : Addr) (sa : Addr) (nn : Int32) (rb : Addr) (kb : ClassId) (vsb : (List Value)) (va : Addr) (ka : ClassId) (mm : Int32) (vsa : (List Value)) (h0 : Heap) (n0 : Nat) (O0 : Old Z n0 h0) (EX : Exa Z h0 so "java/lang/StringBuilder") (FV : Fld Z h0 so "java/lang/AbstractStringBuilder" "value" "[B" (.ref rb)) (FC : Fld Z h0 so "java/lang/AbstractStringBuilder" "coder" "B" (.int (0 : Int32))) (FN : Fld Z h0 so "java/lang/AbstractStringBuilder" "count" "I" (.int nn)) (EA : Exa Z h0 sa "java/lang/String") (FA : Fld Z h0 sa "java/lang/String" "value" "[B" (.ref va)) (CA : Fld Z h0 sa "java/lang/String" "coder" "B" (.int (0 : Int32))) (VA : Arv Z h0 va ka .byte mm vsa (.int (0 : Int32))) (VB : Arv Z h0 rb kb .byte (16 : Int32) vsb (.int (0 : Int32))) (g_rb : n0 ≤ rb) (g_so : n0 ≤ so) (hRm : Rm nn mm) :
    MetFree l (⟨"java/lang/AbstractStringBuilder", "append", "(Ljava/lang/String;)Ljava/lang/AbstractStringBuilder;"⟩ : MethodName) (head1 (Jvm.Cond.code (⟨"java/lang/AbstractStringBuilder", "append", "(Ljava/lang/String;)Ljava/lang/AbstractStringBuilder;"⟩ : MethodName) jdk_68_method_22_code 3 (some (.object "java/lang/AbstractStringBuilder")) :: ws) ({ frames := 3, cells := 0, slots := 0, locals := 69 } : Room)) (fun aa' UU' => aa' = #[(.ref so), (.ref sa)] ∧ Z.Warmed39 UU'.vm ∧ UU'.heap = h0) (fun _ _ _ _ _ => True) (fun _ UU' oo' VV' => ∃ v' L', oo' = .returned v' ∧ QrmAA Z vcs vfm so sa nn rb kb vsb va ka mm vsa h0 n0 v' VV'.heap L' ∧ FrameEnd UU' oo' VV' L' ({ frames := 3, cells := 0, slots := 0, locals := 69 } : Room).cells ({ frames := 3, cells := 0, slots := 0, locals := 69 } : Room).slots) := by
  refine MetFree.of_bodySF (plainFor_of_name pn_11) hisR ?_
  intro p e s m args below meth c s₁ Bd hml0 hP hK
  obtain ⟨rfl, hZ, hh⟩ := hP
  have hx := Bd.exec
  have hby := Bd.bytes
  have hlk := Bd.notSynchronized
  have hml : c.maxLocals = 3 := hml0
  have hown : s.vm.findClass "java/lang/AbstractStringBuilder" = some m.cls := findClass_of_methodNamed Bd.named
  have hnm := (name_of_methodNamed Bd.named Bd.method).1
  have hret := Bd.returns
  have X0 : Stand p l e ({ frames := 3, cells := 0, slots := 0, locals := 69 } : Room) s m #[(.ref so), (.ref sa)] below meth c s₁ [] 0 0 := Stand.of_body Bd
  have e0 : s₁.heap = h0 := by rw [← hh, Bd.state]; rfl
  have N0 := Fr.nil n0
  have KC0 : Keep h0 h0 [so, rb] := Keep.refl _ _
  refine Go.body ?_
  obtain ⟨Pf, hPf⟩ : ∃ P, P = Fin' s below ({ frames := 3, cells := 0, slots := 0, locals := 69 } : Room).cells ({ frames := 3, cells := 0, slots := 0, locals := 69 } : Room).slots (QrmAA Z vcs vfm so sa nn rb kb vsb va ka mm vsa h0 n0) := ⟨_, rfl⟩
  rw [← hPf]
  refine Go.cast (ef_rmAA m) ?_
  have hw7 := (hw _ (List.mem_of_getElem? (i := 7) rfl))
  have hw49 := (hw _ (List.mem_of_getElem? (i := 49) rfl))
  have hw58 := (hw _ (List.mem_of_getElem? (i := 58) rfl))
  have hw63 := (hw _ (List.mem_of_getElem? (i := 63) rfl))
  have hw65 := (hw _ (List.mem_of_getElem? (i := 65) rfl))
  have hw76 := (hw _ (List.mem_of_getElem? (i := 76) rfl))
  have hw77 := (hw _ (List.mem_of_getElem? (i := 77) rfl))
  have hw78 := (hw _ (List.mem_of_getElem? (i := 78) rfl))
  have hw79 := (hw _ (List.mem_of_getElem? (i := 79) rfl))
  have hw80 := (hw _ (List.mem_of_getElem? (i := 80) rfl))
  have hw87 := (hw _ (List.mem_of_getElem? (i := 87) rfl))
  have hw88 := (hw _ (List.mem_of_getElem? (i := 88) rfl))
  have hw89 := (hw _ (List.mem_of_getElem? (i := 89) rfl))
  have hw90 := (hw _ (List.mem_of_getElem? (i := 90) rfl))
  have hw91 := (hw _ (List.mem_of_getElem? (i := 91) rfl))
  have hw92 := (hw _ (List.mem_of_getElem? (i := 92) rfl))
  have hw93 := (hw _ (List.mem_of_getElem? (i := 93) rfl))
  have hw94 := (hw _ (List.mem_of_getElem? (i := 94) rfl))
  have hw95 := (hw _ (List.mem_of_getElem? (i := 95) rfl))
  have hw96 := (hw _ (List.mem_of_getElem? (i := 96) rfl))
  have hw97 := (hw _ (List.mem_of_getElem? (i := 97) rfl))
  have hw98 := (hw _ (List.mem_of_getElem? (i := 98) rfl))
  show Go p.tables e below Pf (s₁.setTop (mkF m 0 #[vr so, vr sa, .unset] []))
  refine Go.by' (fun t k => (XS.aloadN X0.here hx rfl (hb hby d11_0) rfl rfl (XS.ifnonnullYes X0.here hx rfl (pc0 := 1) (pc' := 9) rfl (hb hby d11_1) rfl (by decide) (by decide) (XS.aloadN X0.here hx rfl (hb hby d11_9) rfl rfl k)))) ?_
  obtain ⟨cq81, kq81, q81a, q81b, q81c⟩ := isOf hZ e0 EA
  obtain ⟨_, _, ⟨T81, L81, k81, n81⟩, -, X81, ⟨Lc81, hQ81, l81, y81, z81⟩, st81⟩ := X0.virtualBack hx (y := (⟨"java/lang/String", "length", "()I"⟩ : MethodName)) (z := (⟨"java/lang/String", "length", "()I"⟩ : MethodName)) hown (mvT hZ hw76) (mvT hZ hw77) (notFace_of_selects (args := #[]) (mvT hZ hw79)) (mvT hZ hw79) (mvT hZ hw78) (by decide) (backOf (W := 0) (rmLn l Z a0 hw [] vcs vfm G sa va ka mm vsa h0 n0 O0 EA FA CA VA) hZ hw80 hw7 (by decide) (by decide)) q81a q81c (g := (mkF m 10 #[vr so, vr sa, .unset] [(.ref sa)])) rfl (by rw [hml]; rfl) (Steps.refl _) (argsL := []) (rest := []) (lenOf pd_8 rfl) rfl (by show 2 * 0 + _ ≤ _; exact Nat.le_of_eq rfl) (hb hby d11_10) (fun _ _ => ⟨rfl, e0, (by decide : 0 + 0 ≤ _), (by decide : 0 + 0 ≤ _)⟩)
  dsimp only [Pt.U, Pt.locs, Pt.cells, Pt.slots] at X81 l81 y81 z81 st81 hQ81
  subst l81 y81 z81
  obtain ⟨rfl, rfl, e81⟩ := hQ81
  try replace X81 := own_nil X81
  refine Go.by' (fun t k => st81.trans k) ?_
  show Go p.tables e below Pf (T81.setTop (mkF m 13 #[vr so, vr sa, .unset] [(.int mm)]))
  refine Go.by' (fun t k => (XS.istoreN X81.here hx rfl (hb hby d11_13) rfl (l' := #[vr so, vr sa, vi mm]) rfl (XS.aloadN X81.here hx rfl (hb hby d11_14) rfl rfl (XS.aloadN X81.here hx rfl (hb hby d11_15) rfl rfl k)))) ?_
  obtain ⟨T82, X82, e82, st82⟩ := getF X81 hx hZ hown (host := "") (Or.inl hw87) Via.refl e81 FN (g := (mkF m 16 #[vr so, vr sa, vi mm] [(.ref so), (.ref so)])) rfl rfl (hb hby d11_16)
  refine Go.by' st82 ?_
  show Go p.tables e below Pf (T82.setTop (mkF m 19 #[vr so, vr sa, vi mm] [(.int nn), (.ref so)]))
  refine Go.by' (fun t k => (XS.iloadN X82.here hx rfl (hb hby d11_19) rfl (XS.iadd X82.here hx rfl (hb hby d11_20) rfl k))) ?_
  obtain ⟨cq83, q83, q83'⟩ := EX.cell
  obtain ⟨_, _, ⟨T83, L83, k83, n83⟩, -, X83, ⟨Lc83, hQ83, l83, y83, z83⟩, st83⟩ := X82.privateBack hx (y := (⟨"java/lang/AbstractStringBuilder", "ensureCapacityInternal", "(I)V"⟩ : MethodName)) hown (mvT hZ hw89) (mvT hZ hw90) (own_selP (mvT hZ hw92) (Cond.privateMethod_at (mvP hZ hw91 (args := #[]))) (mvT hZ hw90) (by decide)) (Cond.privateMethod_at (mvP hZ hw91 (args := #[]))) (mvT hZ hw93) (by decide) (backOf (W := 0) (rmEn l Z a0 hw [] vcs vfm G so ((nn + mm)) rb kb vsb h0 n0 O0 FV FC VB hRm.2.2.2) hZ hw93 hw58 (by decide) (by decide)) (g := (mkF m 21 #[vr so, vr sa, vi mm] [(.int (nn + mm)), (.ref so)])) rfl (by rw [hml]; rfl) (Steps.refl _) (a := so) (by rw [e82]; exact q83) q83' (argsL := [(.int (nn + mm))]) (rest := []) (lenOf pd_4 rfl) rfl (by show 2 * 0 + _ ≤ _; exact Nat.le_of_eq rfl) (hb hby d11_21) (fun _ _ => ⟨rfl, e82, (by decide : 0 + 0 ≤ _), (by decide : 0 + 0 ≤ _)⟩)
  dsimp only [Pt.U, Pt.locs, Pt.cells, Pt.slots] at X83 l83 y83 z83 st83 hQ83
  subst l83 y83 z83
  obtain ⟨rfl, rfl, e83⟩ := hQ83
  try replace X83 := own_nil X83
  refine Go.by' (fun t k => st83.trans k) ?_
  show Go p.tables e below Pf (T83.setTop (mkF m 24 #[vr so, vr sa, vi mm] []))
  refine Go.by' (fun t k => (XS.aloadN X83.here hx rfl (hb hby d11_24) rfl rfl (XS.aloadN X83.here hx rfl (hb hby d11_25) rfl rfl k))) ?_
  obtain ⟨T84, X84, e84, st84⟩ := getF X83 hx hZ hown (host := "") (Or.inl hw87) Via.refl e83 FN (g := (mkF m 26 #[vr so, vr sa, vi mm] [(.ref so), (.ref so)])) rfl rfl (hb hby d11_26)
  refine Go.by' st84 ?_
  show Go p.tables e below Pf (T84.setTop (mkF m 29 #[vr so, vr sa, vi mm] [(.int nn), (.ref so)]))
  refine Go.by' (fun t k => (XS.aloadN X84.here hx rfl (hb hby d11_29) rfl rfl k)) ?_
  obtain ⟨cq85, q85, q85'⟩ := EX.cell
  obtain ⟨_, _, ⟨T85, L85, k85, n85⟩, -, X85, ⟨Lc85, hQ85, l85, y85, z85⟩, st85⟩ := X84.privateBack hx (y := (⟨"java/lang/AbstractStringBuilder", "putStringAt", "(ILjava/lang/String;)V"⟩ : MethodName)) hown (mvT hZ hw94) (mvT hZ hw95) (own_selP (mvT hZ hw97) (Cond.privateMethod_at (mvP hZ hw96 (args := #[]))) (mvT hZ hw95) (by decide)) (Cond.privateMethod_at (mvP hZ hw96 (args := #[]))) (mvT hZ hw98) (by decide) (backOf (W := 0) (rmPS l Z a0 hw [] vcs vfm G so nn sa rb kb vsb va ka mm vsa h0 n0 O0 EX FV FC EA FA CA VA VB g_rb hRm) hZ hw98 hw58 (by decide) (by decide)) (g := (mkF m 30 #[vr so, vr sa, vi mm] [(.ref sa), (.int nn), (.ref so)])) rfl (by rw [hml]; rfl) (Steps.refl _) (a := so) (by rw [e84]; exact q85) q85' (argsL := [(.int nn), (.ref sa)]) (rest := []) (lenOf pd_9 rfl) rfl (by show 2 * 0 + _ ≤ _; exact Nat.le_of_eq rfl) (hb hby d11_30) (fun _ _ => ⟨rfl, e84, (by decide : 0 + 0 ≤ _), (by decide : 0 + 0 ≤ _)⟩)
  dsimp only [Pt.U, Pt.locs, Pt.cells, Pt.slots] at X85 l85 y85 z85 st85 hQ85
  subst l85 y85 z85
  obtain ⟨vsn_85, rfl, N85q, K85, f85_0, r85_0⟩ := hQ85
  have N85 := Fr.app N0 N85q
  obtain ⟨lc85, X85, N85⟩ := own_pack X85 N85
  refine Go.by' (fun t k => st85.trans k) ?_
  have O85 := O0.keep K85 (allS g_rb all0)
  have KC85 : Keep h0 T85.heap [so, rb] := KC0.trans K85 (allS (Or.inl (List.mem_of_getElem? (i := 1) rfl)) all0)
  show Go p.tables e below Pf (T85.setTop (mkF m 33 #[vr so, vr sa, vi mm] []))
  refine Go.by' (fun t k => (XS.aloadN X85.here hx rfl (hb hby d11_33) rfl rfl (XS.dup X85.here hx rfl (hb hby d11_34) rfl rfl k))) ?_
  obtain ⟨T86, X86, e86, st86⟩ := getF X85 hx hZ hown (host := "") (Or.inl hw87) Via.refl rfl (FN.keep K85 (ninS (Exa.neArv (EX.keep K85) f85_0 hw49) nin0)) (g := (mkF m 35 #[vr so, vr sa, vi mm] [(.ref so), (.ref so)])) rfl rfl (hb hby d11_35)
  refine Go.by' st86 ?_
  show Go p.tables e below Pf (T86.setTop (mkF m 38 #[vr so, vr sa, vi mm] [(.int nn), (.ref so)]))
  refine Go.by' (fun t k => (XS.iloadN X86.here hx rfl (hb hby d11_38) rfl (XS.iadd X86.here hx rfl (hb hby d11_39) rfl k))) ?_
  obtain ⟨T87, h87, X87, e87, W87, st87⟩ := putF X86 hx hZ hown (host := "") (Or.inl hw87) Via.refl e86 (FN.keep K85 (ninS (Exa.neArv (EX.keep K85) f85_0 hw49) nin0)) (EX.keep K85) (Or.inl hw88) hw49 (ty := .int) (by decide) rfl rfl (g := (mkF m 40 #[vr so, vr sa, vi mm] [(.int (nn + mm)), (.ref so)])) rfl rfl (hb hby d11_40)
  refine Go.by' st87 ?_
  have Fw87 : Fld Z h87 so "java/lang/AbstractStringBuilder" "count" "I" (Value.int (nn + mm)) := (FN.keep K85 (ninS (Exa.neArv (EX.keep K85) f85_0 hw49) nin0)).same W87
  have N87 := Fr.snoc X87 N85 g_so
  obtain ⟨lc87, X87, N87⟩ := own_pack X87 N87
  have O87 := O85.wr W87 g_so
  have KC87 : Keep h0 h87 [so, rb] := KC85.wr W87 (Or.inl (List.mem_of_getElem? (i := 0) rfl))
  show Go p.tables e below Pf (T87.setTop (mkF m 43 #[vr so, vr sa, vi mm] []))
  refine Go.by' (fun t k => (XS.aloadN X87.here hx rfl (hb hby d11_43) rfl rfl k)) ?_
  have c88 := ((EX.keep K85).wr W87)
  have c89 := ((FV.keep K85 (ninS (Exa.neArv (EX.keep K85) f85_0 hw49) nin0)).other W87 (Or.inr (slot_ne (Or.inl hw63) (Or.inl hw88) (by decide) (t := (.array .byte)) (t' := .int) (by decide) (by decide))))
  have c90 := ((FC.keep K85 (ninS (Exa.neArv (EX.keep K85) f85_0 hw49) nin0)).other W87 (Or.inr (slot_ne (Or.inl hw65) (Or.inl hw88) (by decide) (t := .byte) (t' := .int) (by decide) (by decide))))
  show Go p.tables e below Pf (T87.setTop (mkF m 44 #[vr so, vr sa, vi mm] [(.ref so)]))
  rw [hPf]
  exact Go.retA' X87 hx hret hlk rfl rfl (hb hby d11_44) (by decide) (by decide) ⟨vsn_85, rfl, N87, (by rw [e87]; exact KC87), (by rw [e87]; exact c88), (by rw [e87]; exact c89), (by rw [e87]; exact c90), (by rw [e87]; exact Fw87), (by rw [e87]; exact (f85_0.other W87 (Ne.symm (Exa.neArv (EX.keep K85) f85_0 hw49)))), r85_0⟩
theorem d10_0 : decode jdk_67_method_7_code 0 = .ok (.aload_n 0, 1) := by decide +kernel
theorem d10_1 : decode jdk_67_method_7_code 1 = .ok (.aload_n 1, 1) := by decide +kernel
theorem d10_2 : decode jdk_67_method_7_code 2 = .ok (.invokespecial 29, 3) := by decide +kernel
theorem pd_10 : parseMethodDescriptor "(Ljava/lang/String;)Ljava/lang/AbstractStringBuilder;" = some ⟨[(.object "java/lang/String")], some (.object "java/lang/AbstractStringBuilder")⟩ := by decide +kernel
theorem d10_5 : decode jdk_67_method_7_code 5 = .ok (.pop, 1) := by decide +kernel
theorem d10_6 : decode jdk_67_method_7_code 6 = .ok (.aload_n 0, 1) := by decide +kernel
theorem d10_7 : decode jdk_67_method_7_code 7 = .ok (.areturn, 1) := by decide +kernel
theorem pn_10 : plainName "java/lang/StringBuilder" = true := by first | (simp [plainName, overriddenIn]; done) | decide +kernel
set_option maxHeartbeats 4000000 in
theorem ef_rmAp (m : MethodId) {so : Addr} {sa : Addr} : entryFrame m #[(.ref so), (.ref sa)] 2 = mkF m 0 #[vr so, vr sa] [] := by first | (simp [entryFrame, mkF, argsToLocals, Value.category]; done) | rfl
def QrmAp (Z : State) (vcs : Int32) (vfm : Value) (so : Addr) (sa : Addr) (nn : Int32) (rb : Addr) (kb : ClassId) (vsb : (List Value)) (va : Addr) (ka : ClassId) (mm : Int32) (vsa : (List Value)) (h0 : Heap) (n0 : Nat) (v : Option Value) (h : Heap) (L : List Loc) : Prop := ∃ (vsn : (List Value)), (v = some (.ref so)) ∧ (Fr n0 L) ∧ (Keep h0 h [so, rb]) ∧ (Exa Z h so "java/lang/StringBuilder") ∧ (Fld Z h so "java/lang/AbstractStringBuilder" "value" "[B" (.ref rb)) ∧ (Fld Z h so "java/lang/AbstractStringBuilder" "coder" "B" (.int (0 : Int32))) ∧ (Fld Z h so "java/lang/AbstractStringBuilder" "count" "I" (.int (nn + mm))) ∧ (Arv Z h rb kb .byte (16 : Int32) vsn (.int (0 : Int32))) ∧ (vsn = cpl vsa vsb (0 : Int32) nn mm (16 : Int32))
set_option maxRecDepth 65536 in
set_option maxHeartbeats 40000000 in
theorem rmAp (l : Launch) (Z : State) (a0 : Array Value) (hw : ∀ d ∈ tables_1, d.before a0 Z = true) (ws : List Jvm.Cond) (vcs : Int32) (vfm : Value) (G : Gh Z vcs vfm) (so : Addr) (sa : Addr) (nn : Int32) (rb : Addr) (kb : ClassId) (vsb : (List Value)) (va : Addr) (ka : ClassId) (mm : Int32) (vsa : (List Value)) (h0 : Heap) (n0 : Nat) (O0 : Old Z n0 h0) (EX : Exa Z h0 so "java/lang/StringBuilder") (FV : Fld Z h0 so "java/lang/AbstractStringBuilder" "value" "[B" (.ref rb)) (FC : Fld Z h0 so "java/lang/AbstractStringBuilder" "coder" "B" (.int (0 : Int32))) (FN : Fld Z h0 so "java/lang/AbstractStringBuilder" "count" "I" (.int nn)) (EA : Exa Z h0 sa "java/lang/String") (FA : Fld Z h0 sa "java/lang/String" "value" "[B" (.ref va)) (CA : Fld Z h0 sa "java/lang/String" "coder" "B" (.int (0 : Int32))) (VA : Arv Z h0 va ka .byte mm vsa (.int (0 : Int32))) (VB : Arv Z h0 rb kb .byte (16 : Int32) vsb (.int (0 : Int32))) (g_rb : n0 ≤ rb) (g_so : n0 ≤ so) (hRm : Rm nn mm) :
    MetFree l (⟨"java/lang/StringBuilder", "append", "(Ljava/lang/String;)Ljava/lang/StringBuilder;"⟩ : MethodName) (head1 (Jvm.Cond.code (⟨"java/lang/StringBuilder", "append", "(Ljava/lang/String;)Ljava/lang/StringBuilder;"⟩ : MethodName) jdk_67_method_7_code 2 (some (.object "java/lang/StringBuilder")) :: ws) ({ frames := 4, cells := 0, slots := 0, locals := 83 } : Room)) (fun aa' UU' => aa' = #[(.ref so), (.ref sa)] ∧ Z.Warmed39 UU'.vm ∧ UU'.heap = h0) (fun _ _ _ _ _ => True) (fun _ UU' oo' VV' => ∃ v' L', oo' = .returned v' ∧ QrmAp Z vcs vfm so sa nn rb kb vsb va ka mm vsa h0 n0 v' VV'.heap L' ∧ FrameEnd UU' oo' VV' L' ({ frames := 4, cells := 0, slots := 0, locals := 83 } : Room).cells ({ frames := 4, cells := 0, slots := 0, locals := 83 } : Room).slots) := by
  refine MetFree.of_bodySF (plainFor_of_name pn_10) hisR ?_
  intro p e s m args below meth c s₁ Bd hml0 hP hK
  obtain ⟨rfl, hZ, hh⟩ := hP
  have hx := Bd.exec
  have hby := Bd.bytes
  have hlk := Bd.notSynchronized
  have hml : c.maxLocals = 2 := hml0
  have hown : s.vm.findClass "java/lang/StringBuilder" = some m.cls := findClass_of_methodNamed Bd.named
  have hnm := (name_of_methodNamed Bd.named Bd.method).1
  have hret := Bd.returns
  have X0 : Stand p l e ({ frames := 4, cells := 0, slots := 0, locals := 83 } : Room) s m #[(.ref so), (.ref sa)] below meth c s₁ [] 0 0 := Stand.of_body Bd
  have e0 : s₁.heap = h0 := by rw [← hh, Bd.state]; rfl
  have N0 := Fr.nil n0
  have KC0 : Keep h0 h0 [so, rb] := Keep.refl _ _
  refine Go.body ?_
  obtain ⟨Pf, hPf⟩ : ∃ P, P = Fin' s below ({ frames := 4, cells := 0, slots := 0, locals := 83 } : Room).cells ({ frames := 4, cells := 0, slots := 0, locals := 83 } : Room).slots (QrmAp Z vcs vfm so sa nn rb kb vsb va ka mm vsa h0 n0) := ⟨_, rfl⟩
  rw [← hPf]
  refine Go.cast (ef_rmAp m) ?_
  have hw58 := (hw _ (List.mem_of_getElem? (i := 58) rfl))
  have hw71 := (hw _ (List.mem_of_getElem? (i := 71) rfl))
  have hw72 := (hw _ (List.mem_of_getElem? (i := 72) rfl))
  have hw73 := (hw _ (List.mem_of_getElem? (i := 73) rfl))
  have hw74 := (hw _ (List.mem_of_getElem? (i := 74) rfl))
  have hw75 := (hw _ (List.mem_of_getElem? (i := 75) rfl))
  have hw92 := (hw _ (List.mem_of_getElem? (i := 92) rfl))
  show Go p.tables e below Pf (s₁.setTop (mkF m 0 #[vr so, vr sa] []))
  refine Go.by' (fun t k => (XS.aloadN X0.here hx rfl (hb hby d10_0) rfl rfl (XS.aloadN X0.here hx rfl (hb hby d10_1) rfl rfl k))) ?_
  obtain ⟨_, _, ⟨T91, L91, k91, n91⟩, -, X91, ⟨Lc91, hQ91, l91, y91, z91⟩, st91⟩ := superBack X0 hx hZ (y := (⟨"java/lang/AbstractStringBuilder", "append", "(Ljava/lang/String;)Ljava/lang/AbstractStringBuilder;"⟩ : MethodName)) hown hw71 (own_same hw74 (own_nf hw92 rfl) (by decide)) hw72 hw73 (by decide) (backOf (W := 0) (rmAA l Z a0 hw [] vcs vfm G so sa nn rb kb vsb va ka mm vsa h0 n0 O0 EX FV FC FN EA FA CA VA VB g_rb g_so hRm) hZ hw75 hw58 (by decide) (by decide)) e0 (a := so) (Ins.self EX) (g := (mkF m 2 #[vr so, vr sa] [(.ref sa), (.ref so)])) rfl (by rw [hml]; rfl) hw75 (argsL := [(.ref sa)]) (rest := []) (lenOf pd_10 rfl) rfl (by show 2 * 0 + _ ≤ _; exact Nat.le_of_eq rfl) (hb hby d10_2) (fun _ _ => ⟨rfl, e0, (by decide : 0 + 0 ≤ _), (by decide : 0 + 0 ≤ _)⟩)
  dsimp only [Pt.U, Pt.locs, Pt.cells, Pt.slots] at X91 l91 y91 z91 st91 hQ91
  subst l91 y91 z91
  obtain ⟨vsn_91, rfl, N91q, K91, f91_0, f91_1, f91_2, f91_3, f91_4, r91_0⟩ := hQ91
  have N91 := Fr.app N0 N91q
  obtain ⟨lc91, X91, N91⟩ := own_pack X91 N91
  refine Go.by' (fun t k => st91.trans k) ?_
  have O91 := O0.keep K91 (allS g_so (allS g_rb all0))
  have KC91 : Keep h0 T91.heap [so, rb] := KC0.trans K91 (allS (Or.inl (List.mem_of_getElem? (i := 0) rfl)) (allS (Or.inl (List.mem_of_getElem? (i := 1) rfl)) all0))
  show Go p.tables e below Pf (T91.setTop (mkF m 5 #[vr so, vr sa] [(.ref so)]))
  refine Go.by' (fun t k => (XS.pop X91.here hx rfl (hb hby d10_5) rfl rfl (XS.aloadN X91.here hx rfl (hb hby d10_6) rfl rfl k))) ?_
  show Go p.tables e below Pf (T91.setTop (mkF m 7 #[vr so, vr sa] [(.ref so)]))
  rw [hPf]
  exact Go.retA' X91 hx hret hlk rfl rfl (hb hby d10_7) (by decide) (by decide) ⟨vsn_91, rfl, N91, KC91, f91_0, f91_1, f91_2, f91_3, f91_4, r91_0⟩
theorem d27_0 : decode jdk_65_method_131_code 0 = .ok (.iload_n 1, 1) := by decide +kernel
theorem d27_1 : decode jdk_65_method_131_code 1 = .ok (.iload_n 0, 1) := by decide +kernel
theorem d27_2 : decode jdk_65_method_131_code 2 = .ok (.if_icmp .ge 35, 3) := by decide +kernel
theorem d27_37 : decode jdk_65_method_131_code 37 = .ok (.return_, 1) := by decide +kernel
theorem pn_27 : plainName "java/util/Arrays" = true := by first | (simp [plainName, overriddenIn]; done) | decide +kernel
set_option maxHeartbeats 4000000 in
theorem ef_rmCk (m : MethodId) {cc : Int32} : entryFrame m #[(.int (0 : Int32)), (.int cc)] 2 = mkF m 0 #[vi (0 : Int32), vi cc] [] := by first | (simp [entryFrame, mkF, argsToLocals, Value.category]; done) | rfl
def QrmCk (Z : State) (vcs : Int32) (vfm : Value) (cc : Int32) (h0 : Heap) (n0 : Nat) (v : Option Value) (h : Heap) (L : List Loc) : Prop := (v = none) ∧ (L = []) ∧ (h = h0)
set_option maxRecDepth 65536 in
set_option maxHeartbeats 40000000 in
theorem rmCk (l : Launch) (Z : State) (a0 : Array Value) (hw : ∀ d ∈ tables_1, d.before a0 Z = true) (ws : List Jvm.Cond) (vcs : Int32) (vfm : Value) (G : Gh Z vcs vfm) (cc : Int32) (h0 : Heap) (n0 : Nat) (O0 : Old Z n0 h0) (hc0 : ¬ (cc < (0 : Int32))) :
    MetFree l (⟨"java/util/Arrays", "checkLength", "(II)V"⟩ : MethodName) (head1 (Jvm.Cond.code (⟨"java/util/Arrays", "checkLength", "(II)V"⟩ : MethodName) jdk_65_method_131_code 2 none :: ws) ({ frames := 0, cells := 0, slots := 0, locals := 0 } : Room)) (fun aa' UU' => aa' = #[(.int (0 : Int32)), (.int cc)] ∧ Z.Warmed39 UU'.vm ∧ UU'.heap = h0) (fun _ _ _ _ _ => True) (fun _ UU' oo' VV' => ∃ v' L', oo' = .returned v' ∧ QrmCk Z vcs vfm cc h0 n0 v' VV'.heap L' ∧ FrameEnd UU' oo' VV' L' ({ frames := 0, cells := 0, slots := 0, locals := 0 } : Room).cells ({ frames := 0, cells := 0, slots := 0, locals := 0 } : Room).slots) := by
  refine MetFree.of_bodySF (plainFor_of_name pn_27) hisR ?_
  intro p e s m args below meth c s₁ Bd hml0 hP hK
  obtain ⟨rfl, hZ, hh⟩ := hP
  have hx := Bd.exec
  have hby := Bd.bytes
  have hlk := Bd.notSynchronized
  have hml : c.maxLocals = 2 := hml0
  have hown : s.vm.findClass "java/util/Arrays" = some m.cls := findClass_of_methodNamed Bd.named
  have hnm := (name_of_methodNamed Bd.named Bd.method).1
  have hret := Bd.returns
  have X0 : Stand p l e ({ frames := 0, cells := 0, slots := 0, locals := 0 } : Room) s m #[(.int (0 : Int32)), (.int cc)] below meth c s₁ [] 0 0 := Stand.of_body Bd
  have e0 : s₁.heap = h0 := by rw [← hh, Bd.state]; rfl
  have N0 := Fr.nil n0
  refine Go.body ?_
  obtain ⟨Pf, hPf⟩ : ∃ P, P = Fin' s below ({ frames := 0, cells := 0, slots := 0, locals := 0 } : Room).cells ({ frames := 0, cells := 0, slots := 0, locals := 0 } : Room).slots (QrmCk Z vcs vfm cc h0 n0) := ⟨_, rfl⟩
  rw [← hPf]
  refine Go.cast (ef_rmCk m) ?_
  show Go p.tables e below Pf (s₁.setTop (mkF m 0 #[vi (0 : Int32), vi cc] []))
  refine Go.by' (fun t k => (XS.iloadN X0.here hx rfl (hb hby d27_0) rfl (XS.iloadN X0.here hx rfl (hb hby d27_1) rfl (XS.icmpYes X0.here hx rfl (pc0 := 2) (pc' := 37) rfl (hb hby d27_2) rfl (flt hc0).2.1 (by decide) (by decide) k)))) ?_
  show Go p.tables e below Pf (s₁.setTop (mkF m 37 #[vi (0 : Int32), vi cc] []))
  rw [hPf]
  exact Go.retV' X0 hx hret hlk (hb hby d27_37) (by decide) (by decide) ⟨rfl, rfl, e0⟩
theorem d28_0 : decode jdk_29_method_69_code 0 = .ok (.iload_n 0, 1) := by decide +kernel
theorem d28_1 : decode jdk_29_method_69_code 1 = .ok (.iload_n 1, 1) := by decide +kernel
theorem d28_2 : decode jdk_29_method_69_code 2 = .ok (.if_icmp .gt 7, 3) := by decide +kernel
theorem d28_9 : decode jdk_29_method_69_code 9 = .ok (.iload_n 1, 1) := by decide +kernel
theorem d28_10 : decode jdk_29_method_69_code 10 = .ok (.ireturn, 1) := by decide +kernel
set_option maxHeartbeats 4000000 in
theorem ef_rmMi (m : MethodId) {cc : Int32} : entryFrame m #[(.int (16 : Int32)), (.int cc)] 2 = mkF m 0 #[vi (16 : Int32), vi cc] [] := by first | (simp [entryFrame, mkF, argsToLocals, Value.category]; done) | rfl
def QrmMi (Z : State) (vcs : Int32) (vfm : Value) (cc : Int32) (h0 : Heap) (n0 : Nat) (v : Option Value) (h : Heap) (L : List Loc) : Prop := (v = some (.int cc)) ∧ (L = []) ∧ (h = h0)
set_option maxRecDepth 65536 in
set_option maxHeartbeats 40000000 in
theorem rmMi (l : Launch) (Z : State) (a0 : Array Value) (hw : ∀ d ∈ tables_1, d.before a0 Z = true) (ws : List Jvm.Cond) (vcs : Int32) (vfm : Value) (G : Gh Z vcs vfm) (cc : Int32) (h0 : Heap) (n0 : Nat) (O0 : Old Z n0 h0) (hc1 : cc < (16 : Int32)) :
    MetFree l (⟨"java/lang/Math", "min", "(II)I"⟩ : MethodName) (head1 (Jvm.Cond.code (⟨"java/lang/Math", "min", "(II)I"⟩ : MethodName) jdk_29_method_69_code 2 (some .int) :: ws) ({ frames := 0, cells := 0, slots := 0, locals := 0 } : Room)) (fun aa' UU' => aa' = #[(.int (16 : Int32)), (.int cc)] ∧ Z.Warmed39 UU'.vm ∧ UU'.heap = h0) (fun _ _ _ _ _ => True) (fun _ UU' oo' VV' => ∃ v' L', oo' = .returned v' ∧ QrmMi Z vcs vfm cc h0 n0 v' VV'.heap L' ∧ FrameEnd UU' oo' VV' L' ({ frames := 0, cells := 0, slots := 0, locals := 0 } : Room).cells ({ frames := 0, cells := 0, slots := 0, locals := 0 } : Room).slots) := by
  refine MetFree.of_bodySF (Jvm.Free.JP.mathPlain rfl (by decide +kernel)) hisR ?_
  intro p e s m args below meth c s₁ Bd hml0 hP hK
  obtain ⟨rfl, hZ, hh⟩ := hP
  have hx := Bd.exec
  have hby := Bd.bytes
  have hlk := Bd.notSynchronized
  have hml : c.maxLocals = 2 := hml0
  have hown : s.vm.findClass "java/lang/Math" = some m.cls := findClass_of_methodNamed Bd.named
  have hnm := (name_of_methodNamed Bd.named Bd.method).1
  have hret := Bd.returns
  have X0 : Stand p l e ({ frames := 0, cells := 0, slots := 0, locals := 0 } : Room) s m #[(.int (16 : Int32)), (.int cc)] below meth c s₁ [] 0 0 := Stand.of_body Bd
  have e0 : s₁.heap = h0 := by rw [← hh, Bd.state]; rfl
  have N0 := Fr.nil n0
  refine Go.body ?_
  obtain ⟨Pf, hPf⟩ : ∃ P, P = Fin' s below ({ frames := 0, cells := 0, slots := 0, locals := 0 } : Room).cells ({ frames := 0, cells := 0, slots := 0, locals := 0 } : Room).slots (QrmMi Z vcs vfm cc h0 n0) := ⟨_, rfl⟩
  rw [← hPf]
  refine Go.cast (ef_rmMi m) ?_
  show Go p.tables e below Pf (s₁.setTop (mkF m 0 #[vi (16 : Int32), vi cc] []))
  refine Go.by' (fun t k => (XS.iloadN X0.here hx rfl (hb hby d28_0) rfl (XS.iloadN X0.here hx rfl (hb hby d28_1) rfl (XS.icmpYes X0.here hx rfl (pc0 := 2) (pc' := 9) rfl (hb hby d28_2) rfl (tlt hc1).2.2.1 (by decide) (by decide) (XS.iloadN X0.here hx rfl (hb hby d28_9) rfl k))))) ?_
  show Go p.tables e below Pf (s₁.setTop (mkF m 10 #[vi (16 : Int32), vi cc] [(.int cc)]))
  rw [hPf]
  exact Go.retI' X0 hx hret hlk (by simp) rfl (hb hby d28_10) (by decide) (by decide) ⟨rfl, rfl, e0⟩
theorem own_cap {cc : Int32} (h0 : ¬ cc < (0 : Int32)) (h1 : cc < (16 : Int32)) : cc.toNatClampNeg ≤ 16 := by
  rw [Int32.lt_iff_toInt_lt] at h0 h1
  have z0 : (0 : Int32).toInt = 0 := rfl
  have z1 : (16 : Int32).toInt = 16 := rfl
  have i : cc.toNatClampNeg = cc.toInt.toNat := rfl
  omega
theorem own_c16 {cc : Int32} (h1 : cc < (16 : Int32)) : (0 : Int32).toInt + cc.toInt ≤ (16 : Int32).toInt := by
  rw [Int32.lt_iff_toInt_lt] at h1
  have z0 : (0 : Int32).toInt = 0 := rfl
  have z1 : (16 : Int32).toInt = 16 := rfl
  omega
theorem d26_0 : decode jdk_65_method_133_code 0 = .ok (.iload_n 1, 1) := by decide +kernel
theorem d26_1 : decode jdk_65_method_133_code 1 = .ok (.iload_n 2, 1) := by decide +kernel
theorem d26_2 : decode jdk_65_method_133_code 2 = .ok (.invokestatic 343, 3) := by decide +kernel
theorem pd_11 : parseMethodDescriptor "(II)V" = some ⟨[.int, .int], none⟩ := by decide +kernel
theorem d26_5 : decode jdk_65_method_133_code 5 = .ok (.iload_n 2, 1) := by decide +kernel
theorem d26_6 : decode jdk_65_method_133_code 6 = .ok (.iload_n 1, 1) := by decide +kernel
theorem d26_7 : decode jdk_65_method_133_code 7 = .ok (.isub, 1) := by decide +kernel
theorem d26_8 : decode jdk_65_method_133_code 8 = .ok (.istore_n 3, 1) := by decide +kernel
theorem d26_9 : decode jdk_65_method_133_code 9 = .ok (.iload_n 3, 1) := by decide +kernel
theorem d26_10 : decode jdk_65_method_133_code 10 = .ok (.newarray .byte, 2) := by decide +kernel
theorem d26_12 : decode jdk_65_method_133_code 12 = .ok (.astore 4, 2) := by decide +kernel
theorem d26_14 : decode jdk_65_method_133_code 14 = .ok (.aload_n 0, 1) := by decide +kernel
theorem d26_15 : decode jdk_65_method_133_code 15 = .ok (.iload_n 1, 1) := by decide +kernel
theorem d26_16 : decode jdk_65_method_133_code 16 = .ok (.aload 4, 2) := by decide +kernel
theorem d26_18 : decode jdk_65_method_133_code 18 = .ok (.iconst 0, 1) := by decide +kernel
theorem d26_19 : decode jdk_65_method_133_code 19 = .ok (.aload_n 0, 1) := by decide +kernel
theorem d26_20 : decode jdk_65_method_133_code 20 = .ok (.arraylength, 1) := by decide +kernel
theorem d26_21 : decode jdk_65_method_133_code 21 = .ok (.iload_n 1, 1) := by decide +kernel
theorem d26_22 : decode jdk_65_method_133_code 22 = .ok (.isub, 1) := by decide +kernel
theorem d26_23 : decode jdk_65_method_133_code 23 = .ok (.iload_n 3, 1) := by decide +kernel
theorem d26_24 : decode jdk_65_method_133_code 24 = .ok (.invokestatic 304, 3) := by decide +kernel
theorem pd_12 : parseMethodDescriptor "(II)I" = some ⟨[.int, .int], some .int⟩ := by decide +kernel
theorem d26_27 : decode jdk_65_method_133_code 27 = .ok (.invokestatic 150, 3) := by decide +kernel
theorem d26_30 : decode jdk_65_method_133_code 30 = .ok (.aload 4, 2) := by decide +kernel
theorem d26_32 : decode jdk_65_method_133_code 32 = .ok (.areturn, 1) := by decide +kernel
theorem pn_26 : plainName "java/util/Arrays" = true := by first | (simp [plainName, overriddenIn]; done) | decide +kernel
set_option maxHeartbeats 4000000 in
theorem ef_rmRB (m : MethodId) {ba : Addr} {cc : Int32} : entryFrame m #[(.ref ba), (.int (0 : Int32)), (.int cc)] 5 = mkF m 0 #[vr ba, vi (0 : Int32), vi cc, .unset, .unset] [] := by first | (simp [entryFrame, mkF, argsToLocals, Value.category]; done) | rfl
def QrmRB (Z : State) (vcs : Int32) (vfm : Value) (ba : Addr) (cc : Int32) (ka : ClassId) (vsa : (List Value)) (h0 : Heap) (n0 : Nat) (v : Option Value) (h : Heap) (L : List Loc) : Prop := ∃ (rb : Addr) (kb : ClassId) (vsn : (List Value)), (v = some (.ref rb)) ∧ (Fr n0 L) ∧ (Keep h0 h []) ∧ (Arv Z h rb kb .byte cc vsn (.int (0 : Int32))) ∧ (h0.size ≤ rb) ∧ (vsn = cpl vsa [] (0 : Int32) (0 : Int32) cc cc)
set_option maxRecDepth 65536 in
set_option maxHeartbeats 40000000 in
theorem rmRB (l : Launch) (Z : State) (a0 : Array Value) (hw : ∀ d ∈ tables_1, d.before a0 Z = true) (ws : List Jvm.Cond) (vcs : Int32) (vfm : Value) (G : Gh Z vcs vfm) (ba : Addr) (cc : Int32) (ka : ClassId) (vsa : (List Value)) (h0 : Heap) (n0 : Nat) (O0 : Old Z n0 h0) (VA : Arv Z h0 ba ka .byte (16 : Int32) vsa (.int (0 : Int32))) (hc0 : ¬ (cc < (0 : Int32))) (hc1 : cc < (16 : Int32)) (hc2 : ¬ (cc = (16 : Int32))) :
    MetFree l (⟨"java/util/Arrays", "copyOfRangeByte", "([BII)[B"⟩ : MethodName) (head1 (Jvm.Cond.code (⟨"java/util/Arrays", "copyOfRangeByte", "([BII)[B"⟩ : MethodName) jdk_65_method_133_code 5 (some (.array .byte)) :: ws) ({ frames := 1, cells := 1, slots := 16, locals := 40 } : Room)) (fun aa' UU' => aa' = #[(.ref ba), (.int (0 : Int32)), (.int cc)] ∧ Z.Warmed39 UU'.vm ∧ UU'.heap = h0) (fun _ _ _ _ _ => True) (fun _ UU' oo' VV' => ∃ v' L', oo' = .returned v' ∧ QrmRB Z vcs vfm ba cc ka vsa h0 n0 v' VV'.heap L' ∧ FrameEnd UU' oo' VV' L' ({ frames := 1, cells := 1, slots := 16, locals := 40 } : Room).cells ({ frames := 1, cells := 1, slots := 16, locals := 40 } : Room).slots) := by
  refine MetFree.of_bodySF (plainFor_of_name pn_26) hisR ?_
  intro p e s m args below meth c s₁ Bd hml0 hP hK
  obtain ⟨rfl, hZ, hh⟩ := hP
  have hx := Bd.exec
  have hby := Bd.bytes
  have hlk := Bd.notSynchronized
  have hml : c.maxLocals = 5 := hml0
  have hown : s.vm.findClass "java/util/Arrays" = some m.cls := findClass_of_methodNamed Bd.named
  have hnm := (name_of_methodNamed Bd.named Bd.method).1
  have hret := Bd.returns
  have X0 : Stand p l e ({ frames := 1, cells := 1, slots := 16, locals := 40 } : Room) s m #[(.ref ba), (.int (0 : Int32)), (.int cc)] below meth c s₁ [] 0 0 := Stand.of_body Bd
  have e0 : s₁.heap = h0 := by rw [← hh, Bd.state]; rfl
  have N0 := Fr.nil n0
  have KC0 : Keep h0 h0 [] := Keep.refl _ _
  refine Go.body ?_
  obtain ⟨Pf, hPf⟩ : ∃ P, P = Fin' s below ({ frames := 1, cells := 1, slots := 16, locals := 40 } : Room).cells ({ frames := 1, cells := 1, slots := 16, locals := 40 } : Room).slots (QrmRB Z vcs vfm ba cc ka vsa h0 n0) := ⟨_, rfl⟩
  rw [← hPf]
  refine Go.cast (ef_rmRB m) ?_
  have hw20 := (hw _ (List.mem_of_getElem? (i := 20) rfl))
  have hw111 := (hw _ (List.mem_of_getElem? (i := 111) rfl))
  have hw112 := (hw _ (List.mem_of_getElem? (i := 112) rfl))
  have hw113 := (hw _ (List.mem_of_getElem? (i := 113) rfl))
  have hw147 := (hw _ (List.mem_of_getElem? (i := 147) rfl))
  have hw152 := (hw _ (List.mem_of_getElem? (i := 152) rfl))
  have hw153 := (hw _ (List.mem_of_getElem? (i := 153) rfl))
  have hw154 := (hw _ (List.mem_of_getElem? (i := 154) rfl))
  have hw155 := (hw _ (List.mem_of_getElem? (i := 155) rfl))
  have hw156 := (hw _ (List.mem_of_getElem? (i := 156) rfl))
  have hw157 := (hw _ (List.mem_of_getElem? (i := 157) rfl))
  have hw158 := (hw _ (List.mem_of_getElem? (i := 158) rfl))
  have hw159 := (hw _ (List.mem_of_getElem? (i := 159) rfl))
  show Go p.tables e below Pf (s₁.setTop (mkF m 0 #[vr ba, vi (0 : Int32), vi cc, .unset, .unset] []))
  refine Go.by' (fun t k => (XS.iloadN X0.here hx rfl (hb hby d26_0) rfl (XS.iloadN X0.here hx rfl (hb hby d26_1) rfl k))) ?_
  obtain ⟨_, _, ⟨T92, L92, k92, n92⟩, -, X92, ⟨Lc92, hQ92, l92, y92, z92⟩, st92⟩ := Jvm.LawKit.callS X0 hx (y := (⟨"java/util/Arrays", "checkLength", "(II)V"⟩ : MethodName)) hown (mvT hZ hw152) (mvT hZ hw153) (mvT hZ hw147) (mvT hZ hw154) (by decide) (backOf (W := 0) (rmCk l Z a0 hw [] vcs vfm G cc h0 n0 O0 hc0) hZ hw154 hw147 (by decide) (by decide)) (g := (mkF m 2 #[vr ba, vi (0 : Int32), vi cc, .unset, .unset] [(.int cc), (.int (0 : Int32))])) rfl (by rw [hml]; rfl) (argsL := [(.int (0 : Int32)), (.int cc)]) (rest := []) (lenOf pd_11 rfl) rfl (by show 2 * 0 + _ ≤ _; exact Nat.le_of_eq rfl) (hb hby d26_2) (fun _ _ => ⟨rfl, e0, (by decide : 0 + 0 ≤ _), (by decide : 0 + 0 ≤ _)⟩)
  dsimp only [Pt.U, Pt.locs, Pt.cells, Pt.slots] at X92 l92 y92 z92 st92 hQ92
  subst l92 y92 z92
  obtain ⟨rfl, rfl, e92⟩ := hQ92
  try replace X92 := own_nil X92
  refine Go.by' st92 ?_
  show Go p.tables e below Pf (T92.setTop (mkF m 5 #[vr ba, vi (0 : Int32), vi cc, .unset, .unset] []))
  refine Go.by' (fun t k => (XS.iloadN X92.here hx rfl (hb hby d26_5) rfl (XS.iloadN X92.here hx rfl (hb hby d26_6) rfl (XS.isub X92.here hx rfl (hb hby d26_7) rfl k)))) ?_
  show Go p.tables e below Pf (T92.setTop (mkF m 8 #[vr ba, vi (0 : Int32), vi cc, .unset, .unset] [(.int (cc - (0 : Int32)))]))
  refine Go.castF (a := (cc - (0 : Int32))) (b := cc) (fun z' : Int32 => mkF m 8 #[vr ba, vi (0 : Int32), vi cc, .unset, .unset] [(.int z')]) (own_sub0 _) ?_
  show Go p.tables e below Pf (T92.setTop (mkF m 8 #[vr ba, vi (0 : Int32), vi cc, .unset, .unset] [(.int cc)]))
  refine Go.by' (fun t k => (XS.istoreN X92.here hx rfl (hb hby d26_8) rfl (l' := #[vr ba, vi (0 : Int32), vi cc, vi cc, .unset]) rfl (XS.iloadN X92.here hx rfl (hb hby d26_9) rfl k))) ?_
  obtain ⟨T93, h93, k93, X93, e93, E93, A93, st93⟩ := newP (aty := .byte) X92 hx hZ hw20 e92 (g := (mkF m 10 #[vr ba, vi (0 : Int32), vi cc, vi cc, .unset] [(.int cc)])) rfl (hb hby d26_10) rfl hc0 (cap := 16) (own_cap hc0 hc1) (by decide) (by decide) (by decide)
  obtain ⟨b93, g93⟩ : ∃ z, z = h0.size := ⟨_, rfl⟩
  rw [← g93] at A93 st93
  refine Go.by' st93 ?_
  have g_b93 : n0 ≤ b93 := Nat.le_trans (own_le O0) (Nat.le_of_eq g93.symm)
  have sz_b93 : h0.size ≤ b93 := Nat.le_trans KC0.1 (Nat.le_of_eq g93.symm)
  have O93 := O0.ext E93
  have KC93 : Keep h0 h93 [] := KC0.ext E93
  have V93 : Arv Z h93 b93 k93 .byte cc [] (Value.int (0 : Int32)) := Arv.new A93 hc0
  show Go p.tables e below Pf (T93.setTop (mkF m 12 #[vr ba, vi (0 : Int32), vi cc, vi cc, .unset] [(.ref b93)]))
  refine Go.by' (fun t k => (XS.astore X93.here hx rfl (hb hby d26_12) rfl rfl (l' := #[vr ba, vi (0 : Int32), vi cc, vi cc, vr b93]) rfl (XS.aloadN X93.here hx rfl (hb hby d26_14) rfl rfl (XS.iloadN X93.here hx rfl (hb hby d26_15) rfl (XS.aload X93.here hx rfl (hb hby d26_16) rfl rfl (XS.iconst X93.here hx rfl (hb hby d26_18) (XS.aloadN X93.here hx rfl (hb hby d26_19) rfl rfl k))))))) ?_
  obtain ⟨cl94, Ar94, -, S94, P94, -, -⟩ := (id (VA.ext E93))
  show Go p.tables e below Pf (T93.setTop (mkF m 20 #[vr ba, vi (0 : Int32), vi cc, vi cc, vr b93] [(.ref ba), (.int (0 : Int32)), (.ref b93), (.int (0 : Int32)), (.ref ba)]))
  refine Go.by' (fun t k => (X93.arraylength hx (by rw [e93]; exact Ar94.1) (State.isArrayOf_alike hZ.alike Ar94.2.1) (g := (mkF m 20 #[vr ba, vi (0 : Int32), vi cc, vi cc, vr b93] [(.ref ba), (.int (0 : Int32)), (.ref b93), (.int (0 : Int32)), (.ref ba)])) rfl rfl (hb hby d26_20) t k)) ?_
  rw [len_of S94 P94]
  show Go p.tables e below Pf (T93.setTop (mkF m 21 #[vr ba, vi (0 : Int32), vi cc, vi cc, vr b93] [(.int (16 : Int32)), (.int (0 : Int32)), (.ref b93), (.int (0 : Int32)), (.ref ba)]))
  refine Go.by' (fun t k => (XS.iloadN X93.here hx rfl (hb hby d26_21) rfl (XS.isub X93.here hx rfl (hb hby d26_22) rfl k))) ?_
  show Go p.tables e below Pf (T93.setTop (mkF m 23 #[vr ba, vi (0 : Int32), vi cc, vi cc, vr b93] [(.int ((16 : Int32) - (0 : Int32))), (.int (0 : Int32)), (.ref b93), (.int (0 : Int32)), (.ref ba)]))
  refine Go.castF (a := ((16 : Int32) - (0 : Int32))) (b := (16 : Int32)) (fun z' : Int32 => mkF m 23 #[vr ba, vi (0 : Int32), vi cc, vi cc, vr b93] [(.int z'), (.int (0 : Int32)), (.ref b93), (.int (0 : Int32)), (.ref ba)]) (by decide) ?_
  show Go p.tables e below Pf (T93.setTop (mkF m 23 #[vr ba, vi (0 : Int32), vi cc, vi cc, vr b93] [(.int (16 : Int32)), (.int (0 : Int32)), (.ref b93), (.int (0 : Int32)), (.ref ba)]))
  refine Go.by' (fun t k => (XS.iloadN X93.here hx rfl (hb hby d26_23) rfl k)) ?_
  obtain ⟨_, _, ⟨T95, L95, k95, n95⟩, -, X95, ⟨Lc95, hQ95, l95, y95, z95⟩, st95⟩ := Jvm.LawKit.callS X93 hx (y := (⟨"java/lang/Math", "min", "(II)I"⟩ : MethodName)) hown (mvT hZ hw155) (mvT hZ hw156) (mvT hZ hw157) (mvT hZ hw158) (by decide) (backOf (W := 4) (rmMi l Z a0 hw [] vcs vfm G cc h93 n0 O93 hc1) hZ hw158 hw157 (by decide) (by decide)) (g := (mkF m 24 #[vr ba, vi (0 : Int32), vi cc, vi cc, vr b93] [(.int cc), (.int (16 : Int32)), (.int (0 : Int32)), (.ref b93), (.int (0 : Int32)), (.ref ba)])) rfl (by rw [hml]; rfl) (argsL := [(.int (16 : Int32)), (.int cc)]) (rest := [(.int (0 : Int32)), (.ref b93), (.int (0 : Int32)), (.ref ba)]) (lenOf pd_12 rfl) rfl (by show 2 * 0 + _ ≤ _; exact Nat.le_of_eq rfl) (hb hby d26_24) (fun _ _ => ⟨rfl, e93, (by decide : 1 + 0 ≤ _), (by decide : 16 + 0 ≤ _)⟩)
  dsimp only [Pt.U, Pt.locs, Pt.cells, Pt.slots] at X95 l95 y95 z95 st95 hQ95
  subst l95 y95 z95
  obtain ⟨rfl, rfl, e95⟩ := hQ95
  try replace X95 := own_nil X95
  refine Go.by' st95 ?_
  obtain ⟨T96, h96, Lc96, vc96, X96, e96, K96, V96, Rc96, By96, st96⟩ := own_acopyG X95 hx hZ hown (own_acw (mvT hZ hw159) (mvT hZ hw113) (mvT hZ hw111) (mvT hZ hw112)) e95 rfl (VA.ext E93) V93 (by decide) (by decide) hc0 (own_c16 hc1) (Int.le_of_eq (Int.zero_add _)) (g := (mkF m 27 #[vr ba, vi (0 : Int32), vi cc, vi cc, vr b93] [(.int cc), (.int (0 : Int32)), (.ref b93), (.int (0 : Int32)), (.ref ba)])) rfl (by rw [hml]; rfl) rfl (hb hby d26_27) (W := 0) (by show 2 * 0 + _ ≤ _; exact Nat.le_of_eq rfl) (by decide) (by decide)
  refine Go.by' st96 ?_
  have N96 := Fr.app N0 (fun y hy => by rw [By96 y hy]; exact g_b93 : Fr n0 Lc96)
  obtain ⟨lc96, X96, N96⟩ := own_pack X96 N96
  have O96 := O93.keep K96 (allS g_b93 all0)
  have KC96 : Keep h0 h96 [] := KC93.trans K96 (allS (Or.inr sz_b93) all0)
  show Go p.tables e below Pf (T96.setTop (mkF m 30 #[vr ba, vi (0 : Int32), vi cc, vi cc, vr b93] []))
  refine Go.by' (fun t k => (XS.aload X96.here hx rfl (hb hby d26_30) rfl rfl k)) ?_
  show Go p.tables e below Pf (T96.setTop (mkF m 32 #[vr ba, vi (0 : Int32), vi cc, vi cc, vr b93] [(.ref b93)]))
  rw [hPf]
  exact Go.retA' X96 hx hret hlk rfl rfl (hb hby d26_32) (by decide) (by decide) ⟨b93, k93, vc96, rfl, N96, (by rw [e96]; exact KC96), (by rw [e96]; exact V96), sz_b93, Rc96⟩
theorem d25_0 : decode jdk_65_method_132_code 0 = .ok (.iload_n 1, 1) := by decide +kernel
theorem d25_1 : decode jdk_65_method_132_code 1 = .ok (.ifCond .ne 9, 3) := by decide +kernel
theorem d25_4 : decode jdk_65_method_132_code 4 = .ok (.iload_n 2, 1) := by decide +kernel
theorem d25_5 : decode jdk_65_method_132_code 5 = .ok (.aload_n 0, 1) := by decide +kernel
theorem d25_6 : decode jdk_65_method_132_code 6 = .ok (.arraylength, 1) := by decide +kernel
theorem d25_7 : decode jdk_65_method_132_code 7 = .ok (.if_icmp .eq 10, 3) := by decide +kernel
theorem d25_10 : decode jdk_65_method_132_code 10 = .ok (.aload_n 0, 1) := by decide +kernel
theorem d25_11 : decode jdk_65_method_132_code 11 = .ok (.iload_n 1, 1) := by decide +kernel
theorem d25_12 : decode jdk_65_method_132_code 12 = .ok (.iload_n 2, 1) := by decide +kernel
theorem d25_13 : decode jdk_65_method_132_code 13 = .ok (.invokestatic 339, 3) := by decide +kernel
theorem pd_13 : parseMethodDescriptor "([BII)[B" = some ⟨[(.array .byte), .int, .int], some (.array .byte)⟩ := by decide +kernel
theorem d25_16 : decode jdk_65_method_132_code 16 = .ok (.areturn, 1) := by decide +kernel
theorem pn_25 : plainName "java/util/Arrays" = true := by first | (simp [plainName, overriddenIn]; done) | decide +kernel
set_option maxHeartbeats 4000000 in
theorem ef_rmCR (m : MethodId) {ba : Addr} {cc : Int32} : entryFrame m #[(.ref ba), (.int (0 : Int32)), (.int cc)] 3 = mkF m 0 #[vr ba, vi (0 : Int32), vi cc] [] := by first | (simp [entryFrame, mkF, argsToLocals, Value.category]; done) | rfl
def QrmCR (Z : State) (vcs : Int32) (vfm : Value) (ba : Addr) (cc : Int32) (ka : ClassId) (vsa : (List Value)) (h0 : Heap) (n0 : Nat) (v : Option Value) (h : Heap) (L : List Loc) : Prop := ∃ (rb : Addr) (kb : ClassId) (vsn : (List Value)), (v = some (.ref rb)) ∧ (Fr n0 L) ∧ (Keep h0 h []) ∧ (Arv Z h rb kb .byte cc vsn (.int (0 : Int32))) ∧ (h0.size ≤ rb) ∧ (vsn = cpl vsa [] (0 : Int32) (0 : Int32) cc cc)
set_option maxRecDepth 65536 in
set_option maxHeartbeats 40000000 in
theorem rmCR (l : Launch) (Z : State) (a0 : Array Value) (hw : ∀ d ∈ tables_1, d.before a0 Z = true) (ws : List Jvm.Cond) (vcs : Int32) (vfm : Value) (G : Gh Z vcs vfm) (ba : Addr) (cc : Int32) (ka : ClassId) (vsa : (List Value)) (h0 : Heap) (n0 : Nat) (O0 : Old Z n0 h0) (VA : Arv Z h0 ba ka .byte (16 : Int32) vsa (.int (0 : Int32))) (hc0 : ¬ (cc < (0 : Int32))) (hc1 : cc < (16 : Int32)) (hc2 : ¬ (cc = (16 : Int32))) :
    MetFree l (⟨"java/util/Arrays", "copyOfRange", "([BII)[B"⟩ : MethodName) (head1 (Jvm.Cond.code (⟨"java/util/Arrays", "copyOfRange", "([BII)[B"⟩ : MethodName) jdk_65_method_132_code 3 (some (.array .byte)) :: ws) ({ frames := 2, cells := 1, slots := 16, locals := 56 } : Room)) (fun aa' UU' => aa' = #[(.ref ba), (.int (0 : Int32)), (.int cc)] ∧ Z.Warmed39 UU'.vm ∧ UU'.heap = h0) (fun _ _ _ _ _ => True) (fun _ UU' oo' VV' => ∃ v' L', oo' = .returned v' ∧ QrmCR Z vcs vfm ba cc ka vsa h0 n0 v' VV'.heap L' ∧ FrameEnd UU' oo' VV' L' ({ frames := 2, cells := 1, slots := 16, locals := 56 } : Room).cells ({ frames := 2, cells := 1, slots := 16, locals := 56 } : Room).slots) := by
  refine MetFree.of_bodySF (plainFor_of_name pn_25) hisR ?_
  intro p e s m args below meth c s₁ Bd hml0 hP hK
  obtain ⟨rfl, hZ, hh⟩ := hP
  have hx := Bd.exec
  have hby := Bd.bytes
  have hlk := Bd.notSynchronized
  have hml : c.maxLocals = 3 := hml0
  have hown : s.vm.findClass "java/util/Arrays" = some m.cls := findClass_of_methodNamed Bd.named
  have hnm := (name_of_methodNamed Bd.named Bd.method).1
  have hret := Bd.returns
  have X0 : Stand p l e ({ frames := 2, cells := 1, slots := 16, locals := 56 } : Room) s m #[(.ref ba), (.int (0 : Int32)), (.int cc)] below meth c s₁ [] 0 0 := Stand.of_body Bd
  have e0 : s₁.heap = h0 := by rw [← hh, Bd.state]; rfl
  have N0 := Fr.nil n0
  have KC0 : Keep h0 h0 [] := Keep.refl _ _
  refine Go.body ?_
  obtain ⟨Pf, hPf⟩ : ∃ P, P = Fin' s below ({ frames := 2, cells := 1, slots := 16, locals := 56 } : Room).cells ({ frames := 2, cells := 1, slots := 16, locals := 56 } : Room).slots (QrmCR Z vcs vfm ba cc ka vsa h0 n0) := ⟨_, rfl⟩
  rw [← hPf]
  refine Go.cast (ef_rmCR m) ?_
  have hw147 := (hw _ (List.mem_of_getElem? (i := 147) rfl))
  have hw149 := (hw _ (List.mem_of_getElem? (i := 149) rfl))
  have hw150 := (hw _ (List.mem_of_getElem? (i := 150) rfl))
  have hw151 := (hw _ (List.mem_of_getElem? (i := 151) rfl))
  show Go p.tables e below Pf (s₁.setTop (mkF m 0 #[vr ba, vi (0 : Int32), vi cc] []))
  refine Go.by' (fun t k => (XS.iloadN X0.here hx rfl (hb hby d25_0) rfl (XS.ifNo X0.here hx rfl (hb hby d25_1) rfl ((if0 _ _).trans (teq (by decide)).2) (XS.iloadN X0.here hx rfl (hb hby d25_4) rfl (XS.aloadN X0.here hx rfl (hb hby d25_5) rfl rfl k))))) ?_
  obtain ⟨cl97, Ar97, -, S97, P97, -, -⟩ := (id VA)
  show Go p.tables e below Pf (s₁.setTop (mkF m 6 #[vr ba, vi (0 : Int32), vi cc] [(.ref ba), (.int cc)]))
  refine Go.by' (fun t k => (X0.arraylength hx (by rw [e0]; exact Ar97.1) (State.isArrayOf_alike hZ.alike Ar97.2.1) (g := (mkF m 6 #[vr ba, vi (0 : Int32), vi cc] [(.ref ba), (.int cc)])) rfl rfl (hb hby d25_6) t k)) ?_
  rw [len_of S97 P97]
  show Go p.tables e below Pf (s₁.setTop (mkF m 7 #[vr ba, vi (0 : Int32), vi cc] [(.int (16 : Int32)), (.int cc)]))
  refine Go.by' (fun t k => (XS.icmpNo X0.here hx rfl (hb hby d25_7) rfl (feq hc2).1 (XS.aloadN X0.here hx rfl (hb hby d25_10) rfl rfl (XS.iloadN X0.here hx rfl (hb hby d25_11) rfl (XS.iloadN X0.here hx rfl (hb hby d25_12) rfl k))))) ?_
  obtain ⟨_, _, ⟨T98, L98, k98, n98⟩, -, X98, ⟨Lc98, hQ98, l98, y98, z98⟩, st98⟩ := Jvm.LawKit.callS X0 hx (y := (⟨"java/util/Arrays", "copyOfRangeByte", "([BII)[B"⟩ : MethodName)) hown (mvT hZ hw149) (mvT hZ hw150) (mvT hZ hw147) (mvT hZ hw151) (by decide) (backOf (W := 0) (rmRB l Z a0 hw [] vcs vfm G ba cc ka vsa h0 n0 O0 VA hc0 hc1 hc2) hZ hw151 hw147 (by decide) (by decide)) (g := (mkF m 13 #[vr ba, vi (0 : Int32), vi cc] [(.int cc), (.int (0 : Int32)), (.ref ba)])) rfl (by rw [hml]; rfl) (argsL := [(.ref ba), (.int (0 : Int32)), (.int cc)]) (rest := []) (lenOf pd_13 rfl) rfl (by show 2 * 0 + _ ≤ _; exact Nat.le_of_eq rfl) (hb hby d25_13) (fun _ _ => ⟨rfl, e0, (by decide : 0 + 1 ≤ _), (by decide : 0 + 16 ≤ _)⟩)
  dsimp only [Pt.U, Pt.locs, Pt.cells, Pt.slots] at X98 l98 y98 z98 st98 hQ98
  subst l98 y98 z98
  obtain ⟨rb_98, kb_98, vsn_98, rfl, N98q, K98, f98_0, f98_1, r98_0⟩ := hQ98
  have N98 := Fr.app N0 N98q
  obtain ⟨lc98, X98, N98⟩ := own_pack X98 N98
  refine Go.by' st98 ?_
  have g_rb_98 : n0 ≤ rb_98 := Nat.le_trans (own_le O0) f98_1
  have sz_rb_98 : h0.size ≤ rb_98 := Nat.le_trans KC0.1 f98_1
  have O98 := O0.keep K98 all0
  have KC98 : Keep h0 T98.heap [] := KC0.trans K98 all0
  show Go p.tables e below Pf (T98.setTop (mkF m 16 #[vr ba, vi (0 : Int32), vi cc] [(.ref rb_98)]))
  rw [hPf]
  exact Go.retA' X98 hx hret hlk rfl rfl (hb hby d25_16) (by decide) (by decide) ⟨rb_98, kb_98, vsn_98, rfl, N98, KC98, f98_0, sz_rb_98, r98_0⟩
theorem d21_0 : decode jdk_68_method_64_code 0 = .ok (.aload_n 0, 1) := by decide +kernel
theorem d21_1 : decode jdk_68_method_64_code 1 = .ok (.getfield 15, 3) := by decide +kernel
theorem d21_4 : decode jdk_68_method_64_code 4 = .ok (.areturn, 1) := by decide +kernel
theorem pn_21 : plainName "java/lang/AbstractStringBuilder" = true := by first | (simp [plainName, overriddenIn]; done) | decide +kernel
set_option maxHeartbeats 4000000 in
theorem ef_rmGV (m : MethodId) {so : Addr} : entryFrame m #[(.ref so)] 1 = mkF m 0 #[vr so] [] := by first | (simp [entryFrame, mkF, argsToLocals, Value.category]; done) | rfl
def QrmGV (Z : State) (vcs : Int32) (vfm : Value) (so : Addr) (ra : Addr) (h0 : Heap) (n0 : Nat) (v : Option Value) (h : Heap) (L : List Loc) : Prop := (v = some (.ref ra)) ∧ (L = []) ∧ (h = h0)
set_option maxRecDepth 65536 in
set_option maxHeartbeats 40000000 in
theorem rmGV (l : Launch) (Z : State) (a0 : Array Value) (hw : ∀ d ∈ tables_1, d.before a0 Z = true) (ws : List Jvm.Cond) (vcs : Int32) (vfm : Value) (G : Gh Z vcs vfm) (so : Addr) (ra : Addr) (h0 : Heap) (n0 : Nat) (O0 : Old Z n0 h0) (FV : Fld Z h0 so "java/lang/AbstractStringBuilder" "value" "[B" (.ref ra)) :
    MetFree l (⟨"java/lang/AbstractStringBuilder", "getValue", "()[B"⟩ : MethodName) (head1 (Jvm.Cond.code (⟨"java/lang/AbstractStringBuilder", "getValue", "()[B"⟩ : MethodName) jdk_68_method_64_code 1 (some (.array .byte)) :: ws) ({ frames := 0, cells := 0, slots := 0, locals := 0 } : Room)) (fun aa' UU' => aa' = #[(.ref so)] ∧ Z.Warmed39 UU'.vm ∧ UU'.heap = h0) (fun _ _ _ _ _ => True) (fun _ UU' oo' VV' => ∃ v' L', oo' = .returned v' ∧ QrmGV Z vcs vfm so ra h0 n0 v' VV'.heap L' ∧ FrameEnd UU' oo' VV' L' ({ frames := 0, cells := 0, slots := 0, locals := 0 } : Room).cells ({ frames := 0, cells := 0, slots := 0, locals := 0 } : Room).slots) := by
  refine MetFree.of_bodySF (plainFor_of_name pn_21) hisR ?_
  intro p e s m args below meth c s₁ Bd hml0 hP hK
  obtain ⟨rfl, hZ, hh⟩ := hP
  have hx := Bd.exec
  have hby := Bd.bytes
  have hlk := Bd.notSynchronized
  have hml : c.maxLocals = 1 := hml0
  have hown : s.vm.findClass "java/lang/AbstractStringBuilder" = some m.cls := findClass_of_methodNamed Bd.named
  have hnm := (name_of_methodNamed Bd.named Bd.method).1
  have hret := Bd.returns
  have X0 : Stand p l e ({ frames := 0, cells := 0, slots := 0, locals := 0 } : Room) s m #[(.ref so)] below meth c s₁ [] 0 0 := Stand.of_body Bd
  have e0 : s₁.heap = h0 := by rw [← hh, Bd.state]; rfl
  have N0 := Fr.nil n0
  refine Go.body ?_
  obtain ⟨Pf, hPf⟩ : ∃ P, P = Fin' s below ({ frames := 0, cells := 0, slots := 0, locals := 0 } : Room).cells ({ frames := 0, cells := 0, slots := 0, locals := 0 } : Room).slots (QrmGV Z vcs vfm so ra h0 n0) := ⟨_, rfl⟩
  rw [← hPf]
  refine Go.cast (ef_rmGV m) ?_
  have hw62 := (hw _ (List.mem_of_getElem? (i := 62) rfl))
  show Go p.tables e below Pf (s₁.setTop (mkF m 0 #[vr so] []))
  refine Go.by' (fun t k => (XS.aloadN X0.here hx rfl (hb hby d21_0) rfl rfl k)) ?_
  obtain ⟨T99, X99, e99, st99⟩ := getF X0 hx hZ hown (host := "") (Or.inl hw62) Via.refl e0 FV (g := (mkF m 1 #[vr so] [(.ref so)])) rfl rfl (hb hby d21_1)
  refine Go.by' st99 ?_
  show Go p.tables e below Pf (T99.setTop (mkF m 4 #[vr so] [(.ref ra)]))
  rw [hPf]
  exact Go.retA' X99 hx hret hlk rfl rfl (hb hby d21_4) (by decide) (by decide) ⟨rfl, rfl, e99⟩
theorem d24_0 : decode jdk_68_method_68_code 0 = .ok (.getstatic 18, 3) := by decide +kernel
theorem d24_3 : decode jdk_68_method_68_code 3 = .ok (.ifCond .eq 14, 3) := by decide +kernel
theorem d24_6 : decode jdk_68_method_68_code 6 = .ok (.aload_n 0, 1) := by decide +kernel
theorem d24_7 : decode jdk_68_method_68_code 7 = .ok (.getfield 22, 3) := by decide +kernel
theorem d24_10 : decode jdk_68_method_68_code 10 = .ok (.ifCond .ne 7, 3) := by decide +kernel
theorem d24_13 : decode jdk_68_method_68_code 13 = .ok (.iconst 1, 1) := by decide +kernel
theorem d24_14 : decode jdk_68_method_68_code 14 = .ok (.goto 4, 3) := by decide +kernel
theorem d24_18 : decode jdk_68_method_68_code 18 = .ok (.ireturn, 1) := by decide +kernel
theorem pn_24 : plainName "java/lang/AbstractStringBuilder" = true := by first | (simp [plainName, overriddenIn]; done) | decide +kernel
set_option maxHeartbeats 4000000 in
theorem ef_rmL1 (m : MethodId) {so : Addr} : entryFrame m #[(.ref so)] 1 = mkF m 0 #[vr so] [] := by first | (simp [entryFrame, mkF, argsToLocals, Value.category]; done) | rfl
def QrmL1 (Z : State) (vcs : Int32) (vfm : Value) (so : Addr) (h0 : Heap) (n0 : Nat) (v : Option Value) (h : Heap) (L : List Loc) : Prop := (v = some (.int (1 : Int32))) ∧ (L = []) ∧ (h = h0)
set_option maxRecDepth 65536 in
set_option maxHeartbeats 40000000 in
theorem rmL1 (l : Launch) (Z : State) (a0 : Array Value) (hw : ∀ d ∈ tables_1, d.before a0 Z = true) (ws : List Jvm.Cond) (vcs : Int32) (vfm : Value) (G : Gh Z vcs vfm) (so : Addr) (h0 : Heap) (n0 : Nat) (O0 : Old Z n0 h0) (FC : Fld Z h0 so "java/lang/AbstractStringBuilder" "coder" "B" (.int (0 : Int32))) :
    MetFree l (⟨"java/lang/AbstractStringBuilder", "isLatin1", "()Z"⟩ : MethodName) (head1 (Jvm.Cond.code (⟨"java/lang/AbstractStringBuilder", "isLatin1", "()Z"⟩ : MethodName) jdk_68_method_68_code 1 (some .boolean) :: ws) ({ frames := 0, cells := 0, slots := 0, locals := 0 } : Room)) (fun aa' UU' => aa' = #[(.ref so)] ∧ Z.Warmed39 UU'.vm ∧ UU'.heap = h0) (fun _ _ _ _ _ => True) (fun _ UU' oo' VV' => ∃ v' L', oo' = .returned v' ∧ QrmL1 Z vcs vfm so h0 n0 v' VV'.heap L' ∧ FrameEnd UU' oo' VV' L' ({ frames := 0, cells := 0, slots := 0, locals := 0 } : Room).cells ({ frames := 0, cells := 0, slots := 0, locals := 0 } : Room).slots) := by
  refine MetFree.of_bodySF (plainFor_of_name pn_24) hisR ?_
  intro p e s m args below meth c s₁ Bd hml0 hP hK
  obtain ⟨rfl, hZ, hh⟩ := hP
  have hx := Bd.exec
  have hby := Bd.bytes
  have hlk := Bd.notSynchronized
  have hml : c.maxLocals = 1 := hml0
  have hown : s.vm.findClass "java/lang/AbstractStringBuilder" = some m.cls := findClass_of_methodNamed Bd.named
  have hnm := (name_of_methodNamed Bd.named Bd.method).1
  have hret := Bd.returns
  have X0 : Stand p l e ({ frames := 0, cells := 0, slots := 0, locals := 0 } : Room) s m #[(.ref so)] below meth c s₁ [] 0 0 := Stand.of_body Bd
  have e0 : s₁.heap = h0 := by rw [← hh, Bd.state]; rfl
  have N0 := Fr.nil n0
  refine Go.body ?_
  obtain ⟨Pf, hPf⟩ : ∃ P, P = Fin' s below ({ frames := 0, cells := 0, slots := 0, locals := 0 } : Room).cells ({ frames := 0, cells := 0, slots := 0, locals := 0 } : Room).slots (QrmL1 Z vcs vfm so h0 n0) := ⟨_, rfl⟩
  rw [← hPf]
  refine Go.cast (ef_rmL1 m) ?_
  have hw61 := (hw _ (List.mem_of_getElem? (i := 61) rfl))
  have hw64 := (hw _ (List.mem_of_getElem? (i := 64) rfl))
  obtain ⟨T100, X100, e100, st100⟩ := getS2 X0 hx hZ hown (host := "") (Or.inl hw61) Via.refl e0 (G.1.ext O0.2) (g := (mkF m 0 #[vr so] [])) rfl (hb hby d24_0)
  refine Go.by' st100 ?_
  show Go p.tables e below Pf (T100.setTop (mkF m 3 #[vr so] [(.int vcs)]))
  refine Go.by' (fun t k => (XS.ifNo X100.here hx rfl (hb hby d24_3) rfl ((if0 _ _).trans (feq G.2.1).1) (XS.aloadN X100.here hx rfl (hb hby d24_6) rfl rfl k))) ?_
  obtain ⟨T101, X101, e101, st101⟩ := getF X100 hx hZ hown (host := "") (Or.inl hw64) Via.refl e100 FC (g := (mkF m 7 #[vr so] [(.ref so)])) rfl rfl (hb hby d24_7)
  refine Go.by' st101 ?_
  show Go p.tables e below Pf (T101.setTop (mkF m 10 #[vr so] [(.int (0 : Int32))]))
  refine Go.by' (fun t k => (XS.ifNo X101.here hx rfl (hb hby d24_10) rfl ((if0 _ _).trans (teq (by decide)).2) (XS.iconst X101.here hx rfl (hb hby d24_13) (XS.goto X101.here hx rfl (pc0 := 14) (pc' := 18) rfl (hb hby d24_14) (by decide) (by decide) k)))) ?_
  show Go p.tables e below Pf (T101.setTop (mkF m 18 #[vr so] [(.int (1 : Int32))]))
  rw [hPf]
  exact Go.retI' X101 hx hret hlk (by simp) rfl (hb hby d24_18) (by decide) (by decide) ⟨rfl, rfl, e101⟩
theorem d23_0 : decode jdk_68_method_6_code 0 = .ok (.aload_n 0, 1) := by decide +kernel
theorem d23_1 : decode jdk_68_method_6_code 1 = .ok (.getfield 79, 3) := by decide +kernel
theorem d23_4 : decode jdk_68_method_6_code 4 = .ok (.ireturn, 1) := by decide +kernel
theorem pn_23 : plainName "java/lang/AbstractStringBuilder" = true := by first | (simp [plainName, overriddenIn]; done) | decide +kernel
set_option maxHeartbeats 4000000 in
theorem ef_rmBL0 (m : MethodId) {so : Addr} : entryFrame m #[(.ref so)] 1 = mkF m 0 #[vr so] [] := by first | (simp [entryFrame, mkF, argsToLocals, Value.category]; done) | rfl
def QrmBL0 (Z : State) (vcs : Int32) (vfm : Value) (so : Addr) (cc : Int32) (h0 : Heap) (n0 : Nat) (v : Option Value) (h : Heap) (L : List Loc) : Prop := (v = some (.int cc)) ∧ (L = []) ∧ (h = h0)
set_option maxRecDepth 65536 in
set_option maxHeartbeats 40000000 in
theorem rmBL0 (l : Launch) (Z : State) (a0 : Array Value) (hw : ∀ d ∈ tables_1, d.before a0 Z = true) (ws : List Jvm.Cond) (vcs : Int32) (vfm : Value) (G : Gh Z vcs vfm) (so : Addr) (cc : Int32) (h0 : Heap) (n0 : Nat) (O0 : Old Z n0 h0) (FN : Fld Z h0 so "java/lang/AbstractStringBuilder" "count" "I" (.int cc)) :
    MetFree l (⟨"java/lang/AbstractStringBuilder", "length", "()I"⟩ : MethodName) (head1 (Jvm.Cond.code (⟨"java/lang/AbstractStringBuilder", "length", "()I"⟩ : MethodName) jdk_68_method_6_code 1 (some .int) :: ws) ({ frames := 0, cells := 0, slots := 0, locals := 0 } : Room)) (fun aa' UU' => aa' = #[(.ref so)] ∧ Z.Warmed39 UU'.vm ∧ UU'.heap = h0) (fun _ _ _ _ _ => True) (fun _ UU' oo' VV' => ∃ v' L', oo' = .returned v' ∧ QrmBL0 Z vcs vfm so cc h0 n0 v' VV'.heap L' ∧ FrameEnd UU' oo' VV' L' ({ frames := 0, cells := 0, slots := 0, locals := 0 } : Room).cells ({ frames := 0, cells := 0, slots := 0, locals := 0 } : Room).slots) := by
  refine MetFree.of_bodySF (plainFor_of_name pn_23) hisR ?_
  intro p e s m args below meth c s₁ Bd hml0 hP hK
  obtain ⟨rfl, hZ, hh⟩ := hP
  have hx := Bd.exec
  have hby := Bd.bytes
  have hlk := Bd.notSynchronized
  have hml : c.maxLocals = 1 := hml0
  have hown : s.vm.findClass "java/lang/AbstractStringBuilder" = some m.cls := findClass_of_methodNamed Bd.named
  have hnm := (name_of_methodNamed Bd.named Bd.method).1
  have hret := Bd.returns
  have X0 : Stand p l e ({ frames := 0, cells := 0, slots := 0, locals := 0 } : Room) s m #[(.ref so)] below meth c s₁ [] 0 0 := Stand.of_body Bd
  have e0 : s₁.heap = h0 := by rw [← hh, Bd.state]; rfl
  have N0 := Fr.nil n0
  refine Go.body ?_
  obtain ⟨Pf, hPf⟩ : ∃ P, P = Fin' s below ({ frames := 0, cells := 0, slots := 0, locals := 0 } : Room).cells ({ frames := 0, cells := 0, slots := 0, locals := 0 } : Room).slots (QrmBL0 Z vcs vfm so cc h0 n0) := ⟨_, rfl⟩
  rw [← hPf]
  refine Go.cast (ef_rmBL0 m) ?_
  have hw87 := (hw _ (List.mem_of_getElem? (i := 87) rfl))
  show Go p.tables e below Pf (s₁.setTop (mkF m 0 #[vr so] []))
  refine Go.by' (fun t k => (XS.aloadN X0.here hx rfl (hb hby d23_0) rfl rfl k)) ?_
  obtain ⟨T102, X102, e102, st102⟩ := getF X0 hx hZ hown (host := "") (Or.inl hw87) Via.refl e0 FN (g := (mkF m 1 #[vr so] [(.ref so)])) rfl rfl (hb hby d23_1)
  refine Go.by' st102 ?_
  show Go p.tables e below Pf (T102.setTop (mkF m 4 #[vr so] [(.int cc)]))
  rw [hPf]
  exact Go.retI' X102 hx hret hlk (by simp) rfl (hb hby d23_4) (by decide) (by decide) ⟨rfl, rfl, e102⟩
theorem d22_0 : decode jdk_67_method_93_code 0 = .ok (.aload_n 0, 1) := by decide +kernel
theorem d22_1 : decode jdk_67_method_93_code 1 = .ok (.invokespecial 343, 3) := by decide +kernel
theorem d22_4 : decode jdk_67_method_93_code 4 = .ok (.ireturn, 1) := by decide +kernel
theorem pn_22 : plainName "java/lang/StringBuilder" = true := by first | (simp [plainName, overriddenIn]; done) | decide +kernel
set_option maxHeartbeats 4000000 in
theorem ef_rmBL1 (m : MethodId) {so : Addr} : entryFrame m #[(.ref so)] 1 = mkF m 0 #[vr so] [] := by first | (simp [entryFrame, mkF, argsToLocals, Value.category]; done) | rfl
def QrmBL1 (Z : State) (vcs : Int32) (vfm : Value) (so : Addr) (cc : Int32) (h0 : Heap) (n0 : Nat) (v : Option Value) (h : Heap) (L : List Loc) : Prop := (v = some (.int cc)) ∧ (L = []) ∧ (h = h0)
set_option maxRecDepth 65536 in
set_option maxHeartbeats 40000000 in
theorem rmBL1 (l : Launch) (Z : State) (a0 : Array Value) (hw : ∀ d ∈ tables_1, d.before a0 Z = true) (ws : List Jvm.Cond) (vcs : Int32) (vfm : Value) (G : Gh Z vcs vfm) (so : Addr) (cc : Int32) (h0 : Heap) (n0 : Nat) (O0 : Old Z n0 h0) (EX : Exa Z h0 so "java/lang/StringBuilder") (FN : Fld Z h0 so "java/lang/AbstractStringBuilder" "count" "I" (.int cc)) :
    MetFree l (⟨"java/lang/StringBuilder", "length", "()I"⟩ : MethodName) (head1 (Jvm.Cond.code (⟨"java/lang/StringBuilder", "length", "()I"⟩ : MethodName) jdk_67_method_93_code 1 (some .int) :: ws) ({ frames := 1, cells := 0, slots := 0, locals := 12 } : Room)) (fun aa' UU' => aa' = #[(.ref so)] ∧ Z.Warmed39 UU'.vm ∧ UU'.heap = h0) (fun _ _ _ _ _ => True) (fun _ UU' oo' VV' => ∃ v' L', oo' = .returned v' ∧ QrmBL1 Z vcs vfm so cc h0 n0 v' VV'.heap L' ∧ FrameEnd UU' oo' VV' L' ({ frames := 1, cells := 0, slots := 0, locals := 12 } : Room).cells ({ frames := 1, cells := 0, slots := 0, locals := 12 } : Room).slots) := by
  refine MetFree.of_bodySF (plainFor_of_name pn_22) hisR ?_
  intro p e s m args below meth c s₁ Bd hml0 hP hK
  obtain ⟨rfl, hZ, hh⟩ := hP
  have hx := Bd.exec
  have hby := Bd.bytes
  have hlk := Bd.notSynchronized
  have hml : c.maxLocals = 1 := hml0
  have hown : s.vm.findClass "java/lang/StringBuilder" = some m.cls := findClass_of_methodNamed Bd.named
  have hnm := (name_of_methodNamed Bd.named Bd.method).1
  have hret := Bd.returns
  have X0 : Stand p l e ({ frames := 1, cells := 0, slots := 0, locals := 12 } : Room) s m #[(.ref so)] below meth c s₁ [] 0 0 := Stand.of_body Bd
  have e0 : s₁.heap = h0 := by rw [← hh, Bd.state]; rfl
  have N0 := Fr.nil n0
  refine Go.body ?_
  obtain ⟨Pf, hPf⟩ : ∃ P, P = Fin' s below ({ frames := 1, cells := 0, slots := 0, locals := 12 } : Room).cells ({ frames := 1, cells := 0, slots := 0, locals := 12 } : Room).slots (QrmBL1 Z vcs vfm so cc h0 n0) := ⟨_, rfl⟩
  rw [← hPf]
  refine Go.cast (ef_rmBL1 m) ?_
  have hw58 := (hw _ (List.mem_of_getElem? (i := 58) rfl))
  have hw73 := (hw _ (List.mem_of_getElem? (i := 73) rfl))
  have hw92 := (hw _ (List.mem_of_getElem? (i := 92) rfl))
  have hw133 := (hw _ (List.mem_of_getElem? (i := 133) rfl))
  have hw134 := (hw _ (List.mem_of_getElem? (i := 134) rfl))
  have hw138 := (hw _ (List.mem_of_getElem? (i := 138) rfl))
  have hw139 := (hw _ (List.mem_of_getElem? (i := 139) rfl))
  show Go p.tables e below Pf (s₁.setTop (mkF m 0 #[vr so] []))
  refine Go.by' (fun t k => (XS.aloadN X0.here hx rfl (hb hby d22_0) rfl rfl k)) ?_
  obtain ⟨_, _, ⟨T103, L103, k103, n103⟩, -, X103, ⟨Lc103, hQ103, l103, y103, z103⟩, st103⟩ := superBack X0 hx hZ (y := (⟨"java/lang/AbstractStringBuilder", "length", "()I"⟩ : MethodName)) hown hw138 (own_same hw133 (own_nf hw92 rfl) (by decide)) hw134 hw73 (by decide) (backOf (W := 0) (rmBL0 l Z a0 hw [] vcs vfm G so cc h0 n0 O0 FN) hZ hw139 hw58 (by decide) (by decide)) e0 (a := so) (Ins.self EX) (g := (mkF m 1 #[vr so] [(.ref so)])) rfl (by rw [hml]; rfl) hw139 (argsL := []) (rest := []) (lenOf pd_8 rfl) rfl (by show 2 * 0 + _ ≤ _; exact Nat.le_of_eq rfl) (hb hby d22_1) (fun _ _ => ⟨rfl, e0, (by decide : 0 + 0 ≤ _), (by decide : 0 + 0 ≤ _)⟩)
  dsimp only [Pt.U, Pt.locs, Pt.cells, Pt.slots] at X103 l103 y103 z103 st103 hQ103
  subst l103 y103 z103
  obtain ⟨rfl, rfl, e103⟩ := hQ103
  try replace X103 := own_nil X103
  refine Go.by' (fun t k => st103.trans k) ?_
  show Go p.tables e below Pf (T103.setTop (mkF m 4 #[vr so] [(.int cc)]))
  rw [hPf]
  exact Go.retI' X103 hx hret hlk (by simp) rfl (hb hby d22_4) (by decide) (by decide) ⟨rfl, rfl, e103⟩
theorem d20_0 : decode jdk_42_method_150_code 0 = .ok (.aload_n 0, 1) := by decide +kernel
theorem d20_1 : decode jdk_42_method_150_code 1 = .ok (.invokespecial 1, 3) := by decide +kernel
theorem d20_4 : decode jdk_42_method_150_code 4 = .ok (.aload_n 1, 1) := by decide +kernel
theorem d20_5 : decode jdk_42_method_150_code 5 = .ok (.invokevirtual 552, 3) := by decide +kernel
theorem pd_14 : parseMethodDescriptor "()[B" = some ⟨[], some (.array .byte)⟩ := by decide +kernel
theorem d20_8 : decode jdk_42_method_150_code 8 = .ok (.astore_n 3, 1) := by decide +kernel
theorem d20_9 : decode jdk_42_method_150_code 9 = .ok (.aload_n 1, 1) := by decide +kernel
theorem d20_10 : decode jdk_42_method_150_code 10 = .ok (.invokevirtual 549, 3) := by decide +kernel
theorem d20_13 : decode jdk_42_method_150_code 13 = .ok (.istore 4, 2) := by decide +kernel
theorem d20_15 : decode jdk_42_method_150_code 15 = .ok (.aload_n 1, 1) := by decide +kernel
theorem d20_16 : decode jdk_42_method_150_code 16 = .ok (.invokevirtual 1047, 3) := by decide +kernel
theorem pd_15 : parseMethodDescriptor "()Z" = some ⟨[], some .boolean⟩ := by decide +kernel
theorem d20_19 : decode jdk_42_method_150_code 19 = .ok (.ifCond .eq 22, 3) := by decide +kernel
theorem d20_22 : decode jdk_42_method_150_code 22 = .ok (.aload_n 0, 1) := by decide +kernel
theorem d20_23 : decode jdk_42_method_150_code 23 = .ok (.iconst 0, 1) := by decide +kernel
theorem d20_24 : decode jdk_42_method_150_code 24 = .ok (.putfield 15, 3) := by decide +kernel
theorem d20_27 : decode jdk_42_method_150_code 27 = .ok (.aload_n 0, 1) := by decide +kernel
theorem d20_28 : decode jdk_42_method_150_code 28 = .ok (.aload_n 3, 1) := by decide +kernel
theorem d20_29 : decode jdk_42_method_150_code 29 = .ok (.iconst 0, 1) := by decide +kernel
theorem d20_30 : decode jdk_42_method_150_code 30 = .ok (.iload 4, 2) := by decide +kernel
theorem d20_32 : decode jdk_42_method_150_code 32 = .ok (.invokestatic 54, 3) := by decide +kernel
theorem d20_35 : decode jdk_42_method_150_code 35 = .ok (.putfield 9, 3) := by decide +kernel
theorem d20_38 : decode jdk_42_method_150_code 38 = .ok (.goto 59, 3) := by decide +kernel
theorem d20_97 : decode jdk_42_method_150_code 97 = .ok (.return_, 1) := by decide +kernel
theorem pn_20 : plainName "java/lang/String" = true := by first | (simp [plainName, overriddenIn]; done) | decide +kernel
set_option maxHeartbeats 4000000 in
theorem ef_rmSI2 (m : MethodId) {sa : Addr} {so : Addr} : entryFrame m #[(.ref sa), (.ref so), .null] 5 = mkF m 0 #[vr sa, vr so, .val .null, .unset, .unset] [] := by first | (simp [entryFrame, mkF, argsToLocals, Value.category]; done) | rfl
def QrmSI2 (Z : State) (vcs : Int32) (vfm : Value) (sa : Addr) (so : Addr) (ra : Addr) (ka : ClassId) (vsa : (List Value)) (cc : Int32) (h0 : Heap) (n0 : Nat) (v : Option Value) (h : Heap) (L : List Loc) : Prop := ∃ (rb : Addr) (kb : ClassId) (vsn : (List Value)), (v = none) ∧ (Fr n0 L) ∧ (Keep h0 h [sa]) ∧ (Exa Z h sa "java/lang/String") ∧ (Fld Z h sa "java/lang/String" "value" "[B" (.ref rb)) ∧ (Fld Z h sa "java/lang/String" "coder" "B" (.int (0 : Int32))) ∧ (Arv Z h rb kb .byte cc vsn (.int (0 : Int32))) ∧ (h0.size ≤ rb) ∧ (vsn = cpl vsa [] (0 : Int32) (0 : Int32) cc cc)
set_option maxRecDepth 65536 in
set_option maxHeartbeats 40000000 in
theorem rmSI2 (l : Launch) (Z : State) (a0 : Array Value) (hw : ∀ d ∈ tables_1, d.before a0 Z = true) (ws : List Jvm.Cond) (vcs : Int32) (vfm : Value) (G : Gh Z vcs vfm) (sa : Addr) (so : Addr) (ra : Addr) (ka : ClassId) (vsa : (List Value)) (cc : Int32) (h0 : Heap) (n0 : Nat) (O0 : Old Z n0 h0) (EX : Exa Z h0 so "java/lang/StringBuilder") (FV : Fld Z h0 so "java/lang/AbstractStringBuilder" "value" "[B" (.ref ra)) (FC : Fld Z h0 so "java/lang/AbstractStringBuilder" "coder" "B" (.int (0 : Int32))) (FN : Fld Z h0 so "java/lang/AbstractStringBuilder" "count" "I" (.int cc)) (VA : Arv Z h0 ra ka .byte (16 : Int32) vsa (.int (0 : Int32))) (hc0 : ¬ (cc < (0 : Int32))) (hc1 : cc < (16 : Int32)) (hc2 : ¬ (cc = (16 : Int32))) (EA : Exa Z h0 sa "java/lang/String") (FVs : Fld Z h0 sa "java/lang/String" "value" "[B" .null) (FCs : Fld Z h0 sa "java/lang/String" "coder" "B" (.int (0 : Int32))) (g_sa : n0 ≤ sa) :
    MetFree l (⟨"java/lang/String", "<init>", "(Ljava/lang/AbstractStringBuilder;Ljava/lang/Void;)V"⟩ : MethodName) (head1 (Jvm.Cond.code (⟨"java/lang/String", "<init>", "(Ljava/lang/AbstractStringBuilder;Ljava/lang/Void;)V"⟩ : MethodName) jdk_42_method_150_code 5 none :: ws) ({ frames := 3, cells := 1, slots := 16, locals := 71 } : Room)) (fun aa' UU' => aa' = #[(.ref sa), (.ref so), .null] ∧ Z.Warmed39 UU'.vm ∧ UU'.heap = h0) (fun _ _ _ _ _ => True) (fun _ UU' oo' VV' => ∃ v' L', oo' = .returned v' ∧ QrmSI2 Z vcs vfm sa so ra ka vsa cc h0 n0 v' VV'.heap L' ∧ FrameEnd UU' oo' VV' L' ({ frames := 3, cells := 1, slots := 16, locals := 71 } : Room).cells ({ frames := 3, cells := 1, slots := 16, locals := 71 } : Room).slots) := by
  refine MetFree.of_bodySF (plainFor_of_name pn_20) hisR ?_
  intro p e s m args below meth c s₁ Bd hml0 hP hK
  obtain ⟨rfl, hZ, hh⟩ := hP
  have hx := Bd.exec
  have hby := Bd.bytes
  have hlk := Bd.notSynchronized
  have hml : c.maxLocals = 5 := hml0
  have hown : s.vm.findClass "java/lang/String" = some m.cls := findClass_of_methodNamed Bd.named
  have hnm := (name_of_methodNamed Bd.named Bd.method).1
  have hret := Bd.returns
  have X0 : Stand p l e ({ frames := 3, cells := 1, slots := 16, locals := 71 } : Room) s m #[(.ref sa), (.ref so), .null] below meth c s₁ [] 0 0 := Stand.of_body Bd
  have e0 : s₁.heap = h0 := by rw [← hh, Bd.state]; rfl
  have N0 := Fr.nil n0
  have KC0 : Keep h0 h0 [sa] := Keep.refl _ _
  refine Go.body ?_
  obtain ⟨Pf, hPf⟩ : ∃ P, P = Fin' s below ({ frames := 3, cells := 1, slots := 16, locals := 71 } : Room).cells ({ frames := 3, cells := 1, slots := 16, locals := 71 } : Room).slots (QrmSI2 Z vcs vfm sa so ra ka vsa cc h0 n0) := ⟨_, rfl⟩
  rw [← hPf]
  refine Go.cast (ef_rmSI2 m) ?_
  have hw6 := (hw _ (List.mem_of_getElem? (i := 6) rfl))
  have hw16 := (hw _ (List.mem_of_getElem? (i := 16) rfl))
  have hw17 := (hw _ (List.mem_of_getElem? (i := 17) rfl))
  have hw18 := (hw _ (List.mem_of_getElem? (i := 18) rfl))
  have hw21 := (hw _ (List.mem_of_getElem? (i := 21) rfl))
  have hw22 := (hw _ (List.mem_of_getElem? (i := 22) rfl))
  have hw25 := (hw _ (List.mem_of_getElem? (i := 25) rfl))
  have hw26 := (hw _ (List.mem_of_getElem? (i := 26) rfl))
  have hw50 := (hw _ (List.mem_of_getElem? (i := 50) rfl))
  have hw58 := (hw _ (List.mem_of_getElem? (i := 58) rfl))
  have hw92 := (hw _ (List.mem_of_getElem? (i := 92) rfl))
  have hw127 := (hw _ (List.mem_of_getElem? (i := 127) rfl))
  have hw128 := (hw _ (List.mem_of_getElem? (i := 128) rfl))
  have hw129 := (hw _ (List.mem_of_getElem? (i := 129) rfl))
  have hw130 := (hw _ (List.mem_of_getElem? (i := 130) rfl))
  have hw131 := (hw _ (List.mem_of_getElem? (i := 131) rfl))
  have hw132 := (hw _ (List.mem_of_getElem? (i := 132) rfl))
  have hw133 := (hw _ (List.mem_of_getElem? (i := 133) rfl))
  have hw135 := (hw _ (List.mem_of_getElem? (i := 135) rfl))
  have hw136 := (hw _ (List.mem_of_getElem? (i := 136) rfl))
  have hw137 := (hw _ (List.mem_of_getElem? (i := 137) rfl))
  have hw140 := (hw _ (List.mem_of_getElem? (i := 140) rfl))
  have hw141 := (hw _ (List.mem_of_getElem? (i := 141) rfl))
  have hw142 := (hw _ (List.mem_of_getElem? (i := 142) rfl))
  have hw143 := (hw _ (List.mem_of_getElem? (i := 143) rfl))
  have hw144 := (hw _ (List.mem_of_getElem? (i := 144) rfl))
  have hw145 := (hw _ (List.mem_of_getElem? (i := 145) rfl))
  have hw146 := (hw _ (List.mem_of_getElem? (i := 146) rfl))
  have hw147 := (hw _ (List.mem_of_getElem? (i := 147) rfl))
  have hw148 := (hw _ (List.mem_of_getElem? (i := 148) rfl))
  show Go p.tables e below Pf (s₁.setTop (mkF m 0 #[vr sa, vr so, .val .null, .unset, .unset] []))
  refine Go.by' (fun t k => (XS.aloadN X0.here hx rfl (hb hby d20_0) rfl rfl k)) ?_
  obtain ⟨T104, X104, e104, st104⟩ := initO X0 hx hZ hown hw16 hw17 hw18 e0 (g := (mkF m 1 #[vr sa, vr so, .val .null, .unset, .unset] [(.ref sa)])) rfl (by rw [hml]; rfl) rfl (hb hby d20_1) (by decide) (W := 0) (by show 2 * 0 + _ ≤ _; exact Nat.le_of_eq rfl) (by decide)
  refine Go.by' st104 ?_
  show Go p.tables e below Pf (T104.setTop (mkF m 4 #[vr sa, vr so, .val .null, .unset, .unset] []))
  refine Go.by' (fun t k => (XS.aloadN X104.here hx rfl (hb hby d20_4) rfl rfl k)) ?_
  obtain ⟨cq105, kq105, q105a, q105b, q105c⟩ := isOf hZ e104 EX
  obtain ⟨_, _, ⟨T105, L105, k105, n105⟩, -, X105, ⟨Lc105, hQ105, l105, y105, z105⟩, st105⟩ := X104.virtualBack hx (y := (⟨"java/lang/AbstractStringBuilder", "getValue", "()[B"⟩ : MethodName)) (z := (⟨"java/lang/AbstractStringBuilder", "getValue", "()[B"⟩ : MethodName)) hown (mvT hZ hw127) (mvT hZ hw128) (notFace_of_selects (args := #[]) (mvT hZ hw130)) (mvT hZ hw130) (mvT hZ hw129) (by decide) (backOf (W := 0) (rmGV l Z a0 hw [] vcs vfm G so ra h0 n0 O0 FV) hZ hw131 hw58 (by decide) (by decide)) q105a q105c (g := (mkF m 5 #[vr sa, vr so, .val .null, .unset, .unset] [(.ref so)])) rfl (by rw [hml]; rfl) (Steps.refl _) (argsL := []) (rest := []) (lenOf pd_14 rfl) rfl (by show 2 * 0 + _ ≤ _; exact Nat.le_of_eq rfl) (hb hby d20_5) (fun _ _ => ⟨rfl, e104, (by decide : 0 + 0 ≤ _), (by decide : 0 + 0 ≤ _)⟩)
  dsimp only [Pt.U, Pt.locs, Pt.cells, Pt.slots] at X105 l105 y105 z105 st105 hQ105
  subst l105 y105 z105
  obtain ⟨rfl, rfl, e105⟩ := hQ105
  try replace X105 := own_nil X105
  refine Go.by' (fun t k => st105.trans k) ?_
  show Go p.tables e below Pf (T105.setTop (mkF m 8 #[vr sa, vr so, .val .null, .unset, .unset] [(.ref ra)]))
  refine Go.by' (fun t k => (XS.astoreN X105.here hx rfl (hb hby d20_8) rfl rfl (l' := #[vr sa, vr so, .val .null, vr ra, .unset]) rfl (XS.aloadN X105.here hx rfl (hb hby d20_9) rfl rfl k))) ?_
  obtain ⟨cq106, kq106, q106a, q106b, q106c⟩ := isOf hZ e105 EX
  obtain ⟨_, _, ⟨T106, L106, k106, n106⟩, -, X106, ⟨Lc106, hQ106, l106, y106, z106⟩, st106⟩ := X105.virtualBack hx (y := (⟨"java/lang/AbstractStringBuilder", "length", "()I"⟩ : MethodName)) (z := (⟨"java/lang/StringBuilder", "length", "()I"⟩ : MethodName)) hown (mvT hZ hw132) (mvT hZ hw133) (own_nf (args := #[]) (mvT hZ hw92) rfl) (mvT hZ hw135) (mvT hZ hw136) (by decide) (backOf (W := 0) (rmBL1 l Z a0 hw [] vcs vfm G so cc h0 n0 O0 EX FN) hZ hw137 hw50 (by decide) (by decide)) q106a q106c (g := (mkF m 10 #[vr sa, vr so, .val .null, vr ra, .unset] [(.ref so)])) rfl (by rw [hml]; rfl) (Steps.refl _) (argsL := []) (rest := []) (lenOf pd_8 rfl) rfl (by show 2 * 0 + _ ≤ _; exact Nat.le_of_eq rfl) (hb hby d20_10) (fun _ _ => ⟨rfl, e105, (by decide : 0 + 0 ≤ _), (by decide : 0 + 0 ≤ _)⟩)
  dsimp only [Pt.U, Pt.locs, Pt.cells, Pt.slots] at X106 l106 y106 z106 st106 hQ106
  subst l106 y106 z106
  obtain ⟨rfl, rfl, e106⟩ := hQ106
  try replace X106 := own_nil X106
  refine Go.by' (fun t k => st106.trans k) ?_
  show Go p.tables e below Pf (T106.setTop (mkF m 13 #[vr sa, vr so, .val .null, vr ra, .unset] [(.int cc)]))
  refine Go.by' (fun t k => (XS.istore X106.here hx rfl (hb hby d20_13) rfl (l' := #[vr sa, vr so, .val .null, vr ra, vi cc]) rfl (XS.aloadN X106.here hx rfl (hb hby d20_15) rfl rfl k))) ?_
  obtain ⟨cq107, kq107, q107a, q107b, q107c⟩ := isOf hZ e106 EX
  obtain ⟨_, _, ⟨T107, L107, k107, n107⟩, -, X107, ⟨Lc107, hQ107, l107, y107, z107⟩, st107⟩ := X106.virtualBack hx (y := (⟨"java/lang/AbstractStringBuilder", "isLatin1", "()Z"⟩ : MethodName)) (z := (⟨"java/lang/AbstractStringBuilder", "isLatin1", "()Z"⟩ : MethodName)) hown (mvT hZ hw140) (mvT hZ hw141) (notFace_of_selects (args := #[]) (mvT hZ hw143)) (mvT hZ hw143) (mvT hZ hw142) (by decide) (backOf (W := 0) (rmL1 l Z a0 hw [] vcs vfm G so h0 n0 O0 FC) hZ hw144 hw58 (by decide) (by decide)) q107a q107c (g := (mkF m 16 #[vr sa, vr so, .val .null, vr ra, vi cc] [(.ref so)])) rfl (by rw [hml]; rfl) (Steps.refl _) (argsL := []) (rest := []) (lenOf pd_15 rfl) rfl (by show 2 * 0 + _ ≤ _; exact Nat.le_of_eq rfl) (hb hby d20_16) (fun _ _ => ⟨rfl, e106, (by decide : 0 + 0 ≤ _), (by decide : 0 + 0 ≤ _)⟩)
  dsimp only [Pt.U, Pt.locs, Pt.cells, Pt.slots] at X107 l107 y107 z107 st107 hQ107
  subst l107 y107 z107
  obtain ⟨rfl, rfl, e107⟩ := hQ107
  try replace X107 := own_nil X107
  refine Go.by' (fun t k => st107.trans k) ?_
  show Go p.tables e below Pf (T107.setTop (mkF m 19 #[vr sa, vr so, .val .null, vr ra, vi cc] [(.int (1 : Int32))]))
  refine Go.by' (fun t k => (XS.ifNo X107.here hx rfl (hb hby d20_19) rfl ((if0 _ _).trans (feq (by decide)).1) (XS.aloadN X107.here hx rfl (hb hby d20_22) rfl rfl (XS.iconst X107.here hx rfl (hb hby d20_23) k)))) ?_
  obtain ⟨T108, h108, X108, e108, W108, st108⟩ := putFN X107 hx hZ hown hw26 Via.refl e107 FCs EA (Or.inr ⟨hw22, rfl, hnm⟩) hw6 (ty := .byte) (v' := (.int (0 : Int32))) (by decide) rfl rfl (g := (mkF m 24 #[vr sa, vr so, .val .null, vr ra, vi cc] [(.int (0 : Int32)), (.ref sa)])) rfl rfl (hb hby d20_24)
  refine Go.by' st108 ?_
  have Fw108 : Fld Z h108 sa "java/lang/String" "coder" "B" (Value.int (0 : Int32)) := FCs.same W108
  have N108 := Fr.snoc X108 N0 g_sa
  obtain ⟨lc108, X108, N108⟩ := own_pack X108 N108
  have O108 := O0.wr W108 g_sa
  have KC108 : Keep h0 h108 [sa] := KC0.wr W108 (Or.inl (List.mem_of_getElem? (i := 0) rfl))
  show Go p.tables e below Pf (T108.setTop (mkF m 27 #[vr sa, vr so, .val .null, vr ra, vi cc] []))
  refine Go.by' (fun t k => (XS.aloadN X108.here hx rfl (hb hby d20_27) rfl rfl (XS.aloadN X108.here hx rfl (hb hby d20_28) rfl rfl (XS.iconst X108.here hx rfl (hb hby d20_29) (XS.iload X108.here hx rfl (hb hby d20_30) rfl k))))) ?_
  obtain ⟨_, _, ⟨T109, L109, k109, n109⟩, -, X109, ⟨Lc109, hQ109, l109, y109, z109⟩, st109⟩ := Jvm.LawKit.callS X108 hx (y := (⟨"java/util/Arrays", "copyOfRange", "([BII)[B"⟩ : MethodName)) hown (mvT hZ hw145) (mvT hZ hw146) (mvT hZ hw147) (mvT hZ hw148) (by decide) (backOf (W := 1) (rmCR l Z a0 hw [] vcs vfm G ra cc ka vsa h108 n0 O108 (VA.other W108 (Ne.symm (Exa.neArv EA VA hw6))) hc0 hc1 hc2) hZ hw148 hw147 (by decide) (by decide)) (g := (mkF m 32 #[vr sa, vr so, .val .null, vr ra, vi cc] [(.int cc), (.int (0 : Int32)), (.ref ra), (.ref sa)])) rfl (by rw [hml]; rfl) (argsL := [(.ref ra), (.int (0 : Int32)), (.int cc)]) (rest := [(.ref sa)]) (lenOf pd_13 rfl) rfl (by show 2 * 0 + _ ≤ _; exact Nat.le_of_eq rfl) (hb hby d20_32) (fun _ _ => ⟨rfl, e108, (by decide : 0 + 1 ≤ _), (by decide : 0 + 16 ≤ _)⟩)
  dsimp only [Pt.U, Pt.locs, Pt.cells, Pt.slots] at X109 l109 y109 z109 st109 hQ109
  subst l109 y109 z109
  obtain ⟨rb_109, kb_109, vsn_109, rfl, N109q, K109, f109_0, f109_1, r109_0⟩ := hQ109
  have N109 := Fr.app N108 N109q
  obtain ⟨lc109, X109, N109⟩ := own_pack X109 N109
  refine Go.by' st109 ?_
  have g_rb_109 : n0 ≤ rb_109 := Nat.le_trans (own_le O108) f109_1
  have sz_rb_109 : h0.size ≤ rb_109 := Nat.le_trans KC108.1 f109_1
  have O109 := O108.keep K109 all0
  have KC109 : Keep h0 T109.heap [sa] := KC108.trans K109 all0
  have c110 := ((EA.wr W108).keep K109)
  have c111 := ((FVs.other W108 (Or.inr (slot_ne (Or.inr hw21) (Or.inr hw22) (by decide) (t := (.array .byte)) (t' := .byte) (by decide) (by decide)))).keep K109 nin0)
  obtain ⟨T112, h112, X112, e112, W112, st112⟩ := putF X109 hx hZ hown (host := "") (Or.inl hw25) Via.refl rfl c111 c110 (Or.inr ⟨hw21, rfl, hnm⟩) hw6 (ty := (.array .byte)) (by decide) rfl rfl (g := (mkF m 35 #[vr sa, vr so, .val .null, vr ra, vi cc] [(.ref rb_109), (.ref sa)])) rfl rfl (hb hby d20_35)
  refine Go.by' st112 ?_
  have Fw112 : Fld Z h112 sa "java/lang/String" "value" "[B" (Value.ref rb_109) := c111.same W112
  have N112 := Fr.snoc X112 N109 g_sa
  obtain ⟨lc112, X112, N112⟩ := own_pack X112 N112
  have O112 := O109.wr W112 g_sa
  have KC112 : Keep h0 h112 [sa] := KC109.wr W112 (Or.inl (List.mem_of_getElem? (i := 0) rfl))
  show Go p.tables e below Pf (T112.setTop (mkF m 38 #[vr sa, vr so, .val .null, vr ra, vi cc] []))
  refine Go.by' (fun t k => (XS.goto X112.here hx rfl (pc0 := 38) (pc' := 97) rfl (hb hby d20_38) (by decide) (by decide) k)) ?_
  have c113 := ((Fw108.keep K109 nin0).other W112 (Or.inr (slot_ne (Or.inr hw22) (Or.inr hw21) (by decide) (t := .byte) (t' := (.array .byte)) (by decide) (by decide))))
  show Go p.tables e below Pf (T112.setTop (mkF m 97 #[vr sa, vr so, .val .null, vr ra, vi cc] []))
  rw [hPf]
  exact Go.retV' X112 hx hret hlk (hb hby d20_97) (by decide) (by decide) ⟨rb_109, kb_109, vsn_109, rfl, N112, (by rw [e112]; exact KC112), (by rw [e112]; exact (c110.wr W112)), (by rw [e112]; exact Fw112), (by rw [e112]; exact c113), (by rw [e112]; exact (f109_0.other W112 (Ne.symm (Nat.ne_of_lt (Nat.lt_of_lt_of_le (Nat.lt_of_lt_of_le EA.lt (Nat.le_of_eq W108.size.symm)) f109_1))))), sz_rb_109, r109_0⟩
theorem d19_0 : decode jdk_42_method_53_code 0 = .ok (.aload_n 0, 1) := by decide +kernel
theorem d19_1 : decode jdk_42_method_53_code 1 = .ok (.aload_n 1, 1) := by decide +kernel
theorem d19_2 : decode jdk_42_method_53_code 2 = .ok (.aconst_null, 1) := by decide +kernel
theorem d19_3 : decode jdk_42_method_53_code 3 = .ok (.invokespecial 489, 3) := by decide +kernel
theorem pd_16 : parseMethodDescriptor "(Ljava/lang/AbstractStringBuilder;Ljava/lang/Void;)V" = some ⟨[(.object "java/lang/AbstractStringBuilder"), (.object "java/lang/Void")], none⟩ := by decide +kernel
theorem d19_6 : decode jdk_42_method_53_code 6 = .ok (.return_, 1) := by decide +kernel
theorem pn_19 : plainName "java/lang/String" = true := by first | (simp [plainName, overriddenIn]; done) | decide +kernel
set_option maxHeartbeats 4000000 in
theorem ef_rmSI1 (m : MethodId) {sa : Addr} {so : Addr} : entryFrame m #[(.ref sa), (.ref so)] 2 = mkF m 0 #[vr sa, vr so] [] := by first | (simp [entryFrame, mkF, argsToLocals, Value.category]; done) | rfl
def QrmSI1 (Z : State) (vcs : Int32) (vfm : Value) (sa : Addr) (so : Addr) (ra : Addr) (ka : ClassId) (vsa : (List Value)) (cc : Int32) (h0 : Heap) (n0 : Nat) (v : Option Value) (h : Heap) (L : List Loc) : Prop := ∃ (rb : Addr) (kb : ClassId) (vsn : (List Value)), (v = none) ∧ (Fr n0 L) ∧ (Keep h0 h [sa]) ∧ (Exa Z h sa "java/lang/String") ∧ (Fld Z h sa "java/lang/String" "value" "[B" (.ref rb)) ∧ (Fld Z h sa "java/lang/String" "coder" "B" (.int (0 : Int32))) ∧ (Arv Z h rb kb .byte cc vsn (.int (0 : Int32))) ∧ (h0.size ≤ rb) ∧ (vsn = cpl vsa [] (0 : Int32) (0 : Int32) cc cc)
set_option maxRecDepth 65536 in
set_option maxHeartbeats 40000000 in
theorem rmSI1 (l : Launch) (Z : State) (a0 : Array Value) (hw : ∀ d ∈ tables_1, d.before a0 Z = true) (ws : List Jvm.Cond) (vcs : Int32) (vfm : Value) (G : Gh Z vcs vfm) (sa : Addr) (so : Addr) (ra : Addr) (ka : ClassId) (vsa : (List Value)) (cc : Int32) (h0 : Heap) (n0 : Nat) (O0 : Old Z n0 h0) (EX : Exa Z h0 so "java/lang/StringBuilder") (FV : Fld Z h0 so "java/lang/AbstractStringBuilder" "value" "[B" (.ref ra)) (FC : Fld Z h0 so "java/lang/AbstractStringBuilder" "coder" "B" (.int (0 : Int32))) (FN : Fld Z h0 so "java/lang/AbstractStringBuilder" "count" "I" (.int cc)) (VA : Arv Z h0 ra ka .byte (16 : Int32) vsa (.int (0 : Int32))) (hc0 : ¬ (cc < (0 : Int32))) (hc1 : cc < (16 : Int32)) (hc2 : ¬ (cc = (16 : Int32))) (EA : Exa Z h0 sa "java/lang/String") (FVs : Fld Z h0 sa "java/lang/String" "value" "[B" .null) (FCs : Fld Z h0 sa "java/lang/String" "coder" "B" (.int (0 : Int32))) (g_sa : n0 ≤ sa) :
    MetFree l (⟨"java/lang/String", "<init>", "(Ljava/lang/StringBuilder;)V"⟩ : MethodName) (head1 (Jvm.Cond.code (⟨"java/lang/String", "<init>", "(Ljava/lang/StringBuilder;)V"⟩ : MethodName) jdk_42_method_53_code 2 none :: ws) ({ frames := 4, cells := 1, slots := 16, locals := 87 } : Room)) (fun aa' UU' => aa' = #[(.ref sa), (.ref so)] ∧ Z.Warmed39 UU'.vm ∧ UU'.heap = h0) (fun _ _ _ _ _ => True) (fun _ UU' oo' VV' => ∃ v' L', oo' = .returned v' ∧ QrmSI1 Z vcs vfm sa so ra ka vsa cc h0 n0 v' VV'.heap L' ∧ FrameEnd UU' oo' VV' L' ({ frames := 4, cells := 1, slots := 16, locals := 87 } : Room).cells ({ frames := 4, cells := 1, slots := 16, locals := 87 } : Room).slots) := by
  refine MetFree.of_bodySF (plainFor_of_name pn_19) hisR ?_
  intro p e s m args below meth c s₁ Bd hml0 hP hK
  obtain ⟨rfl, hZ, hh⟩ := hP
  have hx := Bd.exec
  have hby := Bd.bytes
  have hlk := Bd.notSynchronized
  have hml : c.maxLocals = 2 := hml0
  have hown : s.vm.findClass "java/lang/String" = some m.cls := findClass_of_methodNamed Bd.named
  have hnm := (name_of_methodNamed Bd.named Bd.method).1
  have hret := Bd.returns
  have X0 : Stand p l e ({ frames := 4, cells := 1, slots := 16, locals := 87 } : Room) s m #[(.ref sa), (.ref so)] below meth c s₁ [] 0 0 := Stand.of_body Bd
  have e0 : s₁.heap = h0 := by rw [← hh, Bd.state]; rfl
  have N0 := Fr.nil n0
  have KC0 : Keep h0 h0 [sa] := Keep.refl _ _
  refine Go.body ?_
  obtain ⟨Pf, hPf⟩ : ∃ P, P = Fin' s below ({ frames := 4, cells := 1, slots := 16, locals := 87 } : Room).cells ({ frames := 4, cells := 1, slots := 16, locals := 87 } : Room).slots (QrmSI1 Z vcs vfm sa so ra ka vsa cc h0 n0) := ⟨_, rfl⟩
  rw [← hPf]
  refine Go.cast (ef_rmSI1 m) ?_
  have hw7 := (hw _ (List.mem_of_getElem? (i := 7) rfl))
  have hw124 := (hw _ (List.mem_of_getElem? (i := 124) rfl))
  have hw125 := (hw _ (List.mem_of_getElem? (i := 125) rfl))
  have hw126 := (hw _ (List.mem_of_getElem? (i := 126) rfl))
  show Go p.tables e below Pf (s₁.setTop (mkF m 0 #[vr sa, vr so] []))
  refine Go.by' (fun t k => (XS.aloadN X0.here hx rfl (hb hby d19_0) rfl rfl (XS.aloadN X0.here hx rfl (hb hby d19_1) rfl rfl (XS.aconstNull X0.here hx rfl (hb hby d19_2) k)))) ?_
  obtain ⟨_, _, ⟨T114, L114, k114, n114⟩, -, X114, ⟨Lc114, hQ114, l114, y114, z114⟩, st114⟩ := X0.specialBack hx (y := (⟨"java/lang/String", "<init>", "(Ljava/lang/AbstractStringBuilder;Ljava/lang/Void;)V"⟩ : MethodName)) rfl hown (mvT hZ hw124) (mvT hZ hw125) (mvT hZ hw126) (by decide) (backOf (W := 0) (rmSI2 l Z a0 hw [] vcs vfm G sa so ra ka vsa cc h0 n0 O0 EX FV FC FN VA hc0 hc1 hc2 EA FVs FCs g_sa) hZ hw126 hw7 (by decide) (by decide)) (g := (mkF m 3 #[vr sa, vr so] [.null, (.ref so), (.ref sa)])) rfl (by rw [hml]; rfl) (Steps.refl _) (a := sa) (argsL := [(.ref so), .null]) (rest := []) (lenOf pd_16 rfl) rfl (by show 2 * 0 + _ ≤ _; exact Nat.le_of_eq rfl) (hb hby d19_3) (fun _ _ => ⟨rfl, e0, (by decide : 0 + 1 ≤ _), (by decide : 0 + 16 ≤ _)⟩)
  dsimp only [Pt.U, Pt.locs, Pt.cells, Pt.slots] at X114 l114 y114 z114 st114 hQ114
  subst l114 y114 z114
  obtain ⟨rb_114, kb_114, vsn_114, rfl, N114q, K114, f114_0, f114_1, f114_2, f114_3, f114_4, r114_0⟩ := hQ114
  have N114 := Fr.app N0 N114q
  obtain ⟨lc114, X114, N114⟩ := own_pack X114 N114
  refine Go.by' (fun t k => st114.trans k) ?_
  have g_rb_114 : n0 ≤ rb_114 := Nat.le_trans (own_le O0) f114_4
  have sz_rb_114 : h0.size ≤ rb_114 := Nat.le_trans KC0.1 f114_4
  have O114 := O0.keep K114 (allS g_sa all0)
  have KC114 : Keep h0 T114.heap [sa] := KC0.trans K114 (allS (Or.inl (List.mem_of_getElem? (i := 0) rfl)) all0)
  show Go p.tables e below Pf (T114.setTop (mkF m 6 #[vr sa, vr so] []))
  rw [hPf]
  exact Go.retV' X114 hx hret hlk (hb hby d19_6) (by decide) (by decide) ⟨rb_114, kb_114, vsn_114, rfl, N114, KC114, f114_0, f114_1, f114_2, f114_3, sz_rb_114, r114_0⟩
theorem d18_0 : decode jdk_67_method_42_code 0 = .ok (.new 18, 3) := by decide +kernel
theorem d18_3 : decode jdk_67_method_42_code 3 = .ok (.dup, 1) := by decide +kernel
theorem d18_4 : decode jdk_67_method_42_code 4 = .ok (.aload_n 0, 1) := by decide +kernel
theorem d18_5 : decode jdk_67_method_42_code 5 = .ok (.invokespecial 137, 3) := by decide +kernel
theorem pd_17 : parseMethodDescriptor "(Ljava/lang/StringBuilder;)V" = some ⟨[(.object "java/lang/StringBuilder")], none⟩ := by decide +kernel
theorem d18_8 : decode jdk_67_method_42_code 8 = .ok (.areturn, 1) := by decide +kernel
theorem pn_18 : plainName "java/lang/StringBuilder" = true := by first | (simp [plainName, overriddenIn]; done) | decide +kernel
set_option maxHeartbeats 4000000 in
theorem ef_rmTS (m : MethodId) {so : Addr} : entryFrame m #[(.ref so)] 1 = mkF m 0 #[vr so] [] := by first | (simp [entryFrame, mkF, argsToLocals, Value.category]; done) | rfl
def QrmTS (Z : State) (vcs : Int32) (vfm : Value) (so : Addr) (ra : Addr) (ka : ClassId) (vsa : (List Value)) (cc : Int32) (h0 : Heap) (n0 : Nat) (v : Option Value) (h : Heap) (L : List Loc) : Prop := ∃ (r : Addr) (rb : Addr) (kb : ClassId) (vsn : (List Value)), (v = some (.ref r)) ∧ (Fr n0 L) ∧ (Keep h0 h []) ∧ (h0.size ≤ r) ∧ (Exa Z h r "java/lang/String") ∧ (Fld Z h r "java/lang/String" "value" "[B" (.ref rb)) ∧ (Fld Z h r "java/lang/String" "coder" "B" (.int (0 : Int32))) ∧ (Arv Z h rb kb .byte cc vsn (.int (0 : Int32))) ∧ (h0.size ≤ rb) ∧ (vsn = cpl vsa [] (0 : Int32) (0 : Int32) cc cc)
set_option maxRecDepth 65536 in
set_option maxHeartbeats 40000000 in
theorem rmTS (l : Launch) (Z : State) (a0 : Array Value) (hw : ∀ d ∈ tables_1, d.before a0 Z = true) (ws : List Jvm.Cond) (vcs : Int32) (vfm : Value) (G : Gh Z vcs vfm) (so : Addr) (ra : Addr) (ka : ClassId) (vsa : (List Value)) (cc : Int32) (h0 : Heap) (n0 : Nat) (O0 : Old Z n0 h0) (EX : Exa Z h0 so "java/lang/StringBuilder") (FV : Fld Z h0 so "java/lang/AbstractStringBuilder" "value" "[B" (.ref ra)) (FC : Fld Z h0 so "java/lang/AbstractStringBuilder" "coder" "B" (.int (0 : Int32))) (FN : Fld Z h0 so "java/lang/AbstractStringBuilder" "count" "I" (.int cc)) (VA : Arv Z h0 ra ka .byte (16 : Int32) vsa (.int (0 : Int32))) (hc0 : ¬ (cc < (0 : Int32))) (hc1 : cc < (16 : Int32)) (hc2 : ¬ (cc = (16 : Int32))) :
    MetFree l (⟨"java/lang/StringBuilder", "toString", "()Ljava/lang/String;"⟩ : MethodName) (head1 (Jvm.Cond.code (⟨"java/lang/StringBuilder", "toString", "()Ljava/lang/String;"⟩ : MethodName) jdk_67_method_42_code 1 (some (.object "java/lang/String")) :: ws) ({ frames := 5, cells := 2, slots := 20, locals := 101 } : Room)) (fun aa' UU' => aa' = #[(.ref so)] ∧ Z.Warmed39 UU'.vm ∧ UU'.heap = h0) (fun _ _ _ _ _ => True) (fun _ UU' oo' VV' => ∃ v' L', oo' = .returned v' ∧ QrmTS Z vcs vfm so ra ka vsa cc h0 n0 v' VV'.heap L' ∧ FrameEnd UU' oo' VV' L' ({ frames := 5, cells := 2, slots := 20, locals := 101 } : Room).cells ({ frames := 5, cells := 2, slots := 20, locals := 101 } : Room).slots) := by
  refine MetFree.of_bodySF (plainFor_of_name pn_18) hisR ?_
  intro p e s m args below meth c s₁ Bd hml0 hP hK
  obtain ⟨rfl, hZ, hh⟩ := hP
  have hx := Bd.exec
  have hby := Bd.bytes
  have hlk := Bd.notSynchronized
  have hml : c.maxLocals = 1 := hml0
  have hown : s.vm.findClass "java/lang/StringBuilder" = some m.cls := findClass_of_methodNamed Bd.named
  have hnm := (name_of_methodNamed Bd.named Bd.method).1
  have hret := Bd.returns
  have X0 : Stand p l e ({ frames := 5, cells := 2, slots := 20, locals := 101 } : Room) s m #[(.ref so)] below meth c s₁ [] 0 0 := Stand.of_body Bd
  have e0 : s₁.heap = h0 := by rw [← hh, Bd.state]; rfl
  have N0 := Fr.nil n0
  have KC0 : Keep h0 h0 [] := Keep.refl _ _
  refine Go.body ?_
  obtain ⟨Pf, hPf⟩ : ∃ P, P = Fin' s below ({ frames := 5, cells := 2, slots := 20, locals := 101 } : Room).cells ({ frames := 5, cells := 2, slots := 20, locals := 101 } : Room).slots (QrmTS Z vcs vfm so ra ka vsa cc h0 n0) := ⟨_, rfl⟩
  rw [← hPf]
  refine Go.cast (ef_rmTS m) ?_
  have hw6 := (hw _ (List.mem_of_getElem? (i := 6) rfl))
  have hw7 := (hw _ (List.mem_of_getElem? (i := 7) rfl))
  have hw21 := (hw _ (List.mem_of_getElem? (i := 21) rfl))
  have hw22 := (hw _ (List.mem_of_getElem? (i := 22) rfl))
  have hw120 := (hw _ (List.mem_of_getElem? (i := 120) rfl))
  have hw121 := (hw _ (List.mem_of_getElem? (i := 121) rfl))
  have hw122 := (hw _ (List.mem_of_getElem? (i := 122) rfl))
  have hw123 := (hw _ (List.mem_of_getElem? (i := 123) rfl))
  obtain ⟨T115, h115, X115, e115, E115, A115, D115, -, st115⟩ := newO X0 hx hZ hown hw120 hw6 hw7 e0 (g := (mkF m 0 #[vr so] [])) rfl (hb hby d18_0) (by decide) (by decide)
  obtain ⟨b115, g115⟩ : ∃ z, z = h0.size := ⟨_, rfl⟩
  rw [← g115] at A115 D115 st115
  refine Go.by' st115 ?_
  have g_b115 : n0 ≤ b115 := Nat.le_trans (own_le O0) (Nat.le_of_eq g115.symm)
  have sz_b115 : h0.size ≤ b115 := Nat.le_trans KC0.1 (Nat.le_of_eq g115.symm)
  have O115 := O0.ext E115
  have KC115 : Keep h0 h115 [] := KC0.ext E115
  have Fn115_21 : Fld Z h115 b115 "java/lang/String" "value" "[B" Value.null := D115 (Or.inr hw21) (ty := (.array .byte)) (by decide)
  have Fn115_22 : Fld Z h115 b115 "java/lang/String" "coder" "B" (Value.int (0 : Int32)) := D115 (Or.inr hw22) (ty := .byte) (by decide)
  show Go p.tables e below Pf (T115.setTop (mkF m 3 #[vr so] [(.ref b115)]))
  refine Go.by' (fun t k => (XS.dup X115.here hx rfl (hb hby d18_3) rfl rfl (XS.aloadN X115.here hx rfl (hb hby d18_4) rfl rfl k))) ?_
  obtain ⟨_, _, ⟨T116, L116, k116, n116⟩, -, X116, ⟨Lc116, hQ116, l116, y116, z116⟩, st116⟩ := X115.specialBack hx (y := (⟨"java/lang/String", "<init>", "(Ljava/lang/StringBuilder;)V"⟩ : MethodName)) rfl hown (mvT hZ hw121) (mvT hZ hw122) (mvT hZ hw123) (by decide) (backOf (W := 1) (rmSI1 l Z a0 hw [] vcs vfm G b115 so ra ka vsa cc h115 n0 O115 (EX.ext E115) (FV.ext E115) (FC.ext E115) (FN.ext E115) (VA.ext E115) hc0 hc1 hc2 A115 Fn115_21 Fn115_22 g_b115) hZ hw123 hw7 (by decide) (by decide)) (g := (mkF m 5 #[vr so] [(.ref so), (.ref b115), (.ref b115)])) rfl (by rw [hml]; rfl) (Steps.refl _) (a := b115) (argsL := [(.ref so)]) (rest := [(.ref b115)]) (lenOf pd_17 rfl) rfl (by show 2 * 0 + _ ≤ _; exact Nat.le_of_eq rfl) (hb hby d18_5) (fun _ _ => ⟨rfl, e115, (by decide : 1 + 1 ≤ _), (by decide : 4 + 16 ≤ _)⟩)
  dsimp only [Pt.U, Pt.locs, Pt.cells, Pt.slots] at X116 l116 y116 z116 st116 hQ116
  subst l116 y116 z116
  obtain ⟨rb_116, kb_116, vsn_116, rfl, N116q, K116, f116_0, f116_1, f116_2, f116_3, f116_4, r116_0⟩ := hQ116
  have N116 := Fr.app N0 N116q
  obtain ⟨lc116, X116, N116⟩ := own_pack X116 N116
  refine Go.by' (fun t k => st116.trans k) ?_
  have g_rb_116 : n0 ≤ rb_116 := Nat.le_trans (own_le O115) f116_4
  have sz_rb_116 : h0.size ≤ rb_116 := Nat.le_trans KC115.1 f116_4
  have O116 := O115.keep K116 (allS g_b115 all0)
  have KC116 : Keep h0 T116.heap [] := KC115.trans K116 (allS (Or.inr sz_b115) all0)
  show Go p.tables e below Pf (T116.setTop (mkF m 8 #[vr so] [(.ref b115)]))
  rw [hPf]
  exact Go.retA' X116 hx hret hlk rfl rfl (hb hby d18_8) (by decide) (by decide) ⟨b115, rb_116, kb_116, vsn_116, rfl, N116, KC116, sz_b115, f116_0, f116_1, f116_2, f116_3, sz_rb_116, r116_0⟩
theorem d1_0 : decode method_3_code 0 = .ok (.iload_n 0, 1) := by decide +kernel
theorem d1_1 : decode method_3_code 1 = .ok (.ifCond .ne 14, 3) := by decide +kernel
theorem d1_4 : decode method_3_code 4 = .ok (.new 24, 3) := by decide +kernel
theorem d1_7 : decode method_3_code 7 = .ok (.dup, 1) := by decide +kernel
theorem d1_8 : decode method_3_code 8 = .ok (.iconst 0, 1) := by decide +kernel
theorem d1_9 : decode method_3_code 9 = .ok (.newarray .char, 2) := by decide +kernel
theorem d1_11 : decode method_3_code 11 = .ok (.invokespecial 33, 3) := by decide +kernel
theorem pd_18 : parseMethodDescriptor "([C)V" = some ⟨[(.array .char)], none⟩ := by decide +kernel
theorem d1_14 : decode method_3_code 14 = .ok (.areturn, 1) := by decide +kernel
theorem pn_1 : plainName "com/example/slatewipe/slatewipe/TableQualifiedNamePinLaw" = true := by first | (simp [plainName, overriddenIn]; done) | decide +kernel
set_option maxHeartbeats 4000000 in
theorem ef_rmMk_0 (m : MethodId) {c0 : Int32} {c1 : Int32} : entryFrame m #[(.int (0 : Int32)), (.int c0), (.int c1)] 4 = mkF m 0 #[vi (0 : Int32), vi c0, vi c1, .unset] [] := by first | (simp [entryFrame, mkF, argsToLocals, Value.category]; done) | rfl
def QrmMk_0 (Z : State) (vcs : Int32) (vfm : Value) (c0 : Int32) (c1 : Int32) (h0 : Heap) (n0 : Nat) (v : Option Value) (h : Heap) (vm : Vm) (L : List Loc) : Prop := ∃ (r : Addr) (rb : Addr) (kb : ClassId), (v = some (.ref r)) ∧ (Fr n0 L) ∧ (Keep h0 h []) ∧ (Exa Z h r "java/lang/String") ∧ (h0.size ≤ r) ∧ (Fld Z h r "java/lang/String" "value" "[B" (.ref rb)) ∧ (Fld Z h r "java/lang/String" "coder" "B" (.int (0 : Int32))) ∧ (Arv Z h rb kb .byte (0 : Int32) [] (.int (0 : Int32)))
set_option maxRecDepth 65536 in
set_option maxHeartbeats 40000000 in
theorem rmMk_0 (l : Launch) (Z : State) (a0 : Array Value) (hw : ∀ d ∈ tables_1, d.before a0 Z = true) (ws : List Jvm.Cond) (vcs : Int32) (vfm : Value) (G : Gh Z vcs vfm) (c0 : Int32) (c1 : Int32) (h0 : Heap) (n0 : Nat) (O0 : Old Z n0 h0) :
    MetFree l (⟨"com/example/slatewipe/slatewipe/TableQualifiedNamePinLaw", "make", "(ICC)Ljava/lang/String;"⟩ : MethodName) (head1 (Jvm.Cond.code (⟨"com/example/slatewipe/slatewipe/TableQualifiedNamePinLaw", "make", "(ICC)Ljava/lang/String;"⟩ : MethodName) method_3_code 4 (some (.object "java/lang/String")) :: ws) ({ frames := 3, cells := 6, slots := 12, locals := 43 } : Room)) (fun aa' UU' => aa' = #[(.int (0 : Int32)), (.int c0), (.int c1)] ∧ Z.Warmed39 UU'.vm ∧ UU'.heap = h0 ∧ CHv Z consts_1 UU'.vm h0 ∧ ∀ x ∈ ([] : List Addr), Safe Z consts_1 UU'.vm h0 x) (fun _ _ _ _ _ => True) (fun _ UU' oo' VV' => ∃ v' L', oo' = .returned v' ∧ QrmMk_0 Z vcs vfm c0 c1 h0 n0 v' VV'.heap VV'.vm L' ∧ CHr Z consts_1 UU'.vm UU'.heap VV'.vm VV'.heap ∧ ReturnedEndW UU' oo' VV' L' ({ frames := 3, cells := 6, slots := 12, locals := 43 } : Room).cells ({ frames := 3, cells := 6, slots := 12, locals := 43 } : Room).slots) := by
  refine MetFree.of_bodySF (plainFor_of_name pn_1) hisR ?_
  intro p e s m args below meth c s₁ Bd hml0 hP hK
  obtain ⟨rfl, hZ, hh, hCH, hSf⟩ := hP
  have hx := Bd.exec
  have hby := Bd.bytes
  have hlk := Bd.notSynchronized
  have hml : c.maxLocals = 4 := hml0
  have hown : s.vm.findClass "com/example/slatewipe/slatewipe/TableQualifiedNamePinLaw" = some m.cls := findClass_of_methodNamed Bd.named
  have hnm := (name_of_methodNamed Bd.named Bd.method).1
  have hret := Bd.returns
  have X0 : Stand p l e ({ frames := 3, cells := 6, slots := 12, locals := 43 } : Room) (s.setVm s.vm) m #[(.int (0 : Int32)), (.int c0), (.int c1)] below meth c s₁ [] 0 0 := Stand.of_body Bd
  have e0 : s₁.heap = h0 := by rw [← hh, Bd.state]; rfl
  have N0 := Fr.nil n0
  have KC0 : Keep h0 h0 [] := Keep.refl _ _
  have Sb0 := Sb.start hZ hown hCH
  have hEL := own_EW hw
  have hSA := own_SA hw
  refine Go.bodyS ?_
  obtain ⟨Pf, hPf⟩ : ∃ P, P = FinS Z consts_1 s below ({ frames := 3, cells := 6, slots := 12, locals := 43 } : Room).cells ({ frames := 3, cells := 6, slots := 12, locals := 43 } : Room).slots (QrmMk_0 Z vcs vfm c0 c1 h0 n0) := ⟨_, rfl⟩
  rw [← hPf]
  refine Go.cast (ef_rmMk_0 m) ?_
  have hw5 := (hw _ (List.mem_of_getElem? (i := 5) rfl))
  have hw6 := (hw _ (List.mem_of_getElem? (i := 6) rfl))
  have hw7 := (hw _ (List.mem_of_getElem? (i := 7) rfl))
  have hw8 := (hw _ (List.mem_of_getElem? (i := 8) rfl))
  have hw9 := (hw _ (List.mem_of_getElem? (i := 9) rfl))
  have hw10 := (hw _ (List.mem_of_getElem? (i := 10) rfl))
  have hw11 := (hw _ (List.mem_of_getElem? (i := 11) rfl))
  have hw21 := (hw _ (List.mem_of_getElem? (i := 21) rfl))
  have hw22 := (hw _ (List.mem_of_getElem? (i := 22) rfl))
  show Go p.tables e below Pf (s₁.setTop (mkF m 0 #[vi (0 : Int32), vi c0, vi c1, .unset] []))
  refine Go.by' (fun t k => (XS.iloadN X0.here hx rfl (hb hby d1_0) rfl (XS.ifNo X0.here hx rfl (hb hby d1_1) rfl ((if0 _ _).trans (teq (by decide)).2) k))) ?_
  obtain ⟨T117, h117, X117, e117, E117, A117, D117, -, st117⟩ := newO X0 hx hZ hown hw5 hw6 hw7 e0 (g := (mkF m 4 #[vi (0 : Int32), vi c0, vi c1, .unset] [])) rfl (hb hby d1_4) (by decide) (by decide)
  obtain ⟨b117, g117⟩ : ∃ z, z = h0.size := ⟨_, rfl⟩
  rw [← g117] at A117 D117 st117
  refine Go.by' st117 ?_
  have Sf_b117 : Safe Z consts_1 s.vm h0 b117 := Safe.new (Nat.le_of_eq g117.symm)
  have g_b117 : n0 ≤ b117 := Nat.le_trans (own_le O0) (Nat.le_of_eq g117.symm)
  have sz_b117 : h0.size ≤ b117 := Nat.le_trans KC0.1 (Nat.le_of_eq g117.symm)
  have Sb117 := Sb0.ext E117
  have O117 := O0.ext E117
  have KC117 : Keep h0 h117 [] := KC0.ext E117
  have Fn117_21 : Fld Z h117 b117 "java/lang/String" "value" "[B" Value.null := D117 (Or.inr hw21) (ty := (.array .byte)) (by decide)
  have Fn117_22 : Fld Z h117 b117 "java/lang/String" "coder" "B" (Value.int (0 : Int32)) := D117 (Or.inr hw22) (ty := .byte) (by decide)
  show Go p.tables e below Pf (T117.setTop (mkF m 7 #[vi (0 : Int32), vi c0, vi c1, .unset] [(.ref b117)]))
  refine Go.by' (fun t k => (XS.dup X117.here hx rfl (hb hby d1_7) rfl rfl (XS.iconst X117.here hx rfl (hb hby d1_8) k))) ?_
  obtain ⟨T118, h118, k118, X118, e118, E118, A118, st118⟩ := newP (aty := .char) X117 hx hZ hw8 e117 (g := (mkF m 9 #[vi (0 : Int32), vi c0, vi c1, .unset] [(.int (0 : Int32)), (.ref b117), (.ref b117)])) rfl (hb hby d1_9) rfl (by decide) (cap := 0) (by decide) (by decide) (by decide) (by decide)
  obtain ⟨b118, g118⟩ : ∃ z, z = h117.size := ⟨_, rfl⟩
  rw [← g118] at A118 st118
  refine Go.by' st118 ?_
  have Sf_b118 : Safe Z consts_1 s.vm h117 b118 := Safe.new (Nat.le_of_eq g118.symm)
  have g_b118 : n0 ≤ b118 := Nat.le_trans (own_le O117) (Nat.le_of_eq g118.symm)
  have sz_b118 : h0.size ≤ b118 := Nat.le_trans KC117.1 (Nat.le_of_eq g118.symm)
  have Sb118 := Sb117.ext E118
  have O118 := O117.ext E118
  have KC118 : Keep h0 h118 [] := KC117.ext E118
  have V118 : Arv Z h118 b118 k118 .char (0 : Int32) [] (Value.int (0 : Int32)) := (Arv.new A118 (by decide)).pad (pad_rep [] (Value.int (0 : Int32)) 0)
  obtain ⟨_, _, ⟨T119, L119, k119, n119⟩, -, X119, Si119, Gr119, ⟨Lc119, hQ119, l119, y119, z119, A119⟩, st119⟩ := X118.specialBackS hx (y := (⟨"java/lang/String", "<init>", "([C)V"⟩ : MethodName)) rfl hown (mvT hZ hw9) (mvT hZ hw10) (mvT hZ hw11) (by decide) (own_backS (W := 1) (rmS1_0 l Z a0 hw [] vcs vfm G b117 b118 k118 h118 n0 O118 (A117.ext E118) (Fn117_21.ext E118) (Fn117_22.ext E118) g_b117 V118) Sb118 hw11 hw7 (by decide) (by decide) hEL (allS ⟨(Nat.lt_of_lt_of_le A117.lt E118.1), (Safe.ext E118 Sb117.ch (Safe.ext E117 Sb0.ch Sf_b117))⟩ all0)) (g := (mkF m 11 #[vi (0 : Int32), vi c0, vi c1, .unset] [(.ref b118), (.ref b117), (.ref b117)])) rfl (by rw [hml]; rfl) (Steps.refl _) (a := b117) (argsL := [(.ref b118)]) (rest := [(.ref b117)]) (lenOf pd_18 rfl) rfl (by show 2 * 0 + _ ≤ _; exact Nat.le_of_eq rfl) (hb hby d1_11) (fun _ _ => ⟨rfl, e118, (by decide : 2 + 4 ≤ _), (by decide : 4 + 8 ≤ _)⟩)
  dsimp only [Pt.U, Pt.locs, Pt.cells, Pt.slots] at X119 l119 y119 z119 st119 hQ119 Si119 Gr119 A119
  subst l119 y119 z119
  obtain ⟨rb_119, kb_119, rfl, N119q, K119, f119_0, f119_1, f119_2, f119_3, f119_4⟩ := hQ119
  have N119 := Fr.app N0 N119q
  obtain ⟨lc119, X119, N119⟩ := own_pack X119 N119
  replace X119 := own_reb X119
  have Sb119 := Sb118.called Si119 (by rw [← e118]; exact Gr119) A119
  have hZ119 := Sb119.hZ
  have hO119 := Sb119.hO
  refine Go.by' (fun t k => st119.trans k) ?_
  have O119 := O118.keep K119 (allS g_b117 all0)
  have KC119 : Keep h0 T119.heap [] := KC118.trans K119 (allS (Or.inr sz_b117) all0)
  show Go p.tables e below Pf (T119.setTop (mkF m 14 #[vi (0 : Int32), vi c0, vi c1, .unset] [(.ref b117)]))
  rw [hPf]
  exact Go.retAS X119 hx hEL Sb119 rfl hh hret hlk rfl rfl (hb hby d1_14) (by decide) (by decide) ⟨b117, rb_119, kb_119, rfl, N119, KC119, f119_0, sz_b117, f119_1, f119_2, f119_3⟩
theorem d1_15 : decode method_3_code 15 = .ok (.iload_n 0, 1) := by decide +kernel
theorem d1_16 : decode method_3_code 16 = .ok (.iconst 1, 1) := by decide +kernel
theorem d1_17 : decode method_3_code 17 = .ok (.if_icmp .ne 20, 3) := by decide +kernel
theorem d1_20 : decode method_3_code 20 = .ok (.iconst 1, 1) := by decide +kernel
theorem d1_21 : decode method_3_code 21 = .ok (.newarray .char, 2) := by decide +kernel
theorem d1_23 : decode method_3_code 23 = .ok (.astore_n 3, 1) := by decide +kernel
theorem d1_24 : decode method_3_code 24 = .ok (.aload_n 3, 1) := by decide +kernel
theorem d1_25 : decode method_3_code 25 = .ok (.iconst 0, 1) := by decide +kernel
theorem d1_26 : decode method_3_code 26 = .ok (.iload_n 1, 1) := by decide +kernel
theorem d1_27 : decode method_3_code 27 = .ok (.castore, 1) := by decide +kernel
theorem d1_28 : decode method_3_code 28 = .ok (.new 24, 3) := by decide +kernel
theorem d1_31 : decode method_3_code 31 = .ok (.dup, 1) := by decide +kernel
theorem d1_32 : decode method_3_code 32 = .ok (.aload_n 3, 1) := by decide +kernel
theorem d1_33 : decode method_3_code 33 = .ok (.invokespecial 33, 3) := by decide +kernel
theorem d1_36 : decode method_3_code 36 = .ok (.areturn, 1) := by decide +kernel
set_option maxHeartbeats 4000000 in
theorem ef_rmMk_1 (m : MethodId) {c0 : Int32} {c1 : Int32} : entryFrame m #[(.int (1 : Int32)), (.int c0), (.int c1)] 4 = mkF m 0 #[vi (1 : Int32), vi c0, vi c1, .unset] [] := by first | (simp [entryFrame, mkF, argsToLocals, Value.category]; done) | rfl
def QrmMk_1 (Z : State) (vcs : Int32) (vfm : Value) (c0 : Int32) (c1 : Int32) (h0 : Heap) (n0 : Nat) (v : Option Value) (h : Heap) (L : List Loc) : Prop := ∃ (r : Addr) (rb : Addr) (kb : ClassId), (v = some (.ref r)) ∧ (Fr n0 L) ∧ (Keep h0 h []) ∧ (Exa Z h r "java/lang/String") ∧ (h0.size ≤ r) ∧ (Fld Z h r "java/lang/String" "value" "[B" (.ref rb)) ∧ (Fld Z h r "java/lang/String" "coder" "B" (.int (0 : Int32))) ∧ (Arv Z h rb kb .byte (1 : Int32) [(.int (c0.toInt8.toInt32))] (.int (0 : Int32))) ∧ (h0.size ≤ rb)
set_option maxRecDepth 65536 in
set_option maxHeartbeats 40000000 in
theorem rmMk_1 (l : Launch) (Z : State) (a0 : Array Value) (hw : ∀ d ∈ tables_1, d.before a0 Z = true) (ws : List Jvm.Cond) (vcs : Int32) (vfm : Value) (G : Gh Z vcs vfm) (c0 : Int32) (c1 : Int32) (h0 : Heap) (n0 : Nat) (O0 : Old Z n0 h0) (hl0 : ¬ (c0 < (0 : Int32))) (hb0 : ¬ ((255 : Int32) < c0)) :
    MetFree l (⟨"com/example/slatewipe/slatewipe/TableQualifiedNamePinLaw", "make", "(ICC)Ljava/lang/String;"⟩ : MethodName) (head1 (Jvm.Cond.code (⟨"com/example/slatewipe/slatewipe/TableQualifiedNamePinLaw", "make", "(ICC)Ljava/lang/String;"⟩ : MethodName) method_3_code 4 (some (.object "java/lang/String")) :: ws) ({ frames := 4, cells := 3, slots := 6, locals := 66 } : Room)) (fun aa' UU' => aa' = #[(.int (1 : Int32)), (.int c0), (.int c1)] ∧ Z.Warmed39 UU'.vm ∧ UU'.heap = h0) (fun _ _ _ _ _ => True) (fun _ UU' oo' VV' => ∃ v' L', oo' = .returned v' ∧ QrmMk_1 Z vcs vfm c0 c1 h0 n0 v' VV'.heap L' ∧ FrameEnd UU' oo' VV' L' ({ frames := 4, cells := 3, slots := 6, locals := 66 } : Room).cells ({ frames := 4, cells := 3, slots := 6, locals := 66 } : Room).slots) := by
  refine MetFree.of_bodySF (plainFor_of_name pn_1) hisR ?_
  intro p e s m args below meth c s₁ Bd hml0 hP hK
  obtain ⟨rfl, hZ, hh⟩ := hP
  have hx := Bd.exec
  have hby := Bd.bytes
  have hlk := Bd.notSynchronized
  have hml : c.maxLocals = 4 := hml0
  have hown : s.vm.findClass "com/example/slatewipe/slatewipe/TableQualifiedNamePinLaw" = some m.cls := findClass_of_methodNamed Bd.named
  have hnm := (name_of_methodNamed Bd.named Bd.method).1
  have hret := Bd.returns
  have X0 : Stand p l e ({ frames := 4, cells := 3, slots := 6, locals := 66 } : Room) s m #[(.int (1 : Int32)), (.int c0), (.int c1)] below meth c s₁ [] 0 0 := Stand.of_body Bd
  have e0 : s₁.heap = h0 := by rw [← hh, Bd.state]; rfl
  have N0 := Fr.nil n0
  have KC0 : Keep h0 h0 [] := Keep.refl _ _
  refine Go.body ?_
  obtain ⟨Pf, hPf⟩ : ∃ P, P = Fin' s below ({ frames := 4, cells := 3, slots := 6, locals := 66 } : Room).cells ({ frames := 4, cells := 3, slots := 6, locals := 66 } : Room).slots (QrmMk_1 Z vcs vfm c0 c1 h0 n0) := ⟨_, rfl⟩
  rw [← hPf]
  refine Go.cast (ef_rmMk_1 m) ?_
  have hw5 := (hw _ (List.mem_of_getElem? (i := 5) rfl))
  have hw6 := (hw _ (List.mem_of_getElem? (i := 6) rfl))
  have hw7 := (hw _ (List.mem_of_getElem? (i := 7) rfl))
  have hw8 := (hw _ (List.mem_of_getElem? (i := 8) rfl))
  have hw9 := (hw _ (List.mem_of_getElem? (i := 9) rfl))
  have hw10 := (hw _ (List.mem_of_getElem? (i := 10) rfl))
  have hw11 := (hw _ (List.mem_of_getElem? (i := 11) rfl))
  have hw21 := (hw _ (List.mem_of_getElem? (i := 21) rfl))
  have hw22 := (hw _ (List.mem_of_getElem? (i := 22) rfl))
  show Go p.tables e below Pf (s₁.setTop (mkF m 0 #[vi (1 : Int32), vi c0, vi c1, .unset] []))
  refine Go.by' (fun t k => (XS.iloadN X0.here hx rfl (hb hby d1_0) rfl (XS.ifYes X0.here hx rfl (pc0 := 1) (pc' := 15) rfl (hb hby d1_1) rfl ((if0 _ _).trans (feq (by decide)).2) (by decide) (by decide) (XS.iloadN X0.here hx rfl (hb hby d1_15) rfl (XS.iconst X0.here hx rfl (hb hby d1_16) (XS.icmpNo X0.here hx rfl (hb hby d1_17) rfl (teq (by decide)).2 (XS.iconst X0.here hx rfl (hb hby d1_20) k))))))) ?_
  obtain ⟨T120, h120, k120, X120, e120, E120, A120, st120⟩ := newP (aty := .char) X0 hx hZ hw8 e0 (g := (mkF m 21 #[vi (1 : Int32), vi c0, vi c1, .unset] [(.int (1 : Int32))])) rfl (hb hby d1_21) rfl (by decide) (cap := 1) (by decide) (by decide) (by decide) (by decide)
  obtain ⟨b120, g120⟩ : ∃ z, z = h0.size := ⟨_, rfl⟩
  rw [← g120] at A120 st120
  refine Go.by' st120 ?_
  have g_b120 : n0 ≤ b120 := Nat.le_trans (own_le O0) (Nat.le_of_eq g120.symm)
  have sz_b120 : h0.size ≤ b120 := Nat.le_trans KC0.1 (Nat.le_of_eq g120.symm)
  have O120 := O0.ext E120
  have KC120 : Keep h0 h120 [] := KC0.ext E120
  have V120 : Arv Z h120 b120 k120 .char (1 : Int32) [(.int (0 : Int32))] (Value.int (0 : Int32)) := (Arv.new A120 (by decide)).pad (pad_rep [] (Value.int (0 : Int32)) 1)
  show Go p.tables e below Pf (T120.setTop (mkF m 23 #[vi (1 : Int32), vi c0, vi c1, .unset] [(.ref b120)]))
  refine Go.by' (fun t k => (XS.astoreN X120.here hx rfl (hb hby d1_23) rfl rfl (l' := #[vi (1 : Int32), vi c0, vi c1, vr b120]) rfl (XS.aloadN X120.here hx rfl (hb hby d1_24) rfl rfl (XS.iconst X120.here hx rfl (hb hby d1_25) (XS.iloadN X120.here hx rfl (hb hby d1_26) rfl k))))) ?_
  obtain ⟨cl121, Ar121, q121, S121, P121, H121, G121⟩ := (id V120)
  have hin121 : ¬ ((0 : Int32) < 0 ∨ cl121.slots.size ≤ ((0 : Int32)).toNatClampNeg) := inb_of S121 ⟨by decide, by decide⟩
  obtain ⟨T122, h122, X122, e122, W122, st122⟩ := stC X120 hx hZ e120 Ar121 (j := (0 : Int32)) hin121 (g := (mkF m 27 #[vi (1 : Int32), vi c0, vi c1, vr b120] [(.int c0), (.int (0 : Int32)), (.ref b120)])) rfl rfl (hb hby d1_27)
  refine Go.by' st122 ?_
  rw [(own_nc hl0 hb0 : nar .char c0 = c0)] at W122
  have V122 : Arv Z h122 b120 k120 .char (1 : Int32) [(.int c0)] (Value.int (0 : Int32)) := Arv.set Ar121 q121 S121 P121 H121 G121 (by have q := fits_nar_char c0; rw [(own_nc hl0 hb0 : nar .char c0 = c0)] at q; exact q) W122 0 rfl (Nat.le_of_ble_eq_true rfl)
  have N122 := Fr.snoc X122 N0 g_b120
  obtain ⟨lc122, X122, N122⟩ := own_pack X122 N122
  have O122 := O120.wr W122 g_b120
  have KC122 : Keep h0 h122 [] := KC120.wr W122 (Or.inr sz_b120)
  obtain ⟨T123, h123, X123, e123, E123, A123, D123, -, st123⟩ := newO X122 hx hZ hown hw5 hw6 hw7 e122 (g := (mkF m 28 #[vi (1 : Int32), vi c0, vi c1, vr b120] [])) rfl (hb hby d1_28) (by decide) (by decide)
  obtain ⟨b123, g123⟩ : ∃ z, z = h122.size := ⟨_, rfl⟩
  rw [← g123] at A123 D123 st123
  refine Go.by' st123 ?_
  have g_b123 : n0 ≤ b123 := Nat.le_trans (own_le O122) (Nat.le_of_eq g123.symm)
  have sz_b123 : h0.size ≤ b123 := Nat.le_trans KC122.1 (Nat.le_of_eq g123.symm)
  have O123 := O122.ext E123
  have KC123 : Keep h0 h123 [] := KC122.ext E123
  have Fn123_21 : Fld Z h123 b123 "java/lang/String" "value" "[B" Value.null := D123 (Or.inr hw21) (ty := (.array .byte)) (by decide)
  have Fn123_22 : Fld Z h123 b123 "java/lang/String" "coder" "B" (Value.int (0 : Int32)) := D123 (Or.inr hw22) (ty := .byte) (by decide)
  show Go p.tables e below Pf (T123.setTop (mkF m 31 #[vi (1 : Int32), vi c0, vi c1, vr b120] [(.ref b123)]))
  refine Go.by' (fun t k => (XS.dup X123.here hx rfl (hb hby d1_31) rfl rfl (XS.aloadN X123.here hx rfl (hb hby d1_32) rfl rfl k))) ?_
  obtain ⟨_, _, ⟨T124, L124, k124, n124⟩, -, X124, ⟨Lc124, hQ124, l124, y124, z124⟩, st124⟩ := X123.specialBack hx (y := (⟨"java/lang/String", "<init>", "([C)V"⟩ : MethodName)) rfl hown (mvT hZ hw9) (mvT hZ hw10) (mvT hZ hw11) (by decide) (backOf (W := 1) (rmS1_1 l Z a0 hw [] vcs vfm G b123 b120 k120 c0 h123 n0 O123 A123 Fn123_21 Fn123_22 g_b123 (V122.ext E123) (Ne.symm (Nat.ne_of_lt (Nat.lt_of_lt_of_le (Nat.lt_of_lt_of_le V120.lt (Nat.le_of_eq W122.size.symm)) (Nat.le_of_eq g123.symm)))) hb0) hZ hw11 hw7 (by decide) (by decide)) (g := (mkF m 33 #[vi (1 : Int32), vi c0, vi c1, vr b120] [(.ref b120), (.ref b123), (.ref b123)])) rfl (by rw [hml]; rfl) (Steps.refl _) (a := b123) (argsL := [(.ref b120)]) (rest := [(.ref b123)]) (lenOf pd_18 rfl) rfl (by show 2 * 0 + _ ≤ _; exact Nat.le_of_eq rfl) (hb hby d1_33) (fun _ _ => ⟨rfl, e123, (by decide : 2 + 1 ≤ _), (by decide : 5 + 1 ≤ _)⟩)
  dsimp only [Pt.U, Pt.locs, Pt.cells, Pt.slots] at X124 l124 y124 z124 st124 hQ124
  subst l124 y124 z124
  obtain ⟨rb_124, kb_124, rfl, N124q, K124, f124_0, f124_1, f124_2, f124_3, f124_4⟩ := hQ124
  have N124 := Fr.app N122 N124q
  obtain ⟨lc124, X124, N124⟩ := own_pack X124 N124
  refine Go.by' (fun t k => st124.trans k) ?_
  have g_rb_124 : n0 ≤ rb_124 := Nat.le_trans (own_le O123) f124_4
  have sz_rb_124 : h0.size ≤ rb_124 := Nat.le_trans KC123.1 f124_4
  have O124 := O123.keep K124 (allS g_b123 all0)
  have KC124 : Keep h0 T124.heap [] := KC123.trans K124 (allS (Or.inr sz_b123) all0)
  show Go p.tables e below Pf (T124.setTop (mkF m 36 #[vi (1 : Int32), vi c0, vi c1, vr b120] [(.ref b123)]))
  rw [hPf]
  exact Go.retA' X124 hx hret hlk rfl rfl (hb hby d1_36) (by decide) (by decide) ⟨b123, rb_124, kb_124, rfl, N124, KC124, f124_0, sz_b123, f124_1, f124_2, f124_3, sz_rb_124⟩
theorem d1_37 : decode method_3_code 37 = .ok (.iconst 2, 1) := by decide +kernel
theorem d1_38 : decode method_3_code 38 = .ok (.newarray .char, 2) := by decide +kernel
theorem d1_40 : decode method_3_code 40 = .ok (.astore_n 3, 1) := by decide +kernel
theorem d1_41 : decode method_3_code 41 = .ok (.aload_n 3, 1) := by decide +kernel
theorem d1_42 : decode method_3_code 42 = .ok (.iconst 0, 1) := by decide +kernel
theorem d1_43 : decode method_3_code 43 = .ok (.iload_n 1, 1) := by decide +kernel
theorem d1_44 : decode method_3_code 44 = .ok (.castore, 1) := by decide +kernel
theorem d1_45 : decode method_3_code 45 = .ok (.aload_n 3, 1) := by decide +kernel
theorem d1_46 : decode method_3_code 46 = .ok (.iconst 1, 1) := by decide +kernel
theorem d1_47 : decode method_3_code 47 = .ok (.iload_n 2, 1) := by decide +kernel
theorem d1_48 : decode method_3_code 48 = .ok (.castore, 1) := by decide +kernel
theorem d1_49 : decode method_3_code 49 = .ok (.new 24, 3) := by decide +kernel
theorem d1_52 : decode method_3_code 52 = .ok (.dup, 1) := by decide +kernel
theorem d1_53 : decode method_3_code 53 = .ok (.aload_n 3, 1) := by decide +kernel
theorem d1_54 : decode method_3_code 54 = .ok (.invokespecial 33, 3) := by decide +kernel
theorem d1_57 : decode method_3_code 57 = .ok (.areturn, 1) := by decide +kernel
set_option maxHeartbeats 4000000 in
theorem ef_rmMk_2 (m : MethodId) {c0 : Int32} {c1 : Int32} : entryFrame m #[(.int (2 : Int32)), (.int c0), (.int c1)] 4 = mkF m 0 #[vi (2 : Int32), vi c0, vi c1, .unset] [] := by first | (simp [entryFrame, mkF, argsToLocals, Value.category]; done) | rfl
def QrmMk_2 (Z : State) (vcs : Int32) (vfm : Value) (c0 : Int32) (c1 : Int32) (h0 : Heap) (n0 : Nat) (v : Option Value) (h : Heap) (L : List Loc) : Prop := ∃ (r : Addr) (rb : Addr) (kb : ClassId), (v = some (.ref r)) ∧ (Fr n0 L) ∧ (Keep h0 h []) ∧ (Exa Z h r "java/lang/String") ∧ (h0.size ≤ r) ∧ (Fld Z h r "java/lang/String" "value" "[B" (.ref rb)) ∧ (Fld Z h r "java/lang/String" "coder" "B" (.int (0 : Int32))) ∧ (Arv Z h rb kb .byte (2 : Int32) [(.int (c0.toInt8.toInt32)), (.int (c1.toInt8.toInt32))] (.int (0 : Int32))) ∧ (h0.size ≤ rb)
set_option maxRecDepth 65536 in
set_option maxHeartbeats 40000000 in
theorem rmMk_2 (l : Launch) (Z : State) (a0 : Array Value) (hw : ∀ d ∈ tables_1, d.before a0 Z = true) (ws : List Jvm.Cond) (vcs : Int32) (vfm : Value) (G : Gh Z vcs vfm) (c0 : Int32) (c1 : Int32) (h0 : Heap) (n0 : Nat) (O0 : Old Z n0 h0) (hl0 : ¬ (c0 < (0 : Int32))) (hb0 : ¬ ((255 : Int32) < c0)) (hl1 : ¬ (c1 < (0 : Int32))) (hb1 : ¬ ((255 : Int32) < c1)) :
    MetFree l (⟨"com/example/slatewipe/slatewipe/TableQualifiedNamePinLaw", "make", "(ICC)Ljava/lang/String;"⟩ : MethodName) (head1 (Jvm.Cond.code (⟨"com/example/slatewipe/slatewipe/TableQualifiedNamePinLaw", "make", "(ICC)Ljava/lang/String;"⟩ : MethodName) method_3_code 4 (some (.object "java/lang/String")) :: ws) ({ frames := 4, cells := 3, slots := 8, locals := 66 } : Room)) (fun aa' UU' => aa' = #[(.int (2 : Int32)), (.int c0), (.int c1)] ∧ Z.Warmed39 UU'.vm ∧ UU'.heap = h0) (fun _ _ _ _ _ => True) (fun _ UU' oo' VV' => ∃ v' L', oo' = .returned v' ∧ QrmMk_2 Z vcs vfm c0 c1 h0 n0 v' VV'.heap L' ∧ FrameEnd UU' oo' VV' L' ({ frames := 4, cells := 3, slots := 8, locals := 66 } : Room).cells ({ frames := 4, cells := 3, slots := 8, locals := 66 } : Room).slots) := by
  refine MetFree.of_bodySF (plainFor_of_name pn_1) hisR ?_
  intro p e s m args below meth c s₁ Bd hml0 hP hK
  obtain ⟨rfl, hZ, hh⟩ := hP
  have hx := Bd.exec
  have hby := Bd.bytes
  have hlk := Bd.notSynchronized
  have hml : c.maxLocals = 4 := hml0
  have hown : s.vm.findClass "com/example/slatewipe/slatewipe/TableQualifiedNamePinLaw" = some m.cls := findClass_of_methodNamed Bd.named
  have hnm := (name_of_methodNamed Bd.named Bd.method).1
  have hret := Bd.returns
  have X0 : Stand p l e ({ frames := 4, cells := 3, slots := 8, locals := 66 } : Room) s m #[(.int (2 : Int32)), (.int c0), (.int c1)] below meth c s₁ [] 0 0 := Stand.of_body Bd
  have e0 : s₁.heap = h0 := by rw [← hh, Bd.state]; rfl
  have N0 := Fr.nil n0
  have KC0 : Keep h0 h0 [] := Keep.refl _ _
  refine Go.body ?_
  obtain ⟨Pf, hPf⟩ : ∃ P, P = Fin' s below ({ frames := 4, cells := 3, slots := 8, locals := 66 } : Room).cells ({ frames := 4, cells := 3, slots := 8, locals := 66 } : Room).slots (QrmMk_2 Z vcs vfm c0 c1 h0 n0) := ⟨_, rfl⟩
  rw [← hPf]
  refine Go.cast (ef_rmMk_2 m) ?_
  have hw5 := (hw _ (List.mem_of_getElem? (i := 5) rfl))
  have hw6 := (hw _ (List.mem_of_getElem? (i := 6) rfl))
  have hw7 := (hw _ (List.mem_of_getElem? (i := 7) rfl))
  have hw8 := (hw _ (List.mem_of_getElem? (i := 8) rfl))
  have hw9 := (hw _ (List.mem_of_getElem? (i := 9) rfl))
  have hw10 := (hw _ (List.mem_of_getElem? (i := 10) rfl))
  have hw11 := (hw _ (List.mem_of_getElem? (i := 11) rfl))
  have hw21 := (hw _ (List.mem_of_getElem? (i := 21) rfl))
  have hw22 := (hw _ (List.mem_of_getElem? (i := 22) rfl))
  show Go p.tables e below Pf (s₁.setTop (mkF m 0 #[vi (2 : Int32), vi c0, vi c1, .unset] []))
  refine Go.by' (fun t k => (XS.iloadN X0.here hx rfl (hb hby d1_0) rfl (XS.ifYes X0.here hx rfl (pc0 := 1) (pc' := 15) rfl (hb hby d1_1) rfl ((if0 _ _).trans (feq (by decide)).2) (by decide) (by decide) (XS.iloadN X0.here hx rfl (hb hby d1_15) rfl (XS.iconst X0.here hx rfl (hb hby d1_16) (XS.icmpYes X0.here hx rfl (pc0 := 17) (pc' := 37) rfl (hb hby d1_17) rfl (feq (by decide)).2 (by decide) (by decide) (XS.iconst X0.here hx rfl (hb hby d1_37) k))))))) ?_
  obtain ⟨T125, h125, k125, X125, e125, E125, A125, st125⟩ := newP (aty := .char) X0 hx hZ hw8 e0 (g := (mkF m 38 #[vi (2 : Int32), vi c0, vi c1, .unset] [(.int (2 : Int32))])) rfl (hb hby d1_38) rfl (by decide) (cap := 2) (by decide) (by decide) (by decide) (by decide)
  obtain ⟨b125, g125⟩ : ∃ z, z = h0.size := ⟨_, rfl⟩
  rw [← g125] at A125 st125
  refine Go.by' st125 ?_
  have g_b125 : n0 ≤ b125 := Nat.le_trans (own_le O0) (Nat.le_of_eq g125.symm)
  have sz_b125 : h0.size ≤ b125 := Nat.le_trans KC0.1 (Nat.le_of_eq g125.symm)
  have O125 := O0.ext E125
  have KC125 : Keep h0 h125 [] := KC0.ext E125
  have V125 : Arv Z h125 b125 k125 .char (2 : Int32) [(.int (0 : Int32)), (.int (0 : Int32))] (Value.int (0 : Int32)) := (Arv.new A125 (by decide)).pad (pad_rep [] (Value.int (0 : Int32)) 2)
  show Go p.tables e below Pf (T125.setTop (mkF m 40 #[vi (2 : Int32), vi c0, vi c1, .unset] [(.ref b125)]))
  refine Go.by' (fun t k => (XS.astoreN X125.here hx rfl (hb hby d1_40) rfl rfl (l' := #[vi (2 : Int32), vi c0, vi c1, vr b125]) rfl (XS.aloadN X125.here hx rfl (hb hby d1_41) rfl rfl (XS.iconst X125.here hx rfl (hb hby d1_42) (XS.iloadN X125.here hx rfl (hb hby d1_43) rfl k))))) ?_
  obtain ⟨cl126, Ar126, q126, S126, P126, H126, G126⟩ := (id V125)
  have hin126 : ¬ ((0 : Int32) < 0 ∨ cl126.slots.size ≤ ((0 : Int32)).toNatClampNeg) := inb_of S126 ⟨by decide, by decide⟩
  obtain ⟨T127, h127, X127, e127, W127, st127⟩ := stC X125 hx hZ e125 Ar126 (j := (0 : Int32)) hin126 (g := (mkF m 44 #[vi (2 : Int32), vi c0, vi c1, vr b125] [(.int c0), (.int (0 : Int32)), (.ref b125)])) rfl rfl (hb hby d1_44)
  refine Go.by' st127 ?_
  rw [(own_nc hl0 hb0 : nar .char c0 = c0)] at W127
  have V127 : Arv Z h127 b125 k125 .char (2 : Int32) [(.int c0), (.int (0 : Int32))] (Value.int (0 : Int32)) := Arv.set Ar126 q126 S126 P126 H126 G126 (by have q := fits_nar_char c0; rw [(own_nc hl0 hb0 : nar .char c0 = c0)] at q; exact q) W127 0 rfl (Nat.le_of_ble_eq_true rfl)
  have N127 := Fr.snoc X127 N0 g_b125
  obtain ⟨lc127, X127, N127⟩ := own_pack X127 N127
  have O127 := O125.wr W127 g_b125
  have KC127 : Keep h0 h127 [] := KC125.wr W127 (Or.inr sz_b125)
  show Go p.tables e below Pf (T127.setTop (mkF m 45 #[vi (2 : Int32), vi c0, vi c1, vr b125] []))
  refine Go.by' (fun t k => (XS.aloadN X127.here hx rfl (hb hby d1_45) rfl rfl (XS.iconst X127.here hx rfl (hb hby d1_46) (XS.iloadN X127.here hx rfl (hb hby d1_47) rfl k)))) ?_
  obtain ⟨cl128, Ar128, q128, S128, P128, H128, G128⟩ := (id V127)
  have hin128 : ¬ ((1 : Int32) < 0 ∨ cl128.slots.size ≤ ((1 : Int32)).toNatClampNeg) := inb_of S128 ⟨by decide, by decide⟩
  obtain ⟨T129, h129, X129, e129, W129, st129⟩ := stC X127 hx hZ e127 Ar128 (j := (1 : Int32)) hin128 (g := (mkF m 48 #[vi (2 : Int32), vi c0, vi c1, vr b125] [(.int c1), (.int (1 : Int32)), (.ref b125)])) rfl rfl (hb hby d1_48)
  refine Go.by' st129 ?_
  rw [(own_nc hl1 hb1 : nar .char c1 = c1)] at W129
  have V129 : Arv Z h129 b125 k125 .char (2 : Int32) [(.int c0), (.int c1)] (Value.int (0 : Int32)) := Arv.set Ar128 q128 S128 P128 H128 G128 (by have q := fits_nar_char c1; rw [(own_nc hl1 hb1 : nar .char c1 = c1)] at q; exact q) W129 1 rfl (Nat.le_of_ble_eq_true rfl)
  have N129 := Fr.snoc X129 N127 g_b125
  obtain ⟨lc129, X129, N129⟩ := own_pack X129 N129
  have O129 := O127.wr W129 g_b125
  have KC129 : Keep h0 h129 [] := KC127.wr W129 (Or.inr sz_b125)
  obtain ⟨T130, h130, X130, e130, E130, A130, D130, -, st130⟩ := newO X129 hx hZ hown hw5 hw6 hw7 e129 (g := (mkF m 49 #[vi (2 : Int32), vi c0, vi c1, vr b125] [])) rfl (hb hby d1_49) (by decide) (by decide)
  obtain ⟨b130, g130⟩ : ∃ z, z = h129.size := ⟨_, rfl⟩
  rw [← g130] at A130 D130 st130
  refine Go.by' st130 ?_
  have g_b130 : n0 ≤ b130 := Nat.le_trans (own_le O129) (Nat.le_of_eq g130.symm)
  have sz_b130 : h0.size ≤ b130 := Nat.le_trans KC129.1 (Nat.le_of_eq g130.symm)
  have O130 := O129.ext E130
  have KC130 : Keep h0 h130 [] := KC129.ext E130
  have Fn130_21 : Fld Z h130 b130 "java/lang/String" "value" "[B" Value.null := D130 (Or.inr hw21) (ty := (.array .byte)) (by decide)
  have Fn130_22 : Fld Z h130 b130 "java/lang/String" "coder" "B" (Value.int (0 : Int32)) := D130 (Or.inr hw22) (ty := .byte) (by decide)
  show Go p.tables e below Pf (T130.setTop (mkF m 52 #[vi (2 : Int32), vi c0, vi c1, vr b125] [(.ref b130)]))
  refine Go.by' (fun t k => (XS.dup X130.here hx rfl (hb hby d1_52) rfl rfl (XS.aloadN X130.here hx rfl (hb hby d1_53) rfl rfl k))) ?_
  obtain ⟨_, _, ⟨T131, L131, k131, n131⟩, -, X131, ⟨Lc131, hQ131, l131, y131, z131⟩, st131⟩ := X130.specialBack hx (y := (⟨"java/lang/String", "<init>", "([C)V"⟩ : MethodName)) rfl hown (mvT hZ hw9) (mvT hZ hw10) (mvT hZ hw11) (by decide) (backOf (W := 1) (rmS1_2 l Z a0 hw [] vcs vfm G b130 b125 k125 c0 c1 h130 n0 O130 A130 Fn130_21 Fn130_22 g_b130 (V129.ext E130) (Ne.symm (Nat.ne_of_lt (Nat.lt_of_lt_of_le (Nat.lt_of_lt_of_le V125.lt (Nat.le_trans (Nat.le_of_eq W127.size.symm) (Nat.le_of_eq W129.size.symm))) (Nat.le_of_eq g130.symm)))) hb0 hb1) hZ hw11 hw7 (by decide) (by decide)) (g := (mkF m 54 #[vi (2 : Int32), vi c0, vi c1, vr b125] [(.ref b125), (.ref b130), (.ref b130)])) rfl (by rw [hml]; rfl) (Steps.refl _) (a := b130) (argsL := [(.ref b125)]) (rest := [(.ref b130)]) (lenOf pd_18 rfl) rfl (by show 2 * 0 + _ ≤ _; exact Nat.le_of_eq rfl) (hb hby d1_54) (fun _ _ => ⟨rfl, e130, (by decide : 2 + 1 ≤ _), (by decide : 6 + 2 ≤ _)⟩)
  dsimp only [Pt.U, Pt.locs, Pt.cells, Pt.slots] at X131 l131 y131 z131 st131 hQ131
  subst l131 y131 z131
  obtain ⟨rb_131, kb_131, rfl, N131q, K131, f131_0, f131_1, f131_2, f131_3, f131_4⟩ := hQ131
  have N131 := Fr.app N129 N131q
  obtain ⟨lc131, X131, N131⟩ := own_pack X131 N131
  refine Go.by' (fun t k => st131.trans k) ?_
  have g_rb_131 : n0 ≤ rb_131 := Nat.le_trans (own_le O130) f131_4
  have sz_rb_131 : h0.size ≤ rb_131 := Nat.le_trans KC130.1 f131_4
  have O131 := O130.keep K131 (allS g_b130 all0)
  have KC131 : Keep h0 T131.heap [] := KC130.trans K131 (allS (Or.inr sz_b130) all0)
  show Go p.tables e below Pf (T131.setTop (mkF m 57 #[vi (2 : Int32), vi c0, vi c1, vr b125] [(.ref b130)]))
  rw [hPf]
  exact Go.retA' X131 hx hret hlk rfl rfl (hb hby d1_57) (by decide) (by decide) ⟨b130, rb_131, kb_131, rfl, N131, KC131, f131_0, sz_b130, f131_1, f131_2, f131_3, sz_rb_131⟩
theorem d6_0 : decode jdk_30_method_1_code 0 = .ok (.aload_n 0, 1) := by decide +kernel
theorem d6_1 : decode jdk_30_method_1_code 1 = .ok (.invokespecial 1, 3) := by decide +kernel
theorem d6_4 : decode jdk_30_method_1_code 4 = .ok (.return_, 1) := by decide +kernel
theorem pn_6 : plainName "java/lang/Record" = true := by first | (simp [plainName, overriddenIn]; done) | decide +kernel
set_option maxHeartbeats 4000000 in
theorem ef_rmRec (m : MethodId) {al : Addr} : entryFrame m #[(.ref al)] 1 = mkF m 0 #[vr al] [] := by first | (simp [entryFrame, mkF, argsToLocals, Value.category]; done) | rfl
def QrmRec (Z : State) (vcs : Int32) (vfm : Value) (al : Addr) (h0 : Heap) (n0 : Nat) (v : Option Value) (h : Heap) (L : List Loc) : Prop := (v = none) ∧ (L = []) ∧ (h = h0)
set_option maxRecDepth 65536 in
set_option maxHeartbeats 40000000 in
theorem rmRec (l : Launch) (Z : State) (a0 : Array Value) (hw : ∀ d ∈ tables_1, d.before a0 Z = true) (ws : List Jvm.Cond) (vcs : Int32) (vfm : Value) (G : Gh Z vcs vfm) (al : Addr) (h0 : Heap) (n0 : Nat) (O0 : Old Z n0 h0) :
    MetFree l (⟨"java/lang/Record", "<init>", "()V"⟩ : MethodName) (head1 (Jvm.Cond.code (⟨"java/lang/Record", "<init>", "()V"⟩ : MethodName) jdk_30_method_1_code 1 none :: ws) ({ frames := 1, cells := 0, slots := 0, locals := 12 } : Room)) (fun aa' UU' => aa' = #[(.ref al)] ∧ Z.Warmed39 UU'.vm ∧ UU'.heap = h0) (fun _ _ _ _ _ => True) (fun _ UU' oo' VV' => ∃ v' L', oo' = .returned v' ∧ QrmRec Z vcs vfm al h0 n0 v' VV'.heap L' ∧ FrameEnd UU' oo' VV' L' ({ frames := 1, cells := 0, slots := 0, locals := 12 } : Room).cells ({ frames := 1, cells := 0, slots := 0, locals := 12 } : Room).slots) := by
  refine MetFree.of_bodySF (plainFor_of_name pn_6) hisR ?_
  intro p e s m args below meth c s₁ Bd hml0 hP hK
  obtain ⟨rfl, hZ, hh⟩ := hP
  have hx := Bd.exec
  have hby := Bd.bytes
  have hlk := Bd.notSynchronized
  have hml : c.maxLocals = 1 := hml0
  have hown : s.vm.findClass "java/lang/Record" = some m.cls := findClass_of_methodNamed Bd.named
  have hnm := (name_of_methodNamed Bd.named Bd.method).1
  have hret := Bd.returns
  have X0 : Stand p l e ({ frames := 1, cells := 0, slots := 0, locals := 12 } : Room) s m #[(.ref al)] below meth c s₁ [] 0 0 := Stand.of_body Bd
  have e0 : s₁.heap = h0 := by rw [← hh, Bd.state]; rfl
  have N0 := Fr.nil n0
  refine Go.body ?_
  obtain ⟨Pf, hPf⟩ : ∃ P, P = Fin' s below ({ frames := 1, cells := 0, slots := 0, locals := 12 } : Room).cells ({ frames := 1, cells := 0, slots := 0, locals := 12 } : Room).slots (QrmRec Z vcs vfm al h0 n0) := ⟨_, rfl⟩
  rw [← hPf]
  refine Go.cast (ef_rmRec m) ?_
  have hw17 := (hw _ (List.mem_of_getElem? (i := 17) rfl))
  have hw18 := (hw _ (List.mem_of_getElem? (i := 18) rfl))
  have hw38 := (hw _ (List.mem_of_getElem? (i := 38) rfl))
  show Go p.tables e below Pf (s₁.setTop (mkF m 0 #[vr al] []))
  refine Go.by' (fun t k => (XS.aloadN X0.here hx rfl (hb hby d6_0) rfl rfl k)) ?_
  obtain ⟨T132, X132, e132, st132⟩ := initO X0 hx hZ hown hw38 hw17 hw18 e0 (g := (mkF m 1 #[vr al] [(.ref al)])) rfl (by rw [hml]; rfl) rfl (hb hby d6_1) (by decide) (W := 0) (by show 2 * 0 + _ ≤ _; exact Nat.le_of_eq rfl) (by decide)
  refine Go.by' st132 ?_
  show Go p.tables e below Pf (T132.setTop (mkF m 4 #[vr al] []))
  rw [hPf]
  exact Go.retV' X132 hx hret hlk (hb hby d6_4) (by decide) (by decide) ⟨rfl, rfl, e132⟩
theorem d5_0 : decode prog_16_method_1_code 0 = .ok (.aload_n 0, 1) := by decide +kernel
theorem d5_1 : decode prog_16_method_1_code 1 = .ok (.invokespecial 1, 3) := by decide +kernel
theorem pd_19 : parseMethodDescriptor "()V" = some ⟨[], none⟩ := by decide +kernel
theorem d5_4 : decode prog_16_method_1_code 4 = .ok (.aload_n 0, 1) := by decide +kernel
theorem d5_5 : decode prog_16_method_1_code 5 = .ok (.aload_n 1, 1) := by decide +kernel
theorem d5_6 : decode prog_16_method_1_code 6 = .ok (.putfield 7, 3) := by decide +kernel
theorem d5_9 : decode prog_16_method_1_code 9 = .ok (.aload_n 0, 1) := by decide +kernel
theorem d5_10 : decode prog_16_method_1_code 10 = .ok (.aload_n 2, 1) := by decide +kernel
theorem d5_11 : decode prog_16_method_1_code 11 = .ok (.putfield 13, 3) := by decide +kernel
theorem d5_14 : decode prog_16_method_1_code 14 = .ok (.return_, 1) := by decide +kernel
theorem pn_5 : plainName "com/example/slatewipe/slatewipe/Table" = true := by first | (simp [plainName, overriddenIn]; done) | decide +kernel
set_option maxHeartbeats 4000000 in
theorem ef_rmTab (m : MethodId) {ta : Addr} {p1 : Addr} {p2 : Addr} : entryFrame m #[(.ref ta), (.ref p1), (.ref p2)] 3 = mkF m 0 #[vr ta, vr p1, vr p2] [] := by first | (simp [entryFrame, mkF, argsToLocals, Value.category]; done) | rfl
def QrmTab (Z : State) (vcs : Int32) (vfm : Value) (ta : Addr) (p1 : Addr) (p2 : Addr) (h0 : Heap) (n0 : Nat) (v : Option Value) (h : Heap) (L : List Loc) : Prop := (v = none) ∧ (Fr n0 L) ∧ (Keep h0 h [ta]) ∧ (Exa Z h ta "com/example/slatewipe/slatewipe/Table") ∧ (Fld Z h ta "com/example/slatewipe/slatewipe/Table" "schema" "Ljava/lang/String;" (.ref p1)) ∧ (Fld Z h ta "com/example/slatewipe/slatewipe/Table" "name" "Ljava/lang/String;" (.ref p2))
set_option maxRecDepth 65536 in
set_option maxHeartbeats 40000000 in
theorem rmTab (l : Launch) (Z : State) (a0 : Array Value) (hw : ∀ d ∈ tables_1, d.before a0 Z = true) (ws : List Jvm.Cond) (vcs : Int32) (vfm : Value) (G : Gh Z vcs vfm) (ta : Addr) (p1 : Addr) (p2 : Addr) (h0 : Heap) (n0 : Nat) (O0 : Old Z n0 h0) (EX : Exa Z h0 ta "com/example/slatewipe/slatewipe/Table") (F1 : Fld Z h0 ta "com/example/slatewipe/slatewipe/Table" "schema" "Ljava/lang/String;" .null) (F2 : Fld Z h0 ta "com/example/slatewipe/slatewipe/Table" "name" "Ljava/lang/String;" .null) (g_ta : n0 ≤ ta) :
    MetFree l (⟨"com/example/slatewipe/slatewipe/Table", "<init>", "(Ljava/lang/String;Ljava/lang/String;)V"⟩ : MethodName) (head1 (Jvm.Cond.code (⟨"com/example/slatewipe/slatewipe/Table", "<init>", "(Ljava/lang/String;Ljava/lang/String;)V"⟩ : MethodName) prog_16_method_1_code 3 none :: ws) ({ frames := 2, cells := 0, slots := 0, locals := 24 } : Room)) (fun aa' UU' => aa' = #[(.ref ta), (.ref p1), (.ref p2)] ∧ Z.Warmed39 UU'.vm ∧ UU'.heap = h0) (fun _ _ _ _ _ => True) (fun _ UU' oo' VV' => ∃ v' L', oo' = .returned v' ∧ QrmTab Z vcs vfm ta p1 p2 h0 n0 v' VV'.heap L' ∧ FrameEnd UU' oo' VV' L' ({ frames := 2, cells := 0, slots := 0, locals := 24 } : Room).cells ({ frames := 2, cells := 0, slots := 0, locals := 24 } : Room).slots) := by
  refine MetFree.of_bodySF (plainFor_of_name pn_5) hisR ?_
  intro p e s m args below meth c s₁ Bd hml0 hP hK
  obtain ⟨rfl, hZ, hh⟩ := hP
  have hx := Bd.exec
  have hby := Bd.bytes
  have hlk := Bd.notSynchronized
  have hml : c.maxLocals = 3 := hml0
  have hown : s.vm.findClass "com/example/slatewipe/slatewipe/Table" = some m.cls := findClass_of_methodNamed Bd.named
  have hnm := (name_of_methodNamed Bd.named Bd.method).1
  have hret := Bd.returns
  have X0 : Stand p l e ({ frames := 2, cells := 0, slots := 0, locals := 24 } : Room) s m #[(.ref ta), (.ref p1), (.ref p2)] below meth c s₁ [] 0 0 := Stand.of_body Bd
  have e0 : s₁.heap = h0 := by rw [← hh, Bd.state]; rfl
  have N0 := Fr.nil n0
  have KC0 : Keep h0 h0 [ta] := Keep.refl _ _
  refine Go.body ?_
  obtain ⟨Pf, hPf⟩ : ∃ P, P = Fin' s below ({ frames := 2, cells := 0, slots := 0, locals := 24 } : Room).cells ({ frames := 2, cells := 0, slots := 0, locals := 24 } : Room).slots (QrmTab Z vcs vfm ta p1 p2 h0 n0) := ⟨_, rfl⟩
  rw [← hPf]
  refine Go.cast (ef_rmTab m) ?_
  have hw28 := (hw _ (List.mem_of_getElem? (i := 28) rfl))
  have hw33 := (hw _ (List.mem_of_getElem? (i := 33) rfl))
  have hw34 := (hw _ (List.mem_of_getElem? (i := 34) rfl))
  have hw36 := (hw _ (List.mem_of_getElem? (i := 36) rfl))
  have hw37 := (hw _ (List.mem_of_getElem? (i := 37) rfl))
  have hw39 := (hw _ (List.mem_of_getElem? (i := 39) rfl))
  have hw40 := (hw _ (List.mem_of_getElem? (i := 40) rfl))
  have hw41 := (hw _ (List.mem_of_getElem? (i := 41) rfl))
  have hw42 := (hw _ (List.mem_of_getElem? (i := 42) rfl))
  show Go p.tables e below Pf (s₁.setTop (mkF m 0 #[vr ta, vr p1, vr p2] []))
  refine Go.by' (fun t k => (XS.aloadN X0.here hx rfl (hb hby d5_0) rfl rfl k)) ?_
  obtain ⟨_, _, ⟨T133, L133, k133, n133⟩, -, X133, ⟨Lc133, hQ133, l133, y133, z133⟩, st133⟩ := X0.specialBack hx (y := (⟨"java/lang/Record", "<init>", "()V"⟩ : MethodName)) rfl hown (mvT hZ hw33) (mvT hZ hw34) (mvT hZ hw37) (by decide) (backOf (W := 0) (rmRec l Z a0 hw [] vcs vfm G ta h0 n0 O0 ) hZ hw37 hw36 (by decide) (by decide)) (g := (mkF m 1 #[vr ta, vr p1, vr p2] [(.ref ta)])) rfl (by rw [hml]; rfl) (Steps.refl _) (a := ta) (argsL := []) (rest := []) (lenOf pd_19 rfl) rfl (by show 2 * 0 + _ ≤ _; exact Nat.le_of_eq rfl) (hb hby d5_1) (fun _ _ => ⟨rfl, e0, (by decide : 0 + 0 ≤ _), (by decide : 0 + 0 ≤ _)⟩)
  dsimp only [Pt.U, Pt.locs, Pt.cells, Pt.slots] at X133 l133 y133 z133 st133 hQ133
  subst l133 y133 z133
  obtain ⟨rfl, rfl, e133⟩ := hQ133
  try replace X133 := own_nil X133
  refine Go.by' (fun t k => st133.trans k) ?_
  show Go p.tables e below Pf (T133.setTop (mkF m 4 #[vr ta, vr p1, vr p2] []))
  refine Go.by' (fun t k => (XS.aloadN X133.here hx rfl (hb hby d5_4) rfl rfl (XS.aloadN X133.here hx rfl (hb hby d5_5) rfl rfl k))) ?_
  obtain ⟨T134, h134, X134, e134, W134, st134⟩ := putF X133 hx hZ hown (host := "") (Or.inl hw39) Via.refl e133 F1 EX (Or.inr ⟨hw40, rfl, hnm⟩) hw28 (ty := (.object "java/lang/String")) (by decide) rfl rfl (g := (mkF m 6 #[vr ta, vr p1, vr p2] [(.ref p1), (.ref ta)])) rfl rfl (hb hby d5_6)
  refine Go.by' st134 ?_
  have Fw134 : Fld Z h134 ta "com/example/slatewipe/slatewipe/Table" "schema" "Ljava/lang/String;" (Value.ref p1) := F1.same W134
  have N134 := Fr.snoc X134 N0 g_ta
  obtain ⟨lc134, X134, N134⟩ := own_pack X134 N134
  have O134 := O0.wr W134 g_ta
  have KC134 : Keep h0 h134 [ta] := KC0.wr W134 (Or.inl (List.mem_of_getElem? (i := 0) rfl))
  show Go p.tables e below Pf (T134.setTop (mkF m 9 #[vr ta, vr p1, vr p2] []))
  refine Go.by' (fun t k => (XS.aloadN X134.here hx rfl (hb hby d5_9) rfl rfl (XS.aloadN X134.here hx rfl (hb hby d5_10) rfl rfl k))) ?_
  obtain ⟨T135, h135, X135, e135, W135, st135⟩ := putF X134 hx hZ hown (host := "") (Or.inl hw41) Via.refl e134 (F2.other W134 (Or.inr (slot_ne (Or.inr hw42) (Or.inr hw40) (by decide) (t := (.object "java/lang/String")) (t' := (.object "java/lang/String")) (by decide) (by decide)))) (EX.wr W134) (Or.inr ⟨hw42, rfl, hnm⟩) hw28 (ty := (.object "java/lang/String")) (by decide) rfl rfl (g := (mkF m 11 #[vr ta, vr p1, vr p2] [(.ref p2), (.ref ta)])) rfl rfl (hb hby d5_11)
  refine Go.by' st135 ?_
  have Fw135 : Fld Z h135 ta "com/example/slatewipe/slatewipe/Table" "name" "Ljava/lang/String;" (Value.ref p2) := (F2.other W134 (Or.inr (slot_ne (Or.inr hw42) (Or.inr hw40) (by decide) (t := (.object "java/lang/String")) (t' := (.object "java/lang/String")) (by decide) (by decide)))).same W135
  have N135 := Fr.snoc X135 N134 g_ta
  obtain ⟨lc135, X135, N135⟩ := own_pack X135 N135
  have O135 := O134.wr W135 g_ta
  have KC135 : Keep h0 h135 [ta] := KC134.wr W135 (Or.inl (List.mem_of_getElem? (i := 0) rfl))
  have c136 := ((EX.wr W134).wr W135)
  show Go p.tables e below Pf (T135.setTop (mkF m 14 #[vr ta, vr p1, vr p2] []))
  rw [hPf]
  exact Go.retV' X135 hx hret hlk (hb hby d5_14) (by decide) (by decide) ⟨rfl, N135, (by rw [e135]; exact KC135), (by rw [e135]; exact c136), (by rw [e135]; exact (Fw134.other W135 (Or.inr (slot_ne (Or.inr hw40) (Or.inr hw42) (by decide) (t := (.object "java/lang/String")) (t' := (.object "java/lang/String")) (by decide) (by decide))))), (by rw [e135]; exact Fw135)⟩
theorem d7_0 : decode prog_16_method_2_code 0 = .ok (.new 16, 3) := by decide +kernel
theorem d7_3 : decode prog_16_method_2_code 3 = .ok (.dup, 1) := by decide +kernel
theorem d7_4 : decode prog_16_method_2_code 4 = .ok (.invokespecial 18, 3) := by decide +kernel
theorem d7_7 : decode prog_16_method_2_code 7 = .ok (.aload_n 0, 1) := by decide +kernel
theorem d7_8 : decode prog_16_method_2_code 8 = .ok (.getfield 7, 3) := by decide +kernel
theorem d7_11 : decode prog_16_method_2_code 11 = .ok (.invokevirtual 19, 3) := by decide +kernel
theorem pd_20 : parseMethodDescriptor "(Ljava/lang/String;)Ljava/lang/StringBuilder;" = some ⟨[(.object "java/lang/String")], some (.object "java/lang/StringBuilder")⟩ := by decide +kernel
theorem d7_14 : decode prog_16_method_2_code 14 = .ok (.ldc 23, 2) := by decide +kernel
theorem d7_16 : decode prog_16_method_2_code 16 = .ok (.invokevirtual 19, 3) := by decide +kernel
theorem d7_19 : decode prog_16_method_2_code 19 = .ok (.aload_n 0, 1) := by decide +kernel
theorem d7_20 : decode prog_16_method_2_code 20 = .ok (.getfield 13, 3) := by decide +kernel
theorem d7_23 : decode prog_16_method_2_code 23 = .ok (.invokevirtual 19, 3) := by decide +kernel
theorem d7_26 : decode prog_16_method_2_code 26 = .ok (.invokevirtual 25, 3) := by decide +kernel
theorem pd_21 : parseMethodDescriptor "()Ljava/lang/String;" = some ⟨[], some (.object "java/lang/String")⟩ := by decide +kernel
theorem d7_29 : decode prog_16_method_2_code 29 = .ok (.areturn, 1) := by decide +kernel
theorem pn_7 : plainName "com/example/slatewipe/slatewipe/Table" = true := by first | (simp [plainName, overriddenIn]; done) | decide +kernel
set_option maxHeartbeats 4000000 in
theorem ef_rmQN (m : MethodId) {ta : Addr} : entryFrame m #[(.ref ta)] 1 = mkF m 0 #[vr ta] [] := by first | (simp [entryFrame, mkF, argsToLocals, Value.category]; done) | rfl
def QrmQN (Z : State) (vcs : Int32) (vfm : Value) (ta : Addr) (p1 : Addr) (v1 : Addr) (k1 : ClassId) (z1 : Int32) (vs1 : (List Value)) (p2 : Addr) (v2 : Addr) (k2 : ClassId) (z2 : Int32) (vs2 : (List Value)) (h0 : Heap) (n0 : Nat) (v : Option Value) (h : Heap) (vm : Vm) (L : List Loc) : Prop := ∃ (r : Addr) (rb : Addr) (kb : ClassId) (zr : Int32) (vsr : (List Value)), (v = some (.ref r)) ∧ (Fr n0 L) ∧ (Keep h0 h []) ∧ (Exa Z h r "java/lang/String") ∧ (h0.size ≤ r) ∧ (Fld Z h r "java/lang/String" "value" "[B" (.ref rb)) ∧ (Fld Z h r "java/lang/String" "coder" "B" (.int (0 : Int32))) ∧ (Arv Z h rb kb .byte zr vsr (.int (0 : Int32))) ∧ (h0.size ≤ rb) ∧ (zr = ((((0 : Int32) + z1) + (1 : Int32)) + z2)) ∧ (vsr = QL z1 z2 vs1 vs2)
set_option maxRecDepth 65536 in
set_option maxHeartbeats 40000000 in
theorem rmQN (l : Launch) (Z : State) (a0 : Array Value) (hw : ∀ d ∈ tables_1, d.before a0 Z = true) (ws : List Jvm.Cond) (vcs : Int32) (vfm : Value) (G : Gh Z vcs vfm) (ta : Addr) (p1 : Addr) (v1 : Addr) (k1 : ClassId) (z1 : Int32) (vs1 : (List Value)) (p2 : Addr) (v2 : Addr) (k2 : ClassId) (z2 : Int32) (vs2 : (List Value)) (h0 : Heap) (n0 : Nat) (O0 : Old Z n0 h0) (EX : Exa Z h0 ta "com/example/slatewipe/slatewipe/Table") (F1 : Fld Z h0 ta "com/example/slatewipe/slatewipe/Table" "schema" "Ljava/lang/String;" (.ref p1)) (F2 : Fld Z h0 ta "com/example/slatewipe/slatewipe/Table" "name" "Ljava/lang/String;" (.ref p2)) (E1 : Exa Z h0 p1 "java/lang/String") (V1 : Fld Z h0 p1 "java/lang/String" "value" "[B" (.ref v1)) (C1 : Fld Z h0 p1 "java/lang/String" "coder" "B" (.int (0 : Int32))) (A1 : Arv Z h0 v1 k1 .byte z1 vs1 (.int (0 : Int32))) (hz1 : Z2 z1) (E2 : Exa Z h0 p2 "java/lang/String") (V2 : Fld Z h0 p2 "java/lang/String" "value" "[B" (.ref v2)) (C2 : Fld Z h0 p2 "java/lang/String" "coder" "B" (.int (0 : Int32))) (A2 : Arv Z h0 v2 k2 .byte z2 vs2 (.int (0 : Int32))) (hz2 : Z2 z2) :
    MetFree l (⟨"com/example/slatewipe/slatewipe/Table", "qualifiedName", "()Ljava/lang/String;"⟩ : MethodName) (head1 (Jvm.Cond.code (⟨"com/example/slatewipe/slatewipe/Table", "qualifiedName", "()Ljava/lang/String;"⟩ : MethodName) prog_16_method_2_code 1 (some (.object "java/lang/String")) :: ws) ({ frames := 6, cells := 6, slots := 48, locals := 113 } : Room)) (fun aa' UU' => aa' = #[(.ref ta)] ∧ Z.Warmed39 UU'.vm ∧ UU'.heap = h0 ∧ CHv Z consts_1 UU'.vm h0 ∧ ∀ x ∈ ([] : List Addr), Safe Z consts_1 UU'.vm h0 x) (fun _ _ _ _ _ => True) (fun _ UU' oo' VV' => ∃ v' L', oo' = .returned v' ∧ QrmQN Z vcs vfm ta p1 v1 k1 z1 vs1 p2 v2 k2 z2 vs2 h0 n0 v' VV'.heap VV'.vm L' ∧ CHr Z consts_1 UU'.vm UU'.heap VV'.vm VV'.heap ∧ ReturnedEndW UU' oo' VV' L' ({ frames := 6, cells := 6, slots := 48, locals := 113 } : Room).cells ({ frames := 6, cells := 6, slots := 48, locals := 113 } : Room).slots) := by
  refine MetFree.of_bodySF (plainFor_of_name pn_7) hisR ?_
  intro p e s m args below meth c s₁ Bd hml0 hP hK
  obtain ⟨rfl, hZ, hh, hCH, hSf⟩ := hP
  have hx := Bd.exec
  have hby := Bd.bytes
  have hlk := Bd.notSynchronized
  have hml : c.maxLocals = 1 := hml0
  have hown : s.vm.findClass "com/example/slatewipe/slatewipe/Table" = some m.cls := findClass_of_methodNamed Bd.named
  have hnm := (name_of_methodNamed Bd.named Bd.method).1
  have hret := Bd.returns
  have X0 : Stand p l e ({ frames := 6, cells := 6, slots := 48, locals := 113 } : Room) (s.setVm s.vm) m #[(.ref ta)] below meth c s₁ [] 0 0 := Stand.of_body Bd
  have e0 : s₁.heap = h0 := by rw [← hh, Bd.state]; rfl
  have N0 := Fr.nil n0
  have KC0 : Keep h0 h0 [] := Keep.refl _ _
  have Sb0 := Sb.start hZ hown hCH
  have hEL := own_EW hw
  have hSA := own_SA hw
  refine Go.bodyS ?_
  obtain ⟨Pf, hPf⟩ : ∃ P, P = FinS Z consts_1 s below ({ frames := 6, cells := 6, slots := 48, locals := 113 } : Room).cells ({ frames := 6, cells := 6, slots := 48, locals := 113 } : Room).slots (QrmQN Z vcs vfm ta p1 v1 k1 z1 vs1 p2 v2 k2 z2 vs2 h0 n0) := ⟨_, rfl⟩
  rw [← hPf]
  refine Go.cast (ef_rmQN m) ?_
  have hw39 := (hw _ (List.mem_of_getElem? (i := 39) rfl))
  have hw41 := (hw _ (List.mem_of_getElem? (i := 41) rfl))
  have hw48 := (hw _ (List.mem_of_getElem? (i := 48) rfl))
  have hw49 := (hw _ (List.mem_of_getElem? (i := 49) rfl))
  have hw50 := (hw _ (List.mem_of_getElem? (i := 50) rfl))
  have hw51 := (hw _ (List.mem_of_getElem? (i := 51) rfl))
  have hw52 := (hw _ (List.mem_of_getElem? (i := 52) rfl))
  have hw53 := (hw _ (List.mem_of_getElem? (i := 53) rfl))
  have hw63 := (hw _ (List.mem_of_getElem? (i := 63) rfl))
  have hw65 := (hw _ (List.mem_of_getElem? (i := 65) rfl))
  have hw66 := (hw _ (List.mem_of_getElem? (i := 66) rfl))
  have hw67 := (hw _ (List.mem_of_getElem? (i := 67) rfl))
  have hw68 := (hw _ (List.mem_of_getElem? (i := 68) rfl))
  have hw69 := (hw _ (List.mem_of_getElem? (i := 69) rfl))
  have hw70 := (hw _ (List.mem_of_getElem? (i := 70) rfl))
  have hw88 := (hw _ (List.mem_of_getElem? (i := 88) rfl))
  have hw114 := (hw _ (List.mem_of_getElem? (i := 114) rfl))
  have hw115 := (hw _ (List.mem_of_getElem? (i := 115) rfl))
  have hw116 := (hw _ (List.mem_of_getElem? (i := 116) rfl))
  have hw117 := (hw _ (List.mem_of_getElem? (i := 117) rfl))
  have hw118 := (hw _ (List.mem_of_getElem? (i := 118) rfl))
  have hw119 := (hw _ (List.mem_of_getElem? (i := 119) rfl))
  obtain ⟨T137, h137, X137, e137, E137, A137, D137, -, st137⟩ := newO X0 hx hZ hown hw48 hw49 hw50 e0 (g := (mkF m 0 #[vr ta] [])) rfl (hb hby d7_0) (by decide) (by decide)
  obtain ⟨b137, g137⟩ : ∃ z, z = h0.size := ⟨_, rfl⟩
  rw [← g137] at A137 D137 st137
  refine Go.by' st137 ?_
  have Sf_b137 : Safe Z consts_1 s.vm h0 b137 := Safe.new (Nat.le_of_eq g137.symm)
  have g_b137 : n0 ≤ b137 := Nat.le_trans (own_le O0) (Nat.le_of_eq g137.symm)
  have sz_b137 : h0.size ≤ b137 := Nat.le_trans KC0.1 (Nat.le_of_eq g137.symm)
  have Sb137 := Sb0.ext E137
  have O137 := O0.ext E137
  have KC137 : Keep h0 h137 [] := KC0.ext E137
  have Fn137_63 : Fld Z h137 b137 "java/lang/AbstractStringBuilder" "value" "[B" Value.null := D137 (Or.inl hw63) (ty := (.array .byte)) (by decide)
  have Fn137_65 : Fld Z h137 b137 "java/lang/AbstractStringBuilder" "coder" "B" (Value.int (0 : Int32)) := D137 (Or.inl hw65) (ty := .byte) (by decide)
  have Fn137_88 : Fld Z h137 b137 "java/lang/AbstractStringBuilder" "count" "I" (Value.int (0 : Int32)) := D137 (Or.inl hw88) (ty := .int) (by decide)
  show Go p.tables e below Pf (T137.setTop (mkF m 3 #[vr ta] [(.ref b137)]))
  refine Go.by' (fun t k => (XS.dup X137.here hx rfl (hb hby d7_3) rfl rfl k)) ?_
  obtain ⟨_, _, ⟨T138, L138, k138, n138⟩, -, X138, ⟨Lc138, hQ138, l138, y138, z138⟩, st138⟩ := X137.specialBack hx (y := (⟨"java/lang/StringBuilder", "<init>", "()V"⟩ : MethodName)) rfl hown (mvT hZ hw51) (mvT hZ hw52) (mvT hZ hw53) (by decide) (backOf (W := 1) (rmBI l Z a0 hw [] vcs vfm G b137 h137 n0 O137 A137 Fn137_63 Fn137_65 Fn137_88 g_b137) hZ hw53 hw50 (by decide) (by decide)) (g := (mkF m 4 #[vr ta] [(.ref b137), (.ref b137)])) rfl (by rw [hml]; rfl) (Steps.refl _) (a := b137) (argsL := []) (rest := [(.ref b137)]) (lenOf pd_19 rfl) rfl (by show 2 * 0 + _ ≤ _; exact Nat.le_of_eq rfl) (hb hby d7_4) (fun _ _ => ⟨rfl, e137, (by decide : 1 + 1 ≤ _), (by decide : 4 + 16 ≤ _)⟩)
  dsimp only [Pt.U, Pt.locs, Pt.cells, Pt.slots] at X138 l138 y138 z138 st138 hQ138
  subst l138 y138 z138
  obtain ⟨rb_138, kb_138, rfl, N138q, K138, f138_0, f138_1, f138_2, f138_3, f138_4, f138_5⟩ := hQ138
  have N138 := Fr.app N0 N138q
  obtain ⟨lc138, X138, N138⟩ := own_pack X138 N138
  refine Go.by' (fun t k => st138.trans k) ?_
  have Sf_rb_138 : Safe Z consts_1 s.vm h137 rb_138 := Safe.new f138_5
  have g_rb_138 : n0 ≤ rb_138 := Nat.le_trans (own_le O137) f138_5
  have sz_rb_138 : h0.size ≤ rb_138 := Nat.le_trans KC137.1 f138_5
  have Sb138 := Sb137.keep K138 (sfS (Safe.ext E137 Sb0.ch Sf_b137) sf0)
  have O138 := O137.keep K138 (allS g_b137 all0)
  have KC138 : Keep h0 T138.heap [] := KC137.trans K138 (allS (Or.inr sz_b137) all0)
  show Go p.tables e below Pf (T138.setTop (mkF m 7 #[vr ta] [(.ref b137)]))
  refine Go.by' (fun t k => (XS.aloadN X138.here hx rfl (hb hby d7_7) rfl rfl k)) ?_
  have c139 := ((F1.ext E137).keep K138 (ninS (Nat.ne_of_lt (Nat.lt_of_lt_of_le EX.lt (Nat.le_of_eq g137.symm))) nin0))
  obtain ⟨T140, X140, e140, st140⟩ := getF X138 hx hZ hown (host := "") (Or.inl hw39) Via.refl rfl c139 (g := (mkF m 8 #[vr ta] [(.ref ta), (.ref b137)])) rfl rfl (hb hby d7_8)
  refine Go.by' st140 ?_
  have c142 := ((A1.ext E137).keep K138 (ninS (Nat.ne_of_lt (Nat.lt_of_lt_of_le A1.lt (Nat.le_of_eq g137.symm))) nin0))
  have c143 := ((E1.ext E137).keep K138)
  have c144 := ((V1.ext E137).keep K138 (ninS (Nat.ne_of_lt (Nat.lt_of_lt_of_le E1.lt (Nat.le_of_eq g137.symm))) nin0))
  have c145 := ((C1.ext E137).keep K138 (ninS (Nat.ne_of_lt (Nat.lt_of_lt_of_le E1.lt (Nat.le_of_eq g137.symm))) nin0))
  obtain ⟨cq141, kq141, q141a, q141b, q141c⟩ := isOf hZ e140 f138_0
  obtain ⟨_, _, ⟨T141, L141, k141, n141⟩, -, X141, ⟨Lc141, hQ141, l141, y141, z141⟩, st141⟩ := X140.virtualBack hx (y := (⟨"java/lang/StringBuilder", "append", "(Ljava/lang/String;)Ljava/lang/StringBuilder;"⟩ : MethodName)) (z := (⟨"java/lang/StringBuilder", "append", "(Ljava/lang/String;)Ljava/lang/StringBuilder;"⟩ : MethodName)) hown (mvT hZ hw66) (mvT hZ hw67) (notFace_of_selects (args := #[]) (mvT hZ hw69)) (mvT hZ hw69) (mvT hZ hw68) (by decide) (backOf (W := 0) (rmAp l Z a0 hw [] vcs vfm G b137 p1 ((0 : Int32)) rb_138 kb_138 ([]) v1 k1 z1 vs1 T138.heap n0 O138 f138_0 f138_1 f138_2 f138_3 c143 c144 c145 c142 f138_4 g_rb_138 g_b137 (own_rm1 hz1)) hZ hw70 hw50 (by decide) (by decide)) q141a q141c (g := (mkF m 11 #[vr ta] [(.ref p1), (.ref b137)])) rfl (by rw [hml]; rfl) (Steps.refl _) (argsL := [(.ref p1)]) (rest := []) (lenOf pd_20 rfl) rfl (by show 2 * 0 + _ ≤ _; exact Nat.le_of_eq rfl) (hb hby d7_11) (fun _ _ => ⟨rfl, e140, (by decide : 2 + 0 ≤ _), (by decide : 20 + 0 ≤ _)⟩)
  dsimp only [Pt.U, Pt.locs, Pt.cells, Pt.slots] at X141 l141 y141 z141 st141 hQ141
  subst l141 y141 z141
  obtain ⟨vsn_141, rfl, N141q, K141, f141_0, f141_1, f141_2, f141_3, f141_4, r141_0⟩ := hQ141
  have N141 := Fr.app N138 N141q
  obtain ⟨lc141, X141, N141⟩ := own_pack X141 N141
  refine Go.by' (fun t k => st141.trans k) ?_
  have Sb141 := Sb138.keep K141 (sfS (Safe.keep K138 (sfS (Safe.ext E137 Sb0.ch Sf_b137) sf0) Sb137.ch (Safe.ext E137 Sb0.ch Sf_b137)) (sfS (Safe.keep K138 (sfS (Safe.ext E137 Sb0.ch Sf_b137) sf0) Sb137.ch Sf_rb_138) sf0))
  have O141 := O138.keep K141 (allS g_b137 (allS g_rb_138 all0))
  have KC141 : Keep h0 T141.heap [] := KC138.trans K141 (allS (Or.inr sz_b137) (allS (Or.inr sz_rb_138) all0))
  obtain ⟨T146, h146, a146, bb146, kb146, X146, e146, E146, Sb146, A146, Ex146, Fc146, Fv146, Vb146, Ne146, st146⟩ := own_ldc X141 hx Sb141 hw114 hSA rfl hEL (List.mem_of_getElem? (i := 0) rfl) (vs := [(.int (46 : Int32))]) (z := (1 : Int32)) (by decide +kernel) (by decide) rfl (g := (mkF m 14 #[vr ta] [(.ref b137)])) rfl (hb hby d7_14) (n := 4) (by decide +kernel) (by decide) (by decide) (by decide)
  refine Go.by' st146 ?_
  have O146 := O141.ext E146
  have KC146 : Keep h0 h146 [] := KC141.ext E146
  have hZ146 := Sb146.hZ
  have hO146 := Sb146.hO
  obtain ⟨cq147, kq147, q147a, q147b, q147c⟩ := isOf hZ146 e146 (f141_0.ext E146)
  obtain ⟨_, _, ⟨T147, L147, k147, n147⟩, -, X147, ⟨Lc147, hQ147, l147, y147, z147⟩, st147⟩ := X146.virtualBack hx (y := (⟨"java/lang/StringBuilder", "append", "(Ljava/lang/String;)Ljava/lang/StringBuilder;"⟩ : MethodName)) (z := (⟨"java/lang/StringBuilder", "append", "(Ljava/lang/String;)Ljava/lang/StringBuilder;"⟩ : MethodName)) hO146 (mvT hZ146 hw66) (mvT hZ146 hw67) (notFace_of_selects (args := #[]) (mvT hZ146 hw69)) (mvT hZ146 hw69) (mvT hZ146 hw68) (by decide) (backOf (W := 0) (rmAp l Z a0 hw [] vcs vfm G b137 a146 (((0 : Int32) + z1)) rb_138 kb_138 vsn_141 bb146 kb146 ((1 : Int32)) ([(Value.int (46 : Int32))]) h146 n0 O146 (f141_0.ext E146) (f141_1.ext E146) (f141_2.ext E146) (f141_3.ext E146) Ex146 Fv146 Fc146 Vb146 (f141_4.ext E146) g_rb_138 g_b137 (own_rm2 hz1)) hZ146 hw70 hw50 (by decide) (by decide)) q147a q147c (g := (mkF m 16 #[vr ta] [(.ref a146), (.ref b137)])) rfl (by rw [hml]; rfl) (Steps.refl _) (argsL := [(.ref a146)]) (rest := []) (lenOf pd_20 rfl) rfl (by show 2 * 0 + _ ≤ _; exact Nat.le_of_eq rfl) (hb hby d7_16) (fun _ _ => ⟨rfl, e146, (by decide : 4 + 0 ≤ _), (by decide : 28 + 0 ≤ _)⟩)
  dsimp only [Pt.U, Pt.locs, Pt.cells, Pt.slots] at X147 l147 y147 z147 st147 hQ147
  subst l147 y147 z147
  obtain ⟨vsn_147, rfl, N147q, K147, f147_0, f147_1, f147_2, f147_3, f147_4, r147_0⟩ := hQ147
  have N147 := Fr.app N141 N147q
  obtain ⟨lc147, X147, N147⟩ := own_pack X147 N147
  refine Go.by' (fun t k => st147.trans k) ?_
  have Sb147 := Sb146.keep K147 (sfS (A146.safe (Nat.lt_of_lt_of_le A137.lt (Nat.le_trans K138.1 K141.1)) (Safe.keep K141 (sfS (Safe.keep K138 (sfS (Safe.ext E137 Sb0.ch Sf_b137) sf0) Sb137.ch (Safe.ext E137 Sb0.ch Sf_b137)) (sfS (Safe.keep K138 (sfS (Safe.ext E137 Sb0.ch Sf_b137) sf0) Sb137.ch Sf_rb_138) sf0)) Sb138.ch (Safe.keep K138 (sfS (Safe.ext E137 Sb0.ch Sf_b137) sf0) Sb137.ch (Safe.ext E137 Sb0.ch Sf_b137)))) (sfS (A146.safe (Nat.lt_of_lt_of_le f138_4.lt K141.1) (Safe.keep K141 (sfS (Safe.keep K138 (sfS (Safe.ext E137 Sb0.ch Sf_b137) sf0) Sb137.ch (Safe.ext E137 Sb0.ch Sf_b137)) (sfS (Safe.keep K138 (sfS (Safe.ext E137 Sb0.ch Sf_b137) sf0) Sb137.ch Sf_rb_138) sf0)) Sb138.ch (Safe.keep K138 (sfS (Safe.ext E137 Sb0.ch Sf_b137) sf0) Sb137.ch Sf_rb_138))) sf0))
  have O147 := O146.keep K147 (allS g_b137 (allS g_rb_138 all0))
  have KC147 : Keep h0 T147.heap [] := KC146.trans K147 (allS (Or.inr sz_b137) (allS (Or.inr sz_rb_138) all0))
  show Go p.tables e below Pf (T147.setTop (mkF m 19 #[vr ta] [(.ref b137)]))
  refine Go.by' (fun t k => (XS.aloadN X147.here hx rfl (hb hby d7_19) rfl rfl k)) ?_
  have c148 := (((((F2.ext E137).keep K138 (ninS (Nat.ne_of_lt (Nat.lt_of_lt_of_le EX.lt (Nat.le_of_eq g137.symm))) nin0)).keep K141 (ninS (Nat.ne_of_lt (Nat.lt_of_lt_of_le EX.lt (Nat.le_of_eq g137.symm))) (ninS (Nat.ne_of_lt (Nat.lt_of_lt_of_le (Nat.lt_of_lt_of_le EX.lt E137.1) f138_5)) nin0))).ext E146).keep K147 (ninS (Nat.ne_of_lt (Nat.lt_of_lt_of_le EX.lt (Nat.le_of_eq g137.symm))) (ninS (Nat.ne_of_lt (Nat.lt_of_lt_of_le (Nat.lt_of_lt_of_le EX.lt E137.1) f138_5)) nin0)))
  obtain ⟨T149, X149, e149, st149⟩ := getF X147 hx hZ146 hO146 (host := "") (Or.inl hw41) Via.refl rfl c148 (g := (mkF m 20 #[vr ta] [(.ref ta), (.ref b137)])) rfl rfl (hb hby d7_20)
  refine Go.by' st149 ?_
  have c151 := (((((A2.ext E137).keep K138 (ninS (Nat.ne_of_lt (Nat.lt_of_lt_of_le A2.lt (Nat.le_of_eq g137.symm))) nin0)).keep K141 (ninS (Nat.ne_of_lt (Nat.lt_of_lt_of_le A2.lt (Nat.le_of_eq g137.symm))) (ninS (Nat.ne_of_lt (Nat.lt_of_lt_of_le (Nat.lt_of_lt_of_le A2.lt E137.1) f138_5)) nin0))).ext E146).keep K147 (ninS (Nat.ne_of_lt (Nat.lt_of_lt_of_le A2.lt (Nat.le_of_eq g137.symm))) (ninS (Nat.ne_of_lt (Nat.lt_of_lt_of_le (Nat.lt_of_lt_of_le A2.lt E137.1) f138_5)) nin0)))
  have c152 := (((((E2.ext E137).keep K138).keep K141).ext E146).keep K147)
  have c153 := (((((V2.ext E137).keep K138 (ninS (Nat.ne_of_lt (Nat.lt_of_lt_of_le E2.lt (Nat.le_of_eq g137.symm))) nin0)).keep K141 (ninS (Nat.ne_of_lt (Nat.lt_of_lt_of_le E2.lt (Nat.le_of_eq g137.symm))) (ninS (Nat.ne_of_lt (Nat.lt_of_lt_of_le (Nat.lt_of_lt_of_le E2.lt E137.1) f138_5)) nin0))).ext E146).keep K147 (ninS (Nat.ne_of_lt (Nat.lt_of_lt_of_le E2.lt (Nat.le_of_eq g137.symm))) (ninS (Nat.ne_of_lt (Nat.lt_of_lt_of_le (Nat.lt_of_lt_of_le E2.lt E137.1) f138_5)) nin0)))
  have c154 := (((((C2.ext E137).keep K138 (ninS (Nat.ne_of_lt (Nat.lt_of_lt_of_le E2.lt (Nat.le_of_eq g137.symm))) nin0)).keep K141 (ninS (Nat.ne_of_lt (Nat.lt_of_lt_of_le E2.lt (Nat.le_of_eq g137.symm))) (ninS (Nat.ne_of_lt (Nat.lt_of_lt_of_le (Nat.lt_of_lt_of_le E2.lt E137.1) f138_5)) nin0))).ext E146).keep K147 (ninS (Nat.ne_of_lt (Nat.lt_of_lt_of_le E2.lt (Nat.le_of_eq g137.symm))) (ninS (Nat.ne_of_lt (Nat.lt_of_lt_of_le (Nat.lt_of_lt_of_le E2.lt E137.1) f138_5)) nin0)))
  obtain ⟨cq150, kq150, q150a, q150b, q150c⟩ := isOf hZ146 e149 f147_0
  obtain ⟨_, _, ⟨T150, L150, k150, n150⟩, -, X150, ⟨Lc150, hQ150, l150, y150, z150⟩, st150⟩ := X149.virtualBack hx (y := (⟨"java/lang/StringBuilder", "append", "(Ljava/lang/String;)Ljava/lang/StringBuilder;"⟩ : MethodName)) (z := (⟨"java/lang/StringBuilder", "append", "(Ljava/lang/String;)Ljava/lang/StringBuilder;"⟩ : MethodName)) hO146 (mvT hZ146 hw66) (mvT hZ146 hw67) (notFace_of_selects (args := #[]) (mvT hZ146 hw69)) (mvT hZ146 hw69) (mvT hZ146 hw68) (by decide) (backOf (W := 0) (rmAp l Z a0 hw [] vcs vfm G b137 p2 ((((0 : Int32) + z1) + (1 : Int32))) rb_138 kb_138 vsn_147 v2 k2 z2 vs2 T147.heap n0 O147 f147_0 f147_1 f147_2 f147_3 c152 c153 c154 c151 f147_4 g_rb_138 g_b137 (own_rm3 hz1 hz2)) hZ146 hw70 hw50 (by decide) (by decide)) q150a q150c (g := (mkF m 23 #[vr ta] [(.ref p2), (.ref b137)])) rfl (by rw [hml]; rfl) (Steps.refl _) (argsL := [(.ref p2)]) (rest := []) (lenOf pd_20 rfl) rfl (by show 2 * 0 + _ ≤ _; exact Nat.le_of_eq rfl) (hb hby d7_23) (fun _ _ => ⟨rfl, e149, (by decide : 4 + 0 ≤ _), (by decide : 28 + 0 ≤ _)⟩)
  dsimp only [Pt.U, Pt.locs, Pt.cells, Pt.slots] at X150 l150 y150 z150 st150 hQ150
  subst l150 y150 z150
  obtain ⟨vsn_150, rfl, N150q, K150, f150_0, f150_1, f150_2, f150_3, f150_4, r150_0⟩ := hQ150
  have N150 := Fr.app N147 N150q
  obtain ⟨lc150, X150, N150⟩ := own_pack X150 N150
  refine Go.by' (fun t k => st150.trans k) ?_
  have Sb150 := Sb147.keep K150 (sfS (Safe.keep K147 (sfS (A146.safe (Nat.lt_of_lt_of_le A137.lt (Nat.le_trans K138.1 K141.1)) (Safe.keep K141 (sfS (Safe.keep K138 (sfS (Safe.ext E137 Sb0.ch Sf_b137) sf0) Sb137.ch (Safe.ext E137 Sb0.ch Sf_b137)) (sfS (Safe.keep K138 (sfS (Safe.ext E137 Sb0.ch Sf_b137) sf0) Sb137.ch Sf_rb_138) sf0)) Sb138.ch (Safe.keep K138 (sfS (Safe.ext E137 Sb0.ch Sf_b137) sf0) Sb137.ch (Safe.ext E137 Sb0.ch Sf_b137)))) (sfS (A146.safe (Nat.lt_of_lt_of_le f138_4.lt K141.1) (Safe.keep K141 (sfS (Safe.keep K138 (sfS (Safe.ext E137 Sb0.ch Sf_b137) sf0) Sb137.ch (Safe.ext E137 Sb0.ch Sf_b137)) (sfS (Safe.keep K138 (sfS (Safe.ext E137 Sb0.ch Sf_b137) sf0) Sb137.ch Sf_rb_138) sf0)) Sb138.ch (Safe.keep K138 (sfS (Safe.ext E137 Sb0.ch Sf_b137) sf0) Sb137.ch Sf_rb_138))) sf0)) Sb146.ch (A146.safe (Nat.lt_of_lt_of_le A137.lt (Nat.le_trans K138.1 K141.1)) (Safe.keep K141 (sfS (Safe.keep K138 (sfS (Safe.ext E137 Sb0.ch Sf_b137) sf0) Sb137.ch (Safe.ext E137 Sb0.ch Sf_b137)) (sfS (Safe.keep K138 (sfS (Safe.ext E137 Sb0.ch Sf_b137) sf0) Sb137.ch Sf_rb_138) sf0)) Sb138.ch (Safe.keep K138 (sfS (Safe.ext E137 Sb0.ch Sf_b137) sf0) Sb137.ch (Safe.ext E137 Sb0.ch Sf_b137))))) (sfS (Safe.keep K147 (sfS (A146.safe (Nat.lt_of_lt_of_le A137.lt (Nat.le_trans K138.1 K141.1)) (Safe.keep K141 (sfS (Safe.keep K138 (sfS (Safe.ext E137 Sb0.ch Sf_b137) sf0) Sb137.ch (Safe.ext E137 Sb0.ch Sf_b137)) (sfS (Safe.keep K138 (sfS (Safe.ext E137 Sb0.ch Sf_b137) sf0) Sb137.ch Sf_rb_138) sf0)) Sb138.ch (Safe.keep K138 (sfS (Safe.ext E137 Sb0.ch Sf_b137) sf0) Sb137.ch (Safe.ext E137 Sb0.ch Sf_b137)))) (sfS (A146.safe (Nat.lt_of_lt_of_le f138_4.lt K141.1) (Safe.keep K141 (sfS (Safe.keep K138 (sfS (Safe.ext E137 Sb0.ch Sf_b137) sf0) Sb137.ch (Safe.ext E137 Sb0.ch Sf_b137)) (sfS (Safe.keep K138 (sfS (Safe.ext E137 Sb0.ch Sf_b137) sf0) Sb137.ch Sf_rb_138) sf0)) Sb138.ch (Safe.keep K138 (sfS (Safe.ext E137 Sb0.ch Sf_b137) sf0) Sb137.ch Sf_rb_138))) sf0)) Sb146.ch (A146.safe (Nat.lt_of_lt_of_le f138_4.lt K141.1) (Safe.keep K141 (sfS (Safe.keep K138 (sfS (Safe.ext E137 Sb0.ch Sf_b137) sf0) Sb137.ch (Safe.ext E137 Sb0.ch Sf_b137)) (sfS (Safe.keep K138 (sfS (Safe.ext E137 Sb0.ch Sf_b137) sf0) Sb137.ch Sf_rb_138) sf0)) Sb138.ch (Safe.keep K138 (sfS (Safe.ext E137 Sb0.ch Sf_b137) sf0) Sb137.ch Sf_rb_138)))) sf0))
  have O150 := O147.keep K150 (allS g_b137 (allS g_rb_138 all0))
  have KC150 : Keep h0 T150.heap [] := KC147.trans K150 (allS (Or.inr sz_b137) (allS (Or.inr sz_rb_138) all0))
  obtain ⟨cq155, kq155, q155a, q155b, q155c⟩ := isOf hZ146 rfl f150_0
  obtain ⟨_, _, ⟨T155, L155, k155, n155⟩, -, X155, ⟨Lc155, hQ155, l155, y155, z155⟩, st155⟩ := X150.virtualBack hx (y := (⟨"java/lang/StringBuilder", "toString", "()Ljava/lang/String;"⟩ : MethodName)) (z := (⟨"java/lang/StringBuilder", "toString", "()Ljava/lang/String;"⟩ : MethodName)) hO146 (mvT hZ146 hw115) (mvT hZ146 hw116) (notFace_of_selects (args := #[]) (mvT hZ146 hw118)) (mvT hZ146 hw118) (mvT hZ146 hw117) (by decide) (backOf (W := 0) (rmTS l Z a0 hw [] vcs vfm G b137 rb_138 kb_138 vsn_150 (((((0 : Int32) + z1) + (1 : Int32)) + z2)) T150.heap n0 O150 f150_0 f150_1 f150_2 f150_3 f150_4 (own_cc hz1 hz2).1 (own_cc hz1 hz2).2.1 (own_cc hz1 hz2).2.2) hZ146 hw119 hw50 (by decide) (by decide)) q155a q155c (g := (mkF m 26 #[vr ta] [(.ref b137)])) rfl (by rw [hml]; rfl) (Steps.refl _) (argsL := []) (rest := []) (lenOf pd_21 rfl) rfl (by show 2 * 0 + _ ≤ _; exact Nat.le_of_eq rfl) (hb hby d7_26) (fun _ _ => ⟨rfl, rfl, (by decide : 4 + 2 ≤ _), (by decide : 28 + 20 ≤ _)⟩)
  dsimp only [Pt.U, Pt.locs, Pt.cells, Pt.slots] at X155 l155 y155 z155 st155 hQ155
  subst l155 y155 z155
  obtain ⟨r_155, rb_155, kb_155, vsn_155, rfl, N155q, K155, f155_0, f155_1, f155_2, f155_3, f155_4, f155_5, r155_0⟩ := hQ155
  have N155 := Fr.app N150 N155q
  obtain ⟨lc155, X155, N155⟩ := own_pack X155 N155
  refine Go.by' (fun t k => st155.trans k) ?_
  have Sf_r_155 : Safe Z consts_1 T146.vm T150.heap r_155 := Safe.new f155_0
  have g_r_155 : n0 ≤ r_155 := Nat.le_trans (own_le O150) f155_0
  have sz_r_155 : h0.size ≤ r_155 := Nat.le_trans KC150.1 f155_0
  have Sf_rb_155 : Safe Z consts_1 T146.vm T150.heap rb_155 := Safe.new f155_5
  have g_rb_155 : n0 ≤ rb_155 := Nat.le_trans (own_le O150) f155_5
  have sz_rb_155 : h0.size ≤ rb_155 := Nat.le_trans KC150.1 f155_5
  have Sb155 := Sb150.keep K155 sf0
  have O155 := O150.keep K155 all0
  have KC155 : Keep h0 T155.heap [] := KC150.trans K155 all0
  show Go p.tables e below Pf (T155.setTop (mkF m 29 #[vr ta] [(.ref r_155)]))
  rw [hPf]
  exact Go.retAS X155 hx hEL Sb155 rfl hh hret hlk rfl rfl (hb hby d7_29) (by decide) (by decide) ⟨r_155, rb_155, kb_155, ((((0 : Int32) + z1) + (1 : Int32)) + z2), vsn_155, rfl, N155, KC155, f155_1, sz_r_155, f155_2, f155_3, f155_4, sz_rb_155, rfl, (by rw [r155_0, r150_0, r147_0, r141_0]; rfl)⟩
theorem d31_0 : decode jdk_42_method_154_code 0 = .ok (.getstatic 38, 3) := by decide +kernel
theorem d31_3 : decode jdk_42_method_154_code 3 = .ok (.ifCond .eq 14, 3) := by decide +kernel
theorem d31_6 : decode jdk_42_method_154_code 6 = .ok (.aload_n 0, 1) := by decide +kernel
theorem d31_7 : decode jdk_42_method_154_code 7 = .ok (.getfield 15, 3) := by decide +kernel
theorem d31_10 : decode jdk_42_method_154_code 10 = .ok (.ifCond .ne 7, 3) := by decide +kernel
theorem d31_13 : decode jdk_42_method_154_code 13 = .ok (.iconst 1, 1) := by decide +kernel
theorem d31_14 : decode jdk_42_method_154_code 14 = .ok (.goto 4, 3) := by decide +kernel
theorem d31_18 : decode jdk_42_method_154_code 18 = .ok (.ireturn, 1) := by decide +kernel
theorem pn_31 : plainName "java/lang/String" = true := by first | (simp [plainName, overriddenIn]; done) | decide +kernel
set_option maxHeartbeats 4000000 in
theorem ef_rmSL (m : MethodId) {sa : Addr} : entryFrame m #[(.ref sa)] 1 = mkF m 0 #[vr sa] [] := by first | (simp [entryFrame, mkF, argsToLocals, Value.category]; done) | rfl
def QrmSL (Z : State) (vcs : Int32) (vfm : Value) (sa : Addr) (h0 : Heap) (n0 : Nat) (v : Option Value) (h : Heap) (L : List Loc) : Prop := (v = some (.int (1 : Int32))) ∧ (L = []) ∧ (h = h0)
set_option maxRecDepth 65536 in
set_option maxHeartbeats 40000000 in
theorem rmSL (l : Launch) (Z : State) (a0 : Array Value) (hw : ∀ d ∈ tables_1, d.before a0 Z = true) (ws : List Jvm.Cond) (vcs : Int32) (vfm : Value) (G : Gh Z vcs vfm) (sa : Addr) (h0 : Heap) (n0 : Nat) (O0 : Old Z n0 h0) (CA : Fld Z h0 sa "java/lang/String" "coder" "B" (.int (0 : Int32))) :
    MetFree l (⟨"java/lang/String", "isLatin1", "()Z"⟩ : MethodName) (head1 (Jvm.Cond.code (⟨"java/lang/String", "isLatin1", "()Z"⟩ : MethodName) jdk_42_method_154_code 1 (some .boolean) :: ws) ({ frames := 0, cells := 0, slots := 0, locals := 0 } : Room)) (fun aa' UU' => aa' = #[(.ref sa)] ∧ Z.Warmed39 UU'.vm ∧ UU'.heap = h0) (fun _ _ _ _ _ => True) (fun _ UU' oo' VV' => ∃ v' L', oo' = .returned v' ∧ QrmSL Z vcs vfm sa h0 n0 v' VV'.heap L' ∧ FrameEnd UU' oo' VV' L' ({ frames := 0, cells := 0, slots := 0, locals := 0 } : Room).cells ({ frames := 0, cells := 0, slots := 0, locals := 0 } : Room).slots) := by
  refine MetFree.of_bodySF (plainFor_of_name pn_31) hisR ?_
  intro p e s m args below meth c s₁ Bd hml0 hP hK
  obtain ⟨rfl, hZ, hh⟩ := hP
  have hx := Bd.exec
  have hby := Bd.bytes
  have hlk := Bd.notSynchronized
  have hml : c.maxLocals = 1 := hml0
  have hown : s.vm.findClass "java/lang/String" = some m.cls := findClass_of_methodNamed Bd.named
  have hnm := (name_of_methodNamed Bd.named Bd.method).1
  have hret := Bd.returns
  have X0 : Stand p l e ({ frames := 0, cells := 0, slots := 0, locals := 0 } : Room) s m #[(.ref sa)] below meth c s₁ [] 0 0 := Stand.of_body Bd
  have e0 : s₁.heap = h0 := by rw [← hh, Bd.state]; rfl
  have N0 := Fr.nil n0
  refine Go.body ?_
  obtain ⟨Pf, hPf⟩ : ∃ P, P = Fin' s below ({ frames := 0, cells := 0, slots := 0, locals := 0 } : Room).cells ({ frames := 0, cells := 0, slots := 0, locals := 0 } : Room).slots (QrmSL Z vcs vfm sa h0 n0) := ⟨_, rfl⟩
  rw [← hPf]
  refine Go.cast (ef_rmSL m) ?_
  have hw26 := (hw _ (List.mem_of_getElem? (i := 26) rfl))
  have hw86 := (hw _ (List.mem_of_getElem? (i := 86) rfl))
  obtain ⟨T156, X156, e156, st156⟩ := getS2 X0 hx hZ hown (host := "") (Or.inl hw86) Via.refl e0 (G.1.ext O0.2) (g := (mkF m 0 #[vr sa] [])) rfl (hb hby d31_0)
  refine Go.by' st156 ?_
  show Go p.tables e below Pf (T156.setTop (mkF m 3 #[vr sa] [(.int vcs)]))
  refine Go.by' (fun t k => (XS.ifNo X156.here hx rfl (hb hby d31_3) rfl ((if0 _ _).trans (feq G.2.1).1) (XS.aloadN X156.here hx rfl (hb hby d31_6) rfl rfl k))) ?_
  obtain ⟨T157, X157, e157, st157⟩ := getF X156 hx hZ hown (host := "") (Or.inl hw26) Via.refl e156 CA (g := (mkF m 7 #[vr sa] [(.ref sa)])) rfl rfl (hb hby d31_7)
  refine Go.by' st157 ?_
  show Go p.tables e below Pf (T157.setTop (mkF m 10 #[vr sa] [(.int (0 : Int32))]))
  refine Go.by' (fun t k => (XS.ifNo X157.here hx rfl (hb hby d31_10) rfl ((if0 _ _).trans (teq (by decide)).2) (XS.iconst X157.here hx rfl (hb hby d31_13) (XS.goto X157.here hx rfl (pc0 := 14) (pc' := 18) rfl (hb hby d31_14) (by decide) (by decide) k)))) ?_
  show Go p.tables e below Pf (T157.setTop (mkF m 18 #[vr sa] [(.int (1 : Int32))]))
  rw [hPf]
  exact Go.retI' X157 hx hret hlk (by simp) rfl (hb hby d31_18) (by decide) (by decide) ⟨rfl, rfl, e157⟩
theorem d34_0 : decode jdk_41_method_11_code 0 = .ok (.iload_n 0, 1) := by decide +kernel
theorem d34_1 : decode jdk_41_method_11_code 1 = .ok (.ifCond .lt 8, 3) := by decide +kernel
theorem d34_4 : decode jdk_41_method_11_code 4 = .ok (.iload_n 0, 1) := by decide +kernel
theorem d34_5 : decode jdk_41_method_11_code 5 = .ok (.iload_n 1, 1) := by decide +kernel
theorem d34_6 : decode jdk_41_method_11_code 6 = .ok (.if_icmp .lt 10, 3) := by decide +kernel
theorem d34_16 : decode jdk_41_method_11_code 16 = .ok (.iload_n 0, 1) := by decide +kernel
theorem d34_17 : decode jdk_41_method_11_code 17 = .ok (.ireturn, 1) := by decide +kernel
theorem pn_34 : plainName "jdk/internal/util/Preconditions" = true := by first | (simp [plainName, overriddenIn]; done) | decide +kernel
set_option maxHeartbeats 4000000 in
theorem ef_rmPC (m : MethodId) {ix : Int32} {zn : Int32} {fm : Value} (hU_fm : fm.isRef = true) : entryFrame m #[(.int ix), (.int zn), fm] 3 = mkF m 0 #[vi ix, vi zn, .val fm] [] := by rcases ref_cases hU_fm with rfl | ⟨_, rfl⟩ <;> first | (simp [entryFrame, mkF, argsToLocals, Value.category]; done) | rfl
def QrmPC (Z : State) (vcs : Int32) (vfm : Value) (ix : Int32) (zn : Int32) (fm : Value) (h0 : Heap) (n0 : Nat) (v : Option Value) (h : Heap) (L : List Loc) : Prop := (v = some (.int ix)) ∧ (L = []) ∧ (h = h0)
set_option maxRecDepth 65536 in
set_option maxHeartbeats 40000000 in
theorem rmPC (l : Launch) (Z : State) (a0 : Array Value) (hw : ∀ d ∈ tables_1, d.before a0 Z = true) (ws : List Jvm.Cond) (vcs : Int32) (vfm : Value) (G : Gh Z vcs vfm) (ix : Int32) (zn : Int32) (fm : Value) (h0 : Heap) (n0 : Nat) (O0 : Old Z n0 h0) (hU_fm : fm.isRef = true) (hi0 : ¬ (ix < (0 : Int32))) (hi1 : ix < zn) :
    MetFree l (⟨"jdk/internal/util/Preconditions", "checkIndex", "(IILjava/util/function/BiFunction;)I"⟩ : MethodName) (head1 (Jvm.Cond.code (⟨"jdk/internal/util/Preconditions", "checkIndex", "(IILjava/util/function/BiFunction;)I"⟩ : MethodName) jdk_41_method_11_code 3 (some .int) :: ws) ({ frames := 0, cells := 0, slots := 0, locals := 0 } : Room)) (fun aa' UU' => aa' = #[(.int ix), (.int zn), fm] ∧ Z.Warmed39 UU'.vm ∧ UU'.heap = h0) (fun _ _ _ _ _ => True) (fun _ UU' oo' VV' => ∃ v' L', oo' = .returned v' ∧ QrmPC Z vcs vfm ix zn fm h0 n0 v' VV'.heap L' ∧ FrameEnd UU' oo' VV' L' ({ frames := 0, cells := 0, slots := 0, locals := 0 } : Room).cells ({ frames := 0, cells := 0, slots := 0, locals := 0 } : Room).slots) := by
  refine MetFree.of_bodySF (plainFor_of_name pn_34) hisR ?_
  intro p e s m args below meth c s₁ Bd hml0 hP hK
  obtain ⟨rfl, hZ, hh⟩ := hP
  have hx := Bd.exec
  have hby := Bd.bytes
  have hlk := Bd.notSynchronized
  have hml : c.maxLocals = 3 := hml0
  have hown : s.vm.findClass "jdk/internal/util/Preconditions" = some m.cls := findClass_of_methodNamed Bd.named
  have hnm := (name_of_methodNamed Bd.named Bd.method).1
  have hret := Bd.returns
  have X0 : Stand p l e ({ frames := 0, cells := 0, slots := 0, locals := 0 } : Room) s m #[(.int ix), (.int zn), fm] below meth c s₁ [] 0 0 := Stand.of_body Bd
  have e0 : s₁.heap = h0 := by rw [← hh, Bd.state]; rfl
  have N0 := Fr.nil n0
  refine Go.body ?_
  obtain ⟨Pf, hPf⟩ : ∃ P, P = Fin' s below ({ frames := 0, cells := 0, slots := 0, locals := 0 } : Room).cells ({ frames := 0, cells := 0, slots := 0, locals := 0 } : Room).slots (QrmPC Z vcs vfm ix zn fm h0 n0) := ⟨_, rfl⟩
  rw [← hPf]
  refine Go.cast (ef_rmPC m hU_fm) ?_
  show Go p.tables e below Pf (s₁.setTop (mkF m 0 #[vi ix, vi zn, .val fm] []))
  refine Go.by' (fun t k => (XS.iloadN X0.here hx rfl (hb hby d34_0) rfl (XS.ifNo X0.here hx rfl (hb hby d34_1) rfl ((if0 _ _).trans (flt hi0).1) (XS.iloadN X0.here hx rfl (hb hby d34_4) rfl (XS.iloadN X0.here hx rfl (hb hby d34_5) rfl (XS.icmpYes X0.here hx rfl (pc0 := 6) (pc' := 16) rfl (hb hby d34_6) rfl (tlt hi1).1 (by decide) (by decide) (XS.iloadN X0.here hx rfl (hb hby d34_16) rfl k))))))) ?_
  show Go p.tables e below Pf (s₁.setTop (mkF m 17 #[vi ix, vi zn, .val fm] [(.int ix)]))
  rw [hPf]
  exact Go.retI' X0 hx hret hlk (by simp) rfl (hb hby d34_17) (by decide) (by decide) ⟨rfl, rfl, e0⟩
theorem d33_0 : decode jdk_42_method_155_code 0 = .ok (.iload_n 0, 1) := by decide +kernel
theorem d33_1 : decode jdk_42_method_155_code 1 = .ok (.iload_n 1, 1) := by decide +kernel
theorem d33_2 : decode jdk_42_method_155_code 2 = .ok (.getstatic 1053, 3) := by decide +kernel
theorem d33_5 : decode jdk_42_method_155_code 5 = .ok (.invokestatic 1059, 3) := by decide +kernel
theorem pd_22 : parseMethodDescriptor "(IILjava/util/function/BiFunction;)I" = some ⟨[.int, .int, (.object "java/util/function/BiFunction")], some .int⟩ := by decide +kernel
theorem d33_8 : decode jdk_42_method_155_code 8 = .ok (.pop, 1) := by decide +kernel
theorem d33_9 : decode jdk_42_method_155_code 9 = .ok (.return_, 1) := by decide +kernel
theorem pn_33 : plainName "java/lang/String" = true := by first | (simp [plainName, overriddenIn]; done) | decide +kernel
set_option maxHeartbeats 4000000 in
theorem ef_rmCI (m : MethodId) {ix : Int32} {zn : Int32} : entryFrame m #[(.int ix), (.int zn)] 2 = mkF m 0 #[vi ix, vi zn] [] := by first | (simp [entryFrame, mkF, argsToLocals, Value.category]; done) | rfl
def QrmCI (Z : State) (vcs : Int32) (vfm : Value) (ix : Int32) (zn : Int32) (h0 : Heap) (n0 : Nat) (v : Option Value) (h : Heap) (L : List Loc) : Prop := (v = none) ∧ (L = []) ∧ (h = h0)
set_option maxRecDepth 65536 in
set_option maxHeartbeats 40000000 in
theorem rmCI (l : Launch) (Z : State) (a0 : Array Value) (hw : ∀ d ∈ tables_1, d.before a0 Z = true) (ws : List Jvm.Cond) (vcs : Int32) (vfm : Value) (G : Gh Z vcs vfm) (ix : Int32) (zn : Int32) (h0 : Heap) (n0 : Nat) (O0 : Old Z n0 h0) (hi0 : ¬ (ix < (0 : Int32))) (hi1 : ix < zn) :
    MetFree l (⟨"java/lang/String", "checkIndex", "(II)V"⟩ : MethodName) (head1 (Jvm.Cond.code (⟨"java/lang/String", "checkIndex", "(II)V"⟩ : MethodName) jdk_42_method_155_code 2 none :: ws) ({ frames := 1, cells := 0, slots := 0, locals := 14 } : Room)) (fun aa' UU' => aa' = #[(.int ix), (.int zn)] ∧ Z.Warmed39 UU'.vm ∧ UU'.heap = h0) (fun _ _ _ _ _ => True) (fun _ UU' oo' VV' => ∃ v' L', oo' = .returned v' ∧ QrmCI Z vcs vfm ix zn h0 n0 v' VV'.heap L' ∧ FrameEnd UU' oo' VV' L' ({ frames := 1, cells := 0, slots := 0, locals := 14 } : Room).cells ({ frames := 1, cells := 0, slots := 0, locals := 14 } : Room).slots) := by
  refine MetFree.of_bodySF (plainFor_of_name pn_33) hisR ?_
  intro p e s m args below meth c s₁ Bd hml0 hP hK
  obtain ⟨rfl, hZ, hh⟩ := hP
  have hx := Bd.exec
  have hby := Bd.bytes
  have hlk := Bd.notSynchronized
  have hml : c.maxLocals = 2 := hml0
  have hown : s.vm.findClass "java/lang/String" = some m.cls := findClass_of_methodNamed Bd.named
  have hnm := (name_of_methodNamed Bd.named Bd.method).1
  have hret := Bd.returns
  have X0 : Stand p l e ({ frames := 1, cells := 0, slots := 0, locals := 14 } : Room) s m #[(.int ix), (.int zn)] below meth c s₁ [] 0 0 := Stand.of_body Bd
  have e0 : s₁.heap = h0 := by rw [← hh, Bd.state]; rfl
  have N0 := Fr.nil n0
  refine Go.body ?_
  obtain ⟨Pf, hPf⟩ : ∃ P, P = Fin' s below ({ frames := 1, cells := 0, slots := 0, locals := 14 } : Room).cells ({ frames := 1, cells := 0, slots := 0, locals := 14 } : Room).slots (QrmCI Z vcs vfm ix zn h0 n0) := ⟨_, rfl⟩
  rw [← hPf]
  refine Go.cast (ef_rmCI m) ?_
  have hw181 := (hw _ (List.mem_of_getElem? (i := 181) rfl))
  have hw182 := (hw _ (List.mem_of_getElem? (i := 182) rfl))
  have hw183 := (hw _ (List.mem_of_getElem? (i := 183) rfl))
  have hw184 := (hw _ (List.mem_of_getElem? (i := 184) rfl))
  have hw185 := (hw _ (List.mem_of_getElem? (i := 185) rfl))
  show Go p.tables e below Pf (s₁.setTop (mkF m 0 #[vi ix, vi zn] []))
  refine Go.by' (fun t k => (XS.iloadN X0.here hx rfl (hb hby d33_0) rfl (XS.iloadN X0.here hx rfl (hb hby d33_1) rfl k))) ?_
  obtain ⟨T158, X158, e158, st158⟩ := getS2 X0 hx hZ hown (host := "") (Or.inl hw181) Via.refl e0 (G.2.2.1.ext O0.2) (g := (mkF m 2 #[vi ix, vi zn] [(.int zn), (.int ix)])) rfl (hb hby d33_2)
  refine Go.by' st158 ?_
  obtain ⟨_, _, ⟨T159, L159, k159, n159⟩, -, X159, ⟨Lc159, hQ159, l159, y159, z159⟩, st159⟩ := Jvm.LawKit.callS X158 hx (y := (⟨"jdk/internal/util/Preconditions", "checkIndex", "(IILjava/util/function/BiFunction;)I"⟩ : MethodName)) hown (mvT hZ hw183) (mvT hZ hw184) (mvT hZ hw182) (mvT hZ hw185) (by decide) (backOf (W := 0) (rmPC l Z a0 hw [] vcs vfm G ix zn vfm h0 n0 O0 G.2.2.2 hi0 hi1) hZ hw185 hw182 (by decide) (by decide)) (g := (mkF m 5 #[vi ix, vi zn] [vfm, (.int zn), (.int ix)])) rfl (by rw [hml]; rfl) (argsL := [(.int ix), (.int zn), vfm]) (rest := []) (lenOf pd_22 rfl) rfl (by show 2 * 0 + _ ≤ _; exact Nat.le_of_eq rfl) (hb hby d33_5) (fun _ _ => ⟨rfl, e158, (by decide : 0 + 0 ≤ _), (by decide : 0 + 0 ≤ _)⟩)
  dsimp only [Pt.U, Pt.locs, Pt.cells, Pt.slots] at X159 l159 y159 z159 st159 hQ159
  subst l159 y159 z159
  obtain ⟨rfl, rfl, e159⟩ := hQ159
  try replace X159 := own_nil X159
  refine Go.by' st159 ?_
  show Go p.tables e below Pf (T159.setTop (mkF m 8 #[vi ix, vi zn] [(.int ix)]))
  refine Go.by' (fun t k => (XS.pop X159.here hx rfl (hb hby d33_8) rfl rfl k)) ?_
  show Go p.tables e below Pf (T159.setTop (mkF m 9 #[vi ix, vi zn] []))
  rw [hPf]
  exact Go.retV' X159 hx hret hlk (hb hby d33_9) (by decide) (by decide) ⟨rfl, rfl, e159⟩
theorem d32_0 : decode jdk_43_method_2_code 0 = .ok (.iload_n 1, 1) := by decide +kernel
theorem d32_1 : decode jdk_43_method_2_code 1 = .ok (.aload_n 0, 1) := by decide +kernel
theorem d32_2 : decode jdk_43_method_2_code 2 = .ok (.arraylength, 1) := by decide +kernel
theorem d32_3 : decode jdk_43_method_2_code 3 = .ok (.invokestatic 9, 3) := by decide +kernel
theorem d32_6 : decode jdk_43_method_2_code 6 = .ok (.aload_n 0, 1) := by decide +kernel
theorem d32_7 : decode jdk_43_method_2_code 7 = .ok (.iload_n 1, 1) := by decide +kernel
theorem d32_8 : decode jdk_43_method_2_code 8 = .ok (.baload, 1) := by decide +kernel
theorem d32_9 : decode jdk_43_method_2_code 9 = .ok (.sipush 255, 3) := by decide +kernel
theorem d32_12 : decode jdk_43_method_2_code 12 = .ok (.iand, 1) := by decide +kernel
theorem d32_13 : decode jdk_43_method_2_code 13 = .ok (.i2c, 1) := by decide +kernel
theorem d32_14 : decode jdk_43_method_2_code 14 = .ok (.ireturn, 1) := by decide +kernel
theorem pn_32 : plainName "java/lang/StringLatin1" = true := by first | (simp [plainName, overriddenIn]; done) | decide +kernel
set_option maxHeartbeats 4000000 in
theorem ef_rmLC (m : MethodId) {va : Addr} {ix : Int32} : entryFrame m #[(.ref va), (.int ix)] 2 = mkF m 0 #[vr va, vi ix] [] := by first | (simp [entryFrame, mkF, argsToLocals, Value.category]; done) | rfl
def QrmLC (Z : State) (vcs : Int32) (vfm : Value) (va : Addr) (ix : Int32) (ka : ClassId) (zn : Int32) (vsx : (List Value)) (xe : Int32) (h0 : Heap) (n0 : Nat) (v : Option Value) (h : Heap) (L : List Loc) : Prop := (v = some (.int (xe &&& (255 : Int32)))) ∧ (L = []) ∧ (h = h0)
set_option maxRecDepth 65536 in
set_option maxHeartbeats 40000000 in
theorem rmLC (l : Launch) (Z : State) (a0 : Array Value) (hw : ∀ d ∈ tables_1, d.before a0 Z = true) (ws : List Jvm.Cond) (vcs : Int32) (vfm : Value) (G : Gh Z vcs vfm) (va : Addr) (ix : Int32) (ka : ClassId) (zn : Int32) (vsx : (List Value)) (xe : Int32) (h0 : Heap) (n0 : Nat) (O0 : Old Z n0 h0) (VA : Arv Z h0 va ka .byte zn vsx (.int (0 : Int32))) (hi0 : ¬ (ix < (0 : Int32))) (hi1 : ix < zn) (hel : vsx.getD ix.toNatClampNeg (Value.int (0 : Int32)) = Value.int xe) :
    MetFree l (⟨"java/lang/StringLatin1", "charAt", "([BI)C"⟩ : MethodName) (head1 (Jvm.Cond.code (⟨"java/lang/StringLatin1", "charAt", "([BI)C"⟩ : MethodName) jdk_43_method_2_code 2 (some .char) :: ws) ({ frames := 2, cells := 0, slots := 0, locals := 27 } : Room)) (fun aa' UU' => aa' = #[(.ref va), (.int ix)] ∧ Z.Warmed39 UU'.vm ∧ UU'.heap = h0) (fun _ _ _ _ _ => True) (fun _ UU' oo' VV' => ∃ v' L', oo' = .returned v' ∧ QrmLC Z vcs vfm va ix ka zn vsx xe h0 n0 v' VV'.heap L' ∧ FrameEnd UU' oo' VV' L' ({ frames := 2, cells := 0, slots := 0, locals := 27 } : Room).cells ({ frames := 2, cells := 0, slots := 0, locals := 27 } : Room).slots) := by
  refine MetFree.of_bodySF (plainFor_of_name pn_32) hisR ?_
  intro p e s m args below meth c s₁ Bd hml0 hP hK
  obtain ⟨rfl, hZ, hh⟩ := hP
  have hx := Bd.exec
  have hby := Bd.bytes
  have hlk := Bd.notSynchronized
  have hml : c.maxLocals = 2 := hml0
  have hown : s.vm.findClass "java/lang/StringLatin1" = some m.cls := findClass_of_methodNamed Bd.named
  have hnm := (name_of_methodNamed Bd.named Bd.method).1
  have hret := Bd.returns
  have X0 : Stand p l e ({ frames := 2, cells := 0, slots := 0, locals := 27 } : Room) s m #[(.ref va), (.int ix)] below meth c s₁ [] 0 0 := Stand.of_body Bd
  have e0 : s₁.heap = h0 := by rw [← hh, Bd.state]; rfl
  have N0 := Fr.nil n0
  refine Go.body ?_
  obtain ⟨Pf, hPf⟩ : ∃ P, P = Fin' s below ({ frames := 2, cells := 0, slots := 0, locals := 27 } : Room).cells ({ frames := 2, cells := 0, slots := 0, locals := 27 } : Room).slots (QrmLC Z vcs vfm va ix ka zn vsx xe h0 n0) := ⟨_, rfl⟩
  rw [← hPf]
  refine Go.cast (ef_rmLC m) ?_
  have hw7 := (hw _ (List.mem_of_getElem? (i := 7) rfl))
  have hw178 := (hw _ (List.mem_of_getElem? (i := 178) rfl))
  have hw179 := (hw _ (List.mem_of_getElem? (i := 179) rfl))
  have hw180 := (hw _ (List.mem_of_getElem? (i := 180) rfl))
  show Go p.tables e below Pf (s₁.setTop (mkF m 0 #[vr va, vi ix] []))
  refine Go.by' (fun t k => (XS.iloadN X0.here hx rfl (hb hby d32_0) rfl (XS.aloadN X0.here hx rfl (hb hby d32_1) rfl rfl k))) ?_
  obtain ⟨cl160, Ar160, -, S160, P160, -, -⟩ := (id VA)
  show Go p.tables e below Pf (s₁.setTop (mkF m 2 #[vr va, vi ix] [(.ref va), (.int ix)]))
  refine Go.by' (fun t k => (X0.arraylength hx (by rw [e0]; exact Ar160.1) (State.isArrayOf_alike hZ.alike Ar160.2.1) (g := (mkF m 2 #[vr va, vi ix] [(.ref va), (.int ix)])) rfl rfl (hb hby d32_2) t k)) ?_
  rw [len_of S160 P160]
  obtain ⟨_, _, ⟨T161, L161, k161, n161⟩, -, X161, ⟨Lc161, hQ161, l161, y161, z161⟩, st161⟩ := Jvm.LawKit.callS X0 hx (y := (⟨"java/lang/String", "checkIndex", "(II)V"⟩ : MethodName)) hown (mvT hZ hw178) (mvT hZ hw179) (mvT hZ hw7) (mvT hZ hw180) (by decide) (backOf (W := 0) (rmCI l Z a0 hw [] vcs vfm G ix zn h0 n0 O0 hi0 hi1) hZ hw180 hw7 (by decide) (by decide)) (g := (mkF m 3 #[vr va, vi ix] [(.int zn), (.int ix)])) rfl (by rw [hml]; rfl) (argsL := [(.int ix), (.int zn)]) (rest := []) (lenOf pd_11 rfl) rfl (by show 2 * 0 + _ ≤ _; exact Nat.le_of_eq rfl) (hb hby d32_3) (fun _ _ => ⟨rfl, e0, (by decide : 0 + 0 ≤ _), (by decide : 0 + 0 ≤ _)⟩)
  dsimp only [Pt.U, Pt.locs, Pt.cells, Pt.slots] at X161 l161 y161 z161 st161 hQ161
  subst l161 y161 z161
  obtain ⟨rfl, rfl, e161⟩ := hQ161
  try replace X161 := own_nil X161
  refine Go.by' st161 ?_
  show Go p.tables e below Pf (T161.setTop (mkF m 6 #[vr va, vi ix] []))
  refine Go.by' (fun t k => (XS.aloadN X161.here hx rfl (hb hby d32_6) rfl rfl (XS.iloadN X161.here hx rfl (hb hby d32_7) rfl k))) ?_
  obtain ⟨cl162, Ar162, q162, S162, P162, H162, G162⟩ := (id VA)
  have hin162 : ¬ (ix < 0 ∨ cl162.slots.size ≤ (ix).toNatClampNeg) := inb_of S162 ⟨hi0, hi1⟩
  show Go p.tables e below Pf (T161.setTop (mkF m 8 #[vr va, vi ix] [(.int ix), (.ref va)]))
  refine Go.by' (fun t k => (X161.baloadBytes hx (j := ix) (v := (.int xe)) (by rw [e161]; exact Ar162.1) (State.isArrayOf_alike hZ.alike Ar162.2.1) Ar162.2.2 hin162 (H162.at hin162 hel) (g := (mkF m 8 #[vr va, vi ix] [(.int ix), (.ref va)])) rfl rfl (hb hby d32_8) t (XS.sipush X161.here hx rfl (hb hby d32_9) (XS.iand X161.here hx rfl (hb hby d32_12) rfl (XS.i2c X161.here hx rfl (hb hby d32_13) rfl k))))) ?_
  show Go p.tables e below Pf (T161.setTop (mkF m 14 #[vr va, vi ix] [(.int ((xe &&& (255 : Int32)).toUInt32.toUInt16.toUInt32.toInt32))]))
  refine Go.castF (a := ((xe &&& (255 : Int32)).toUInt32.toUInt16.toUInt32.toInt32)) (b := (xe &&& (255 : Int32))) (fun z' : Int32 => mkF m 14 #[vr va, vi ix] [(.int z')]) (i2c_mask _) ?_
  show Go p.tables e below Pf (T161.setTop (mkF m 14 #[vr va, vi ix] [(.int (xe &&& (255 : Int32)))]))
  rw [hPf]
  exact Go.retI' X161 hx hret hlk (by simp) (congrArg Value.int (i2c_mask _)) (hb hby d32_14) (by decide) (by decide) ⟨rfl, rfl, e161⟩
theorem d30_0 : decode jdk_42_method_56_code 0 = .ok (.aload_n 0, 1) := by decide +kernel
theorem d30_1 : decode jdk_42_method_56_code 1 = .ok (.invokevirtual 492, 3) := by decide +kernel
theorem d30_4 : decode jdk_42_method_56_code 4 = .ok (.ifCond .eq 12, 3) := by decide +kernel
theorem d30_7 : decode jdk_42_method_56_code 7 = .ok (.aload_n 0, 1) := by decide +kernel
theorem d30_8 : decode jdk_42_method_56_code 8 = .ok (.getfield 9, 3) := by decide +kernel
theorem d30_11 : decode jdk_42_method_56_code 11 = .ok (.iload_n 1, 1) := by decide +kernel
theorem d30_12 : decode jdk_42_method_56_code 12 = .ok (.invokestatic 495, 3) := by decide +kernel
theorem pd_23 : parseMethodDescriptor "([BI)C" = some ⟨[(.array .byte), .int], some .char⟩ := by decide +kernel
theorem d30_15 : decode jdk_42_method_56_code 15 = .ok (.ireturn, 1) := by decide +kernel
theorem pn_30 : plainName "java/lang/String" = true := by first | (simp [plainName, overriddenIn]; done) | decide +kernel
set_option maxHeartbeats 4000000 in
theorem ef_rmSC (m : MethodId) {sa : Addr} {ix : Int32} : entryFrame m #[(.ref sa), (.int ix)] 2 = mkF m 0 #[vr sa, vi ix] [] := by first | (simp [entryFrame, mkF, argsToLocals, Value.category]; done) | rfl
def QrmSC (Z : State) (vcs : Int32) (vfm : Value) (sa : Addr) (ix : Int32) (va : Addr) (ka : ClassId) (zn : Int32) (vsx : (List Value)) (xe : Int32) (h0 : Heap) (n0 : Nat) (v : Option Value) (h : Heap) (L : List Loc) : Prop := (v = some (.int (xe &&& (255 : Int32)))) ∧ (L = []) ∧ (h = h0)
set_option maxRecDepth 65536 in
set_option maxHeartbeats 40000000 in
theorem rmSC (l : Launch) (Z : State) (a0 : Array Value) (hw : ∀ d ∈ tables_1, d.before a0 Z = true) (ws : List Jvm.Cond) (vcs : Int32) (vfm : Value) (G : Gh Z vcs vfm) (sa : Addr) (ix : Int32) (va : Addr) (ka : ClassId) (zn : Int32) (vsx : (List Value)) (xe : Int32) (h0 : Heap) (n0 : Nat) (O0 : Old Z n0 h0) (EA : Exa Z h0 sa "java/lang/String") (FA : Fld Z h0 sa "java/lang/String" "value" "[B" (.ref va)) (CA : Fld Z h0 sa "java/lang/String" "coder" "B" (.int (0 : Int32))) (VA : Arv Z h0 va ka .byte zn vsx (.int (0 : Int32))) (hi0 : ¬ (ix < (0 : Int32))) (hi1 : ix < zn) (hel : vsx.getD ix.toNatClampNeg (Value.int (0 : Int32)) = Value.int xe) :
    MetFree l (⟨"java/lang/String", "charAt", "(I)C"⟩ : MethodName) (head1 (Jvm.Cond.code (⟨"java/lang/String", "charAt", "(I)C"⟩ : MethodName) jdk_42_method_56_code 2 (some .char) :: ws) ({ frames := 3, cells := 0, slots := 0, locals := 40 } : Room)) (fun aa' UU' => aa' = #[(.ref sa), (.int ix)] ∧ Z.Warmed39 UU'.vm ∧ UU'.heap = h0) (fun _ _ _ _ _ => True) (fun _ UU' oo' VV' => ∃ v' L', oo' = .returned v' ∧ QrmSC Z vcs vfm sa ix va ka zn vsx xe h0 n0 v' VV'.heap L' ∧ FrameEnd UU' oo' VV' L' ({ frames := 3, cells := 0, slots := 0, locals := 40 } : Room).cells ({ frames := 3, cells := 0, slots := 0, locals := 40 } : Room).slots) := by
  refine MetFree.of_bodySF (plainFor_of_name pn_30) hisR ?_
  intro p e s m args below meth c s₁ Bd hml0 hP hK
  obtain ⟨rfl, hZ, hh⟩ := hP
  have hx := Bd.exec
  have hby := Bd.bytes
  have hlk := Bd.notSynchronized
  have hml : c.maxLocals = 2 := hml0
  have hown : s.vm.findClass "java/lang/String" = some m.cls := findClass_of_methodNamed Bd.named
  have hnm := (name_of_methodNamed Bd.named Bd.method).1
  have hret := Bd.returns
  have X0 : Stand p l e ({ frames := 3, cells := 0, slots := 0, locals := 40 } : Room) s m #[(.ref sa), (.int ix)] below meth c s₁ [] 0 0 := Stand.of_body Bd
  have e0 : s₁.heap = h0 := by rw [← hh, Bd.state]; rfl
  have N0 := Fr.nil n0
  refine Go.body ?_
  obtain ⟨Pf, hPf⟩ : ∃ P, P = Fin' s below ({ frames := 3, cells := 0, slots := 0, locals := 40 } : Room).cells ({ frames := 3, cells := 0, slots := 0, locals := 40 } : Room).slots (QrmSC Z vcs vfm sa ix va ka zn vsx xe h0 n0) := ⟨_, rfl⟩
  rw [← hPf]
  refine Go.cast (ef_rmSC m) ?_
  have hw7 := (hw _ (List.mem_of_getElem? (i := 7) rfl))
  have hw25 := (hw _ (List.mem_of_getElem? (i := 25) rfl))
  have hw169 := (hw _ (List.mem_of_getElem? (i := 169) rfl))
  have hw170 := (hw _ (List.mem_of_getElem? (i := 170) rfl))
  have hw171 := (hw _ (List.mem_of_getElem? (i := 171) rfl))
  have hw172 := (hw _ (List.mem_of_getElem? (i := 172) rfl))
  have hw173 := (hw _ (List.mem_of_getElem? (i := 173) rfl))
  have hw174 := (hw _ (List.mem_of_getElem? (i := 174) rfl))
  have hw175 := (hw _ (List.mem_of_getElem? (i := 175) rfl))
  have hw176 := (hw _ (List.mem_of_getElem? (i := 176) rfl))
  have hw177 := (hw _ (List.mem_of_getElem? (i := 177) rfl))
  show Go p.tables e below Pf (s₁.setTop (mkF m 0 #[vr sa, vi ix] []))
  refine Go.by' (fun t k => (XS.aloadN X0.here hx rfl (hb hby d30_0) rfl rfl k)) ?_
  obtain ⟨cq163, kq163, q163a, q163b, q163c⟩ := isOf hZ e0 EA
  obtain ⟨_, _, ⟨T163, L163, k163, n163⟩, -, X163, ⟨Lc163, hQ163, l163, y163, z163⟩, st163⟩ := X0.virtualBack hx (y := (⟨"java/lang/String", "isLatin1", "()Z"⟩ : MethodName)) (z := (⟨"java/lang/String", "isLatin1", "()Z"⟩ : MethodName)) hown (mvT hZ hw169) (mvT hZ hw170) (notFace_of_selects (args := #[]) (mvT hZ hw172)) (mvT hZ hw172) (mvT hZ hw171) (by decide) (backOf (W := 0) (rmSL l Z a0 hw [] vcs vfm G sa h0 n0 O0 CA) hZ hw173 hw7 (by decide) (by decide)) q163a q163c (g := (mkF m 1 #[vr sa, vi ix] [(.ref sa)])) rfl (by rw [hml]; rfl) (Steps.refl _) (argsL := []) (rest := []) (lenOf pd_15 rfl) rfl (by show 2 * 0 + _ ≤ _; exact Nat.le_of_eq rfl) (hb hby d30_1) (fun _ _ => ⟨rfl, e0, (by decide : 0 + 0 ≤ _), (by decide : 0 + 0 ≤ _)⟩)
  dsimp only [Pt.U, Pt.locs, Pt.cells, Pt.slots] at X163 l163 y163 z163 st163 hQ163
  subst l163 y163 z163
  obtain ⟨rfl, rfl, e163⟩ := hQ163
  try replace X163 := own_nil X163
  refine Go.by' (fun t k => st163.trans k) ?_
  show Go p.tables e below Pf (T163.setTop (mkF m 4 #[vr sa, vi ix] [(.int (1 : Int32))]))
  refine Go.by' (fun t k => (XS.ifNo X163.here hx rfl (hb hby d30_4) rfl ((if0 _ _).trans (feq (by decide)).1) (XS.aloadN X163.here hx rfl (hb hby d30_7) rfl rfl k))) ?_
  obtain ⟨T164, X164, e164, st164⟩ := getF X163 hx hZ hown (host := "") (Or.inl hw25) Via.refl e163 FA (g := (mkF m 8 #[vr sa, vi ix] [(.ref sa)])) rfl rfl (hb hby d30_8)
  refine Go.by' st164 ?_
  show Go p.tables e below Pf (T164.setTop (mkF m 11 #[vr sa, vi ix] [(.ref va)]))
  refine Go.by' (fun t k => (XS.iloadN X164.here hx rfl (hb hby d30_11) rfl k)) ?_
  obtain ⟨_, _, ⟨T165, L165, k165, n165⟩, -, X165, ⟨Lc165, hQ165, l165, y165, z165⟩, st165⟩ := Jvm.LawKit.callS X164 hx (y := (⟨"java/lang/StringLatin1", "charAt", "([BI)C"⟩ : MethodName)) hown (mvT hZ hw174) (mvT hZ hw175) (mvT hZ hw176) (mvT hZ hw177) (by decide) (backOf (W := 0) (rmLC l Z a0 hw [] vcs vfm G va ix ka zn vsx xe h0 n0 O0 VA hi0 hi1 hel) hZ hw177 hw176 (by decide) (by decide)) (g := (mkF m 12 #[vr sa, vi ix] [(.int ix), (.ref va)])) rfl (by rw [hml]; rfl) (argsL := [(.ref va), (.int ix)]) (rest := []) (lenOf pd_23 rfl) rfl (by show 2 * 0 + _ ≤ _; exact Nat.le_of_eq rfl) (hb hby d30_12) (fun _ _ => ⟨rfl, e164, (by decide : 0 + 0 ≤ _), (by decide : 0 + 0 ≤ _)⟩)
  dsimp only [Pt.U, Pt.locs, Pt.cells, Pt.slots] at X165 l165 y165 z165 st165 hQ165
  subst l165 y165 z165
  obtain ⟨rfl, rfl, e165⟩ := hQ165
  try replace X165 := own_nil X165
  refine Go.by' st165 ?_
  show Go p.tables e below Pf (T165.setTop (mkF m 15 #[vr sa, vi ix] [(.int (xe &&& (255 : Int32)))]))
  rw [hPf]
  exact Go.retI' X165 hx hret hlk (by simp) (congrArg Value.int (i2c_mask _)) (hb hby d30_15) (by decide) (by decide) ⟨rfl, rfl, e165⟩
theorem d29_0 : decode method_4_code 0 = .ok (.iload_n 1, 1) := by decide +kernel
theorem d29_1 : decode method_4_code 1 = .ok (.iload_n 2, 1) := by decide +kernel
theorem d29_2 : decode method_4_code 2 = .ok (.if_icmp .lt 5, 3) := by decide +kernel
theorem d29_7 : decode method_4_code 7 = .ok (.iload_n 1, 1) := by decide +kernel
theorem d29_8 : decode method_4_code 8 = .ok (.iload_n 3, 1) := by decide +kernel
theorem d29_9 : decode method_4_code 9 = .ok (.if_icmp .ge 19, 3) := by decide +kernel
theorem d29_28 : decode method_4_code 28 = .ok (.iload_n 1, 1) := by decide +kernel
theorem d29_29 : decode method_4_code 29 = .ok (.iload_n 3, 1) := by decide +kernel
theorem d29_30 : decode method_4_code 30 = .ok (.if_icmp .ne 10, 3) := by decide +kernel
theorem d29_33 : decode method_4_code 33 = .ok (.bipush 46, 2) := by decide +kernel
theorem d29_35 : decode method_4_code 35 = .ok (.istore 8, 2) := by decide +kernel
theorem d29_37 : decode method_4_code 37 = .ok (.goto 24, 3) := by decide +kernel
theorem d29_61 : decode method_4_code 61 = .ok (.aload_n 0, 1) := by decide +kernel
theorem d29_62 : decode method_4_code 62 = .ok (.iload_n 1, 1) := by decide +kernel
theorem d29_63 : decode method_4_code 63 = .ok (.invokevirtual 36, 3) := by decide +kernel
theorem pd_24 : parseMethodDescriptor "(I)C" = some ⟨[.int], some .char⟩ := by decide +kernel
theorem d29_66 : decode method_4_code 66 = .ok (.iload 8, 2) := by decide +kernel
theorem d29_68 : decode method_4_code 68 = .ok (.if_icmp .ne 7, 3) := by decide +kernel
theorem d29_71 : decode method_4_code 71 = .ok (.iconst 1, 1) := by decide +kernel
theorem d29_72 : decode method_4_code 72 = .ok (.goto 4, 3) := by decide +kernel
theorem d29_76 : decode method_4_code 76 = .ok (.ireturn, 1) := by decide +kernel
theorem pn_29 : plainName "com/example/slatewipe/slatewipe/TableQualifiedNamePinLaw" = true := by first | (simp [plainName, overriddenIn]; done) | decide +kernel
set_option maxHeartbeats 4000000 in
theorem ef_rmAt_00 (m : MethodId) {sa : Addr} {zn : Int32} {ch0 : Int32} {ch1 : Int32} {ch2 : Int32} {ch3 : Int32} : entryFrame m #[(.ref sa), (.int (0 : Int32)), (.int zn), (.int (0 : Int32)), (.int ch0), (.int ch1), (.int ch2), (.int ch3)] 10 = mkF m 0 #[vr sa, vi (0 : Int32), vi zn, vi (0 : Int32), vi ch0, vi ch1, vi ch2, vi ch3, .unset, .unset] [] := by first | (simp [entryFrame, mkF, argsToLocals, Value.category]; done) | rfl
def QrmAt_00 (Z : State) (vcs : Int32) (vfm : Value) (sa : Addr) (zn : Int32) (ch0 : Int32) (ch1 : Int32) (ch2 : Int32) (ch3 : Int32) (va : Addr) (ka : ClassId) (vsx : (List Value)) (xe : Int32) (h0 : Heap) (n0 : Nat) (v : Option Value) (h : Heap) (L : List Loc) : Prop := (v = some (.int (1 : Int32))) ∧ (L = []) ∧ (h = h0)
set_option maxRecDepth 65536 in
set_option maxHeartbeats 40000000 in
theorem rmAt_00 (l : Launch) (Z : State) (a0 : Array Value) (hw : ∀ d ∈ tables_1, d.before a0 Z = true) (ws : List Jvm.Cond) (vcs : Int32) (vfm : Value) (G : Gh Z vcs vfm) (sa : Addr) (zn : Int32) (ch0 : Int32) (ch1 : Int32) (ch2 : Int32) (ch3 : Int32) (va : Addr) (ka : ClassId) (vsx : (List Value)) (xe : Int32) (h0 : Heap) (n0 : Nat) (O0 : Old Z n0 h0) (EA : Exa Z h0 sa "java/lang/String") (FA : Fld Z h0 sa "java/lang/String" "value" "[B" (.ref va)) (CA : Fld Z h0 sa "java/lang/String" "coder" "B" (.int (0 : Int32))) (VA : Arv Z h0 va ka .byte zn vsx (.int (0 : Int32))) (hi1 : (0 : Int32) < zn) (hel : vsx.getD (0 : Int32).toNatClampNeg (Value.int (0 : Int32)) = Value.int xe) (hx_ : (xe &&& (255 : Int32)) = (46 : Int32)) :
    MetFree l (⟨"com/example/slatewipe/slatewipe/TableQualifiedNamePinLaw", "at", "(Ljava/lang/String;IIICCCC)Z"⟩ : MethodName) (head1 (Jvm.Cond.code (⟨"com/example/slatewipe/slatewipe/TableQualifiedNamePinLaw", "at", "(Ljava/lang/String;IIICCCC)Z"⟩ : MethodName) method_4_code 10 (some .boolean) :: ws) ({ frames := 4, cells := 0, slots := 0, locals := 53 } : Room)) (fun aa' UU' => aa' = #[(.ref sa), (.int (0 : Int32)), (.int zn), (.int (0 : Int32)), (.int ch0), (.int ch1), (.int ch2), (.int ch3)] ∧ Z.Warmed39 UU'.vm ∧ UU'.heap = h0) (fun _ _ _ _ _ => True) (fun _ UU' oo' VV' => ∃ v' L', oo' = .returned v' ∧ QrmAt_00 Z vcs vfm sa zn ch0 ch1 ch2 ch3 va ka vsx xe h0 n0 v' VV'.heap L' ∧ FrameEnd UU' oo' VV' L' ({ frames := 4, cells := 0, slots := 0, locals := 53 } : Room).cells ({ frames := 4, cells := 0, slots := 0, locals := 53 } : Room).slots) := by
  refine MetFree.of_bodySF (plainFor_of_name pn_29) hisR ?_
  intro p e s m args below meth c s₁ Bd hml0 hP hK
  obtain ⟨rfl, hZ, hh⟩ := hP
  have hx := Bd.exec
  have hby := Bd.bytes
  have hlk := Bd.notSynchronized
  have hml : c.maxLocals = 10 := hml0
  have hown : s.vm.findClass "com/example/slatewipe/slatewipe/TableQualifiedNamePinLaw" = some m.cls := findClass_of_methodNamed Bd.named
  have hnm := (name_of_methodNamed Bd.named Bd.method).1
  have hret := Bd.returns
  have X0 : Stand p l e ({ frames := 4, cells := 0, slots := 0, locals := 53 } : Room) s m #[(.ref sa), (.int (0 : Int32)), (.int zn), (.int (0 : Int32)), (.int ch0), (.int ch1), (.int ch2), (.int ch3)] below meth c s₁ [] 0 0 := Stand.of_body Bd
  have e0 : s₁.heap = h0 := by rw [← hh, Bd.state]; rfl
  have N0 := Fr.nil n0
  refine Go.body ?_
  obtain ⟨Pf, hPf⟩ : ∃ P, P = Fin' s below ({ frames := 4, cells := 0, slots := 0, locals := 53 } : Room).cells ({ frames := 4, cells := 0, slots := 0, locals := 53 } : Room).slots (QrmAt_00 Z vcs vfm sa zn ch0 ch1 ch2 ch3 va ka vsx xe h0 n0) := ⟨_, rfl⟩
  rw [← hPf]
  refine Go.cast (ef_rmAt_00 m) ?_
  have hw7 := (hw _ (List.mem_of_getElem? (i := 7) rfl))
  have hw164 := (hw _ (List.mem_of_getElem? (i := 164) rfl))
  have hw165 := (hw _ (List.mem_of_getElem? (i := 165) rfl))
  have hw166 := (hw _ (List.mem_of_getElem? (i := 166) rfl))
  have hw167 := (hw _ (List.mem_of_getElem? (i := 167) rfl))
  have hw168 := (hw _ (List.mem_of_getElem? (i := 168) rfl))
  show Go p.tables e below Pf (s₁.setTop (mkF m 0 #[vr sa, vi (0 : Int32), vi zn, vi (0 : Int32), vi ch0, vi ch1, vi ch2, vi ch3, .unset, .unset] []))
  refine Go.by' (fun t k => (XS.iloadN X0.here hx rfl (hb hby d29_0) rfl (XS.iloadN X0.here hx rfl (hb hby d29_1) rfl (XS.icmpYes X0.here hx rfl (pc0 := 2) (pc' := 7) rfl (hb hby d29_2) rfl (tlt hi1).1 (by decide) (by decide) (XS.iloadN X0.here hx rfl (hb hby d29_7) rfl (XS.iloadN X0.here hx rfl (hb hby d29_8) rfl (XS.icmpYes X0.here hx rfl (pc0 := 9) (pc' := 28) rfl (hb hby d29_9) rfl (flt (by decide)).2.1 (by decide) (by decide) (XS.iloadN X0.here hx rfl (hb hby d29_28) rfl (XS.iloadN X0.here hx rfl (hb hby d29_29) rfl k))))))))) ?_
  show Go p.tables e below Pf (s₁.setTop (mkF m 30 #[vr sa, vi (0 : Int32), vi zn, vi (0 : Int32), vi ch0, vi ch1, vi ch2, vi ch3, .unset, .unset] [(.int (0 : Int32)), (.int (0 : Int32))]))
  refine Go.by' (fun t k => (XS.icmpNo X0.here hx rfl (hb hby d29_30) rfl (teq (by decide)).2 (XS.bipush X0.here hx rfl (hb hby d29_33) (XS.istore X0.here hx rfl (hb hby d29_35) rfl (l' := #[vr sa, vi (0 : Int32), vi zn, vi (0 : Int32), vi ch0, vi ch1, vi ch2, vi ch3, vi (46 : Int32), .unset]) rfl (XS.goto X0.here hx rfl (pc0 := 37) (pc' := 61) rfl (hb hby d29_37) (by decide) (by decide) (XS.aloadN X0.here hx rfl (hb hby d29_61) rfl rfl (XS.iloadN X0.here hx rfl (hb hby d29_62) rfl k))))))) ?_
  obtain ⟨cq166, kq166, q166a, q166b, q166c⟩ := isOf hZ e0 EA
  obtain ⟨_, _, ⟨T166, L166, k166, n166⟩, -, X166, ⟨Lc166, hQ166, l166, y166, z166⟩, st166⟩ := X0.virtualBack hx (y := (⟨"java/lang/String", "charAt", "(I)C"⟩ : MethodName)) (z := (⟨"java/lang/String", "charAt", "(I)C"⟩ : MethodName)) hown (mvT hZ hw164) (mvT hZ hw165) (notFace_of_selects (args := #[]) (mvT hZ hw167)) (mvT hZ hw167) (mvT hZ hw166) (by decide) (backOf (W := 0) (rmSC l Z a0 hw [] vcs vfm G sa ((0 : Int32)) va ka zn vsx xe h0 n0 O0 EA FA CA VA (by decide) hi1 hel) hZ hw168 hw7 (by decide) (by decide)) q166a q166c (g := (mkF m 63 #[vr sa, vi (0 : Int32), vi zn, vi (0 : Int32), vi ch0, vi ch1, vi ch2, vi ch3, vi (46 : Int32), .unset] [(.int (0 : Int32)), (.ref sa)])) rfl (by rw [hml]; rfl) (Steps.refl _) (argsL := [(.int (0 : Int32))]) (rest := []) (lenOf pd_24 rfl) rfl (by show 2 * 0 + _ ≤ _; exact Nat.le_of_eq rfl) (hb hby d29_63) (fun _ _ => ⟨rfl, e0, (by decide : 0 + 0 ≤ _), (by decide : 0 + 0 ≤ _)⟩)
  dsimp only [Pt.U, Pt.locs, Pt.cells, Pt.slots] at X166 l166 y166 z166 st166 hQ166
  subst l166 y166 z166
  obtain ⟨rfl, rfl, e166⟩ := hQ166
  try replace X166 := own_nil X166
  refine Go.by' (fun t k => st166.trans k) ?_
  show Go p.tables e below Pf (T166.setTop (mkF m 66 #[vr sa, vi (0 : Int32), vi zn, vi (0 : Int32), vi ch0, vi ch1, vi ch2, vi ch3, vi (46 : Int32), .unset] [(.int (xe &&& (255 : Int32)))]))
  refine Go.by' (fun t k => (XS.iload X166.here hx rfl (hb hby d29_66) rfl (XS.icmpNo X166.here hx rfl (hb hby d29_68) rfl (teq hx_).2 (XS.iconst X166.here hx rfl (hb hby d29_71) (XS.goto X166.here hx rfl (pc0 := 72) (pc' := 76) rfl (hb hby d29_72) (by decide) (by decide) k))))) ?_
  show Go p.tables e below Pf (T166.setTop (mkF m 76 #[vr sa, vi (0 : Int32), vi zn, vi (0 : Int32), vi ch0, vi ch1, vi ch2, vi ch3, vi (46 : Int32), .unset] [(.int (1 : Int32))]))
  rw [hPf]
  exact Go.retI' X166 hx hret hlk (by simp) rfl (hb hby d29_76) (by decide) (by decide) ⟨rfl, rfl, e166⟩
theorem d29_40 : decode method_4_code 40 = .ok (.iload_n 1, 1) := by decide +kernel
theorem d29_41 : decode method_4_code 41 = .ok (.iload_n 3, 1) := by decide +kernel
theorem d29_42 : decode method_4_code 42 = .ok (.isub, 1) := by decide +kernel
theorem d29_43 : decode method_4_code 43 = .ok (.iconst 1, 1) := by decide +kernel
theorem d29_44 : decode method_4_code 44 = .ok (.isub, 1) := by decide +kernel
theorem d29_45 : decode method_4_code 45 = .ok (.istore 9, 2) := by decide +kernel
theorem d29_47 : decode method_4_code 47 = .ok (.iload 9, 2) := by decide +kernel
theorem d29_49 : decode method_4_code 49 = .ok (.ifCond .ne 8, 3) := by decide +kernel
theorem d29_52 : decode method_4_code 52 = .ok (.iload 6, 2) := by decide +kernel
theorem d29_54 : decode method_4_code 54 = .ok (.goto 5, 3) := by decide +kernel
theorem d29_59 : decode method_4_code 59 = .ok (.istore 8, 2) := by decide +kernel
set_option maxHeartbeats 4000000 in
theorem ef_rmAt_01 (m : MethodId) {sa : Addr} {zn : Int32} {ch0 : Int32} {ch1 : Int32} {ch2 : Int32} {ch3 : Int32} : entryFrame m #[(.ref sa), (.int (1 : Int32)), (.int zn), (.int (0 : Int32)), (.int ch0), (.int ch1), (.int ch2), (.int ch3)] 10 = mkF m 0 #[vr sa, vi (1 : Int32), vi zn, vi (0 : Int32), vi ch0, vi ch1, vi ch2, vi ch3, .unset, .unset] [] := by first | (simp [entryFrame, mkF, argsToLocals, Value.category]; done) | rfl
def QrmAt_01 (Z : State) (vcs : Int32) (vfm : Value) (sa : Addr) (zn : Int32) (ch0 : Int32) (ch1 : Int32) (ch2 : Int32) (ch3 : Int32) (va : Addr) (ka : ClassId) (vsx : (List Value)) (xe : Int32) (h0 : Heap) (n0 : Nat) (v : Option Value) (h : Heap) (L : List Loc) : Prop := (v = some (.int (1 : Int32))) ∧ (L = []) ∧ (h = h0)
set_option maxRecDepth 65536 in
set_option maxHeartbeats 40000000 in
theorem rmAt_01 (l : Launch) (Z : State) (a0 : Array Value) (hw : ∀ d ∈ tables_1, d.before a0 Z = true) (ws : List Jvm.Cond) (vcs : Int32) (vfm : Value) (G : Gh Z vcs vfm) (sa : Addr) (zn : Int32) (ch0 : Int32) (ch1 : Int32) (ch2 : Int32) (ch3 : Int32) (va : Addr) (ka : ClassId) (vsx : (List Value)) (xe : Int32) (h0 : Heap) (n0 : Nat) (O0 : Old Z n0 h0) (EA : Exa Z h0 sa "java/lang/String") (FA : Fld Z h0 sa "java/lang/String" "value" "[B" (.ref va)) (CA : Fld Z h0 sa "java/lang/String" "coder" "B" (.int (0 : Int32))) (VA : Arv Z h0 va ka .byte zn vsx (.int (0 : Int32))) (hi1 : (1 : Int32) < zn) (hel : vsx.getD (1 : Int32).toNatClampNeg (Value.int (0 : Int32)) = Value.int xe) (hx_ : (xe &&& (255 : Int32)) = ch2) :
    MetFree l (⟨"com/example/slatewipe/slatewipe/TableQualifiedNamePinLaw", "at", "(Ljava/lang/String;IIICCCC)Z"⟩ : MethodName) (head1 (Jvm.Cond.code (⟨"com/example/slatewipe/slatewipe/TableQualifiedNamePinLaw", "at", "(Ljava/lang/String;IIICCCC)Z"⟩ : MethodName) method_4_code 10 (some .boolean) :: ws) ({ frames := 4, cells := 0, slots := 0, locals := 53 } : Room)) (fun aa' UU' => aa' = #[(.ref sa), (.int (1 : Int32)), (.int zn), (.int (0 : Int32)), (.int ch0), (.int ch1), (.int ch2), (.int ch3)] ∧ Z.Warmed39 UU'.vm ∧ UU'.heap = h0) (fun _ _ _ _ _ => True) (fun _ UU' oo' VV' => ∃ v' L', oo' = .returned v' ∧ QrmAt_01 Z vcs vfm sa zn ch0 ch1 ch2 ch3 va ka vsx xe h0 n0 v' VV'.heap L' ∧ FrameEnd UU' oo' VV' L' ({ frames := 4, cells := 0, slots := 0, locals := 53 } : Room).cells ({ frames := 4, cells := 0, slots := 0, locals := 53 } : Room).slots) := by
  refine MetFree.of_bodySF (plainFor_of_name pn_29) hisR ?_
  intro p e s m args below meth c s₁ Bd hml0 hP hK
  obtain ⟨rfl, hZ, hh⟩ := hP
  have hx := Bd.exec
  have hby := Bd.bytes
  have hlk := Bd.notSynchronized
  have hml : c.maxLocals = 10 := hml0
  have hown : s.vm.findClass "com/example/slatewipe/slatewipe/TableQualifiedNamePinLaw" = some m.cls := findClass_of_methodNamed Bd.named
  have hnm := (name_of_methodNamed Bd.named Bd.method).1
  have hret := Bd.returns
  have X0 : Stand p l e ({ frames := 4, cells := 0, slots := 0, locals := 53 } : Room) s m #[(.ref sa), (.int (1 : Int32)), (.int zn), (.int (0 : Int32)), (.int ch0), (.int ch1), (.int ch2), (.int ch3)] below meth c s₁ [] 0 0 := Stand.of_body Bd
  have e0 : s₁.heap = h0 := by rw [← hh, Bd.state]; rfl
  have N0 := Fr.nil n0
  refine Go.body ?_
  obtain ⟨Pf, hPf⟩ : ∃ P, P = Fin' s below ({ frames := 4, cells := 0, slots := 0, locals := 53 } : Room).cells ({ frames := 4, cells := 0, slots := 0, locals := 53 } : Room).slots (QrmAt_01 Z vcs vfm sa zn ch0 ch1 ch2 ch3 va ka vsx xe h0 n0) := ⟨_, rfl⟩
  rw [← hPf]
  refine Go.cast (ef_rmAt_01 m) ?_
  have hw7 := (hw _ (List.mem_of_getElem? (i := 7) rfl))
  have hw164 := (hw _ (List.mem_of_getElem? (i := 164) rfl))
  have hw165 := (hw _ (List.mem_of_getElem? (i := 165) rfl))
  have hw166 := (hw _ (List.mem_of_getElem? (i := 166) rfl))
  have hw167 := (hw _ (List.mem_of_getElem? (i := 167) rfl))
  have hw168 := (hw _ (List.mem_of_getElem? (i := 168) rfl))
  show Go p.tables e below Pf (s₁.setTop (mkF m 0 #[vr sa, vi (1 : Int32), vi zn, vi (0 : Int32), vi ch0, vi ch1, vi ch2, vi ch3, .unset, .unset] []))
  refine Go.by' (fun t k => (XS.iloadN X0.here hx rfl (hb hby d29_0) rfl (XS.iloadN X0.here hx rfl (hb hby d29_1) rfl (XS.icmpYes X0.here hx rfl (pc0 := 2) (pc' := 7) rfl (hb hby d29_2) rfl (tlt hi1).1 (by decide) (by decide) (XS.iloadN X0.here hx rfl (hb hby d29_7) rfl (XS.iloadN X0.here hx rfl (hb hby d29_8) rfl (XS.icmpYes X0.here hx rfl (pc0 := 9) (pc' := 28) rfl (hb hby d29_9) rfl (flt (by decide)).2.1 (by decide) (by decide) (XS.iloadN X0.here hx rfl (hb hby d29_28) rfl (XS.iloadN X0.here hx rfl (hb hby d29_29) rfl k))))))))) ?_
  show Go p.tables e below Pf (s₁.setTop (mkF m 30 #[vr sa, vi (1 : Int32), vi zn, vi (0 : Int32), vi ch0, vi ch1, vi ch2, vi ch3, .unset, .unset] [(.int (0 : Int32)), (.int (1 : Int32))]))
  refine Go.by' (fun t k => (XS.icmpYes X0.here hx rfl (pc0 := 30) (pc' := 40) rfl (hb hby d29_30) rfl (feq (by decide)).2 (by decide) (by decide) (XS.iloadN X0.here hx rfl (hb hby d29_40) rfl (XS.iloadN X0.here hx rfl (hb hby d29_41) rfl (XS.isub X0.here hx rfl (hb hby d29_42) rfl k))))) ?_
  show Go p.tables e below Pf (s₁.setTop (mkF m 43 #[vr sa, vi (1 : Int32), vi zn, vi (0 : Int32), vi ch0, vi ch1, vi ch2, vi ch3, .unset, .unset] [(.int ((1 : Int32) - (0 : Int32)))]))
  refine Go.castF (a := ((1 : Int32) - (0 : Int32))) (b := (1 : Int32)) (fun z' : Int32 => mkF m 43 #[vr sa, vi (1 : Int32), vi zn, vi (0 : Int32), vi ch0, vi ch1, vi ch2, vi ch3, .unset, .unset] [(.int z')]) (by decide) ?_
  show Go p.tables e below Pf (s₁.setTop (mkF m 43 #[vr sa, vi (1 : Int32), vi zn, vi (0 : Int32), vi ch0, vi ch1, vi ch2, vi ch3, .unset, .unset] [(.int (1 : Int32))]))
  refine Go.by' (fun t k => (XS.iconst X0.here hx rfl (hb hby d29_43) (XS.isub X0.here hx rfl (hb hby d29_44) rfl k))) ?_
  show Go p.tables e below Pf (s₁.setTop (mkF m 45 #[vr sa, vi (1 : Int32), vi zn, vi (0 : Int32), vi ch0, vi ch1, vi ch2, vi ch3, .unset, .unset] [(.int ((1 : Int32) - (1 : Int32)))]))
  refine Go.castF (a := ((1 : Int32) - (1 : Int32))) (b := (0 : Int32)) (fun z' : Int32 => mkF m 45 #[vr sa, vi (1 : Int32), vi zn, vi (0 : Int32), vi ch0, vi ch1, vi ch2, vi ch3, .unset, .unset] [(.int z')]) (by decide) ?_
  show Go p.tables e below Pf (s₁.setTop (mkF m 45 #[vr sa, vi (1 : Int32), vi zn, vi (0 : Int32), vi ch0, vi ch1, vi ch2, vi ch3, .unset, .unset] [(.int (0 : Int32))]))
  refine Go.by' (fun t k => (XS.istore X0.here hx rfl (hb hby d29_45) rfl (l' := #[vr sa, vi (1 : Int32), vi zn, vi (0 : Int32), vi ch0, vi ch1, vi ch2, vi ch3, .unset, vi (0 : Int32)]) rfl (XS.iload X0.here hx rfl (hb hby d29_47) rfl (XS.ifNo X0.here hx rfl (hb hby d29_49) rfl ((if0 _ _).trans (teq (by decide)).2) (XS.iload X0.here hx rfl (hb hby d29_52) rfl (XS.goto X0.here hx rfl (pc0 := 54) (pc' := 59) rfl (hb hby d29_54) (by decide) (by decide) (XS.istore X0.here hx rfl (hb hby d29_59) rfl (l' := #[vr sa, vi (1 : Int32), vi zn, vi (0 : Int32), vi ch0, vi ch1, vi ch2, vi ch3, vi ch2, vi (0 : Int32)]) rfl (XS.aloadN X0.here hx rfl (hb hby d29_61) rfl rfl (XS.iloadN X0.here hx rfl (hb hby d29_62) rfl k))))))))) ?_
  obtain ⟨cq167, kq167, q167a, q167b, q167c⟩ := isOf hZ e0 EA
  obtain ⟨_, _, ⟨T167, L167, k167, n167⟩, -, X167, ⟨Lc167, hQ167, l167, y167, z167⟩, st167⟩ := X0.virtualBack hx (y := (⟨"java/lang/String", "charAt", "(I)C"⟩ : MethodName)) (z := (⟨"java/lang/String", "charAt", "(I)C"⟩ : MethodName)) hown (mvT hZ hw164) (mvT hZ hw165) (notFace_of_selects (args := #[]) (mvT hZ hw167)) (mvT hZ hw167) (mvT hZ hw166) (by decide) (backOf (W := 0) (rmSC l Z a0 hw [] vcs vfm G sa ((1 : Int32)) va ka zn vsx xe h0 n0 O0 EA FA CA VA (by decide) hi1 hel) hZ hw168 hw7 (by decide) (by decide)) q167a q167c (g := (mkF m 63 #[vr sa, vi (1 : Int32), vi zn, vi (0 : Int32), vi ch0, vi ch1, vi ch2, vi ch3, vi ch2, vi (0 : Int32)] [(.int (1 : Int32)), (.ref sa)])) rfl (by rw [hml]; rfl) (Steps.refl _) (argsL := [(.int (1 : Int32))]) (rest := []) (lenOf pd_24 rfl) rfl (by show 2 * 0 + _ ≤ _; exact Nat.le_of_eq rfl) (hb hby d29_63) (fun _ _ => ⟨rfl, e0, (by decide : 0 + 0 ≤ _), (by decide : 0 + 0 ≤ _)⟩)
  dsimp only [Pt.U, Pt.locs, Pt.cells, Pt.slots] at X167 l167 y167 z167 st167 hQ167
  subst l167 y167 z167
  obtain ⟨rfl, rfl, e167⟩ := hQ167
  try replace X167 := own_nil X167
  refine Go.by' (fun t k => st167.trans k) ?_
  show Go p.tables e below Pf (T167.setTop (mkF m 66 #[vr sa, vi (1 : Int32), vi zn, vi (0 : Int32), vi ch0, vi ch1, vi ch2, vi ch3, vi ch2, vi (0 : Int32)] [(.int (xe &&& (255 : Int32)))]))
  refine Go.by' (fun t k => (XS.iload X167.here hx rfl (hb hby d29_66) rfl (XS.icmpNo X167.here hx rfl (hb hby d29_68) rfl (teq hx_).2 (XS.iconst X167.here hx rfl (hb hby d29_71) (XS.goto X167.here hx rfl (pc0 := 72) (pc' := 76) rfl (hb hby d29_72) (by decide) (by decide) k))))) ?_
  show Go p.tables e below Pf (T167.setTop (mkF m 76 #[vr sa, vi (1 : Int32), vi zn, vi (0 : Int32), vi ch0, vi ch1, vi ch2, vi ch3, vi ch2, vi (0 : Int32)] [(.int (1 : Int32))]))
  rw [hPf]
  exact Go.retI' X167 hx hret hlk (by simp) rfl (hb hby d29_76) (by decide) (by decide) ⟨rfl, rfl, e167⟩
theorem d29_57 : decode method_4_code 57 = .ok (.iload 7, 2) := by decide +kernel
set_option maxHeartbeats 4000000 in
theorem ef_rmAt_02 (m : MethodId) {sa : Addr} {zn : Int32} {ch0 : Int32} {ch1 : Int32} {ch2 : Int32} {ch3 : Int32} : entryFrame m #[(.ref sa), (.int (2 : Int32)), (.int zn), (.int (0 : Int32)), (.int ch0), (.int ch1), (.int ch2), (.int ch3)] 10 = mkF m 0 #[vr sa, vi (2 : Int32), vi zn, vi (0 : Int32), vi ch0, vi ch1, vi ch2, vi ch3, .unset, .unset] [] := by first | (simp [entryFrame, mkF, argsToLocals, Value.category]; done) | rfl
def QrmAt_02 (Z : State) (vcs : Int32) (vfm : Value) (sa : Addr) (zn : Int32) (ch0 : Int32) (ch1 : Int32) (ch2 : Int32) (ch3 : Int32) (va : Addr) (ka : ClassId) (vsx : (List Value)) (xe : Int32) (h0 : Heap) (n0 : Nat) (v : Option Value) (h : Heap) (L : List Loc) : Prop := (v = some (.int (1 : Int32))) ∧ (L = []) ∧ (h = h0)
set_option maxRecDepth 65536 in
set_option maxHeartbeats 40000000 in
theorem rmAt_02 (l : Launch) (Z : State) (a0 : Array Value) (hw : ∀ d ∈ tables_1, d.before a0 Z = true) (ws : List Jvm.Cond) (vcs : Int32) (vfm : Value) (G : Gh Z vcs vfm) (sa : Addr) (zn : Int32) (ch0 : Int32) (ch1 : Int32) (ch2 : Int32) (ch3 : Int32) (va : Addr) (ka : ClassId) (vsx : (List Value)) (xe : Int32) (h0 : Heap) (n0 : Nat) (O0 : Old Z n0 h0) (EA : Exa Z h0 sa "java/lang/String") (FA : Fld Z h0 sa "java/lang/String" "value" "[B" (.ref va)) (CA : Fld Z h0 sa "java/lang/String" "coder" "B" (.int (0 : Int32))) (VA : Arv Z h0 va ka .byte zn vsx (.int (0 : Int32))) (hi1 : (2 : Int32) < zn) (hel : vsx.getD (2 : Int32).toNatClampNeg (Value.int (0 : Int32)) = Value.int xe) (hx_ : (xe &&& (255 : Int32)) = ch3) :
    MetFree l (⟨"com/example/slatewipe/slatewipe/TableQualifiedNamePinLaw", "at", "(Ljava/lang/String;IIICCCC)Z"⟩ : MethodName) (head1 (Jvm.Cond.code (⟨"com/example/slatewipe/slatewipe/TableQualifiedNamePinLaw", "at", "(Ljava/lang/String;IIICCCC)Z"⟩ : MethodName) method_4_code 10 (some .boolean) :: ws) ({ frames := 4, cells := 0, slots := 0, locals := 53 } : Room)) (fun aa' UU' => aa' = #[(.ref sa), (.int (2 : Int32)), (.int zn), (.int (0 : Int32)), (.int ch0), (.int ch1), (.int ch2), (.int ch3)] ∧ Z.Warmed39 UU'.vm ∧ UU'.heap = h0) (fun _ _ _ _ _ => True) (fun _ UU' oo' VV' => ∃ v' L', oo' = .returned v' ∧ QrmAt_02 Z vcs vfm sa zn ch0 ch1 ch2 ch3 va ka vsx xe h0 n0 v' VV'.heap L' ∧ FrameEnd UU' oo' VV' L' ({ frames := 4, cells := 0, slots := 0, locals := 53 } : Room).cells ({ frames := 4, cells := 0, slots := 0, locals := 53 } : Room).slots) := by
  refine MetFree.of_bodySF (plainFor_of_name pn_29) hisR ?_
  intro p e s m args below meth c s₁ Bd hml0 hP hK
  obtain ⟨rfl, hZ, hh⟩ := hP
  have hx := Bd.exec
  have hby := Bd.bytes
  have hlk := Bd.notSynchronized
  have hml : c.maxLocals = 10 := hml0
  have hown : s.vm.findClass "com/example/slatewipe/slatewipe/TableQualifiedNamePinLaw" = some m.cls := findClass_of_methodNamed Bd.named
  have hnm := (name_of_methodNamed Bd.named Bd.method).1
  have hret := Bd.returns
  have X0 : Stand p l e ({ frames := 4, cells := 0, slots := 0, locals := 53 } : Room) s m #[(.ref sa), (.int (2 : Int32)), (.int zn), (.int (0 : Int32)), (.int ch0), (.int ch1), (.int ch2), (.int ch3)] below meth c s₁ [] 0 0 := Stand.of_body Bd
  have e0 : s₁.heap = h0 := by rw [← hh, Bd.state]; rfl
  have N0 := Fr.nil n0
  refine Go.body ?_
  obtain ⟨Pf, hPf⟩ : ∃ P, P = Fin' s below ({ frames := 4, cells := 0, slots := 0, locals := 53 } : Room).cells ({ frames := 4, cells := 0, slots := 0, locals := 53 } : Room).slots (QrmAt_02 Z vcs vfm sa zn ch0 ch1 ch2 ch3 va ka vsx xe h0 n0) := ⟨_, rfl⟩
  rw [← hPf]
  refine Go.cast (ef_rmAt_02 m) ?_
  have hw7 := (hw _ (List.mem_of_getElem? (i := 7) rfl))
  have hw164 := (hw _ (List.mem_of_getElem? (i := 164) rfl))
  have hw165 := (hw _ (List.mem_of_getElem? (i := 165) rfl))
  have hw166 := (hw _ (List.mem_of_getElem? (i := 166) rfl))
  have hw167 := (hw _ (List.mem_of_getElem? (i := 167) rfl))
  have hw168 := (hw _ (List.mem_of_getElem? (i := 168) rfl))
  show Go p.tables e below Pf (s₁.setTop (mkF m 0 #[vr sa, vi (2 : Int32), vi zn, vi (0 : Int32), vi ch0, vi ch1, vi ch2, vi ch3, .unset, .unset] []))
  refine Go.by' (fun t k => (XS.iloadN X0.here hx rfl (hb hby d29_0) rfl (XS.iloadN X0.here hx rfl (hb hby d29_1) rfl (XS.icmpYes X0.here hx rfl (pc0 := 2) (pc' := 7) rfl (hb hby d29_2) rfl (tlt hi1).1 (by decide) (by decide) (XS.iloadN X0.here hx rfl (hb hby d29_7) rfl (XS.iloadN X0.here hx rfl (hb hby d29_8) rfl (XS.icmpYes X0.here hx rfl (pc0 := 9) (pc' := 28) rfl (hb hby d29_9) rfl (flt (by decide)).2.1 (by decide) (by decide) (XS.iloadN X0.here hx rfl (hb hby d29_28) rfl (XS.iloadN X0.here hx rfl (hb hby d29_29) rfl k))))))))) ?_
  show Go p.tables e below Pf (s₁.setTop (mkF m 30 #[vr sa, vi (2 : Int32), vi zn, vi (0 : Int32), vi ch0, vi ch1, vi ch2, vi ch3, .unset, .unset] [(.int (0 : Int32)), (.int (2 : Int32))]))
  refine Go.by' (fun t k => (XS.icmpYes X0.here hx rfl (pc0 := 30) (pc' := 40) rfl (hb hby d29_30) rfl (feq (by decide)).2 (by decide) (by decide) (XS.iloadN X0.here hx rfl (hb hby d29_40) rfl (XS.iloadN X0.here hx rfl (hb hby d29_41) rfl (XS.isub X0.here hx rfl (hb hby d29_42) rfl k))))) ?_
  show Go p.tables e below Pf (s₁.setTop (mkF m 43 #[vr sa, vi (2 : Int32), vi zn, vi (0 : Int32), vi ch0, vi ch1, vi ch2, vi ch3, .unset, .unset] [(.int ((2 : Int32) - (0 : Int32)))]))
  refine Go.castF (a := ((2 : Int32) - (0 : Int32))) (b := (2 : Int32)) (fun z' : Int32 => mkF m 43 #[vr sa, vi (2 : Int32), vi zn, vi (0 : Int32), vi ch0, vi ch1, vi ch2, vi ch3, .unset, .unset] [(.int z')]) (by decide) ?_
  show Go p.tables e below Pf (s₁.setTop (mkF m 43 #[vr sa, vi (2 : Int32), vi zn, vi (0 : Int32), vi ch0, vi ch1, vi ch2, vi ch3, .unset, .unset] [(.int (2 : Int32))]))
  refine Go.by' (fun t k => (XS.iconst X0.here hx rfl (hb hby d29_43) (XS.isub X0.here hx rfl (hb hby d29_44) rfl k))) ?_
  show Go p.tables e below Pf (s₁.setTop (mkF m 45 #[vr sa, vi (2 : Int32), vi zn, vi (0 : Int32), vi ch0, vi ch1, vi ch2, vi ch3, .unset, .unset] [(.int ((2 : Int32) - (1 : Int32)))]))
  refine Go.castF (a := ((2 : Int32) - (1 : Int32))) (b := (1 : Int32)) (fun z' : Int32 => mkF m 45 #[vr sa, vi (2 : Int32), vi zn, vi (0 : Int32), vi ch0, vi ch1, vi ch2, vi ch3, .unset, .unset] [(.int z')]) (by decide) ?_
  show Go p.tables e below Pf (s₁.setTop (mkF m 45 #[vr sa, vi (2 : Int32), vi zn, vi (0 : Int32), vi ch0, vi ch1, vi ch2, vi ch3, .unset, .unset] [(.int (1 : Int32))]))
  refine Go.by' (fun t k => (XS.istore X0.here hx rfl (hb hby d29_45) rfl (l' := #[vr sa, vi (2 : Int32), vi zn, vi (0 : Int32), vi ch0, vi ch1, vi ch2, vi ch3, .unset, vi (1 : Int32)]) rfl (XS.iload X0.here hx rfl (hb hby d29_47) rfl (XS.ifYes X0.here hx rfl (pc0 := 49) (pc' := 57) rfl (hb hby d29_49) rfl ((if0 _ _).trans (feq (by decide)).2) (by decide) (by decide) (XS.iload X0.here hx rfl (hb hby d29_57) rfl (XS.istore X0.here hx rfl (hb hby d29_59) rfl (l' := #[vr sa, vi (2 : Int32), vi zn, vi (0 : Int32), vi ch0, vi ch1, vi ch2, vi ch3, vi ch3, vi (1 : Int32)]) rfl (XS.aloadN X0.here hx rfl (hb hby d29_61) rfl rfl (XS.iloadN X0.here hx rfl (hb hby d29_62) rfl k)))))))) ?_
  obtain ⟨cq168, kq168, q168a, q168b, q168c⟩ := isOf hZ e0 EA
  obtain ⟨_, _, ⟨T168, L168, k168, n168⟩, -, X168, ⟨Lc168, hQ168, l168, y168, z168⟩, st168⟩ := X0.virtualBack hx (y := (⟨"java/lang/String", "charAt", "(I)C"⟩ : MethodName)) (z := (⟨"java/lang/String", "charAt", "(I)C"⟩ : MethodName)) hown (mvT hZ hw164) (mvT hZ hw165) (notFace_of_selects (args := #[]) (mvT hZ hw167)) (mvT hZ hw167) (mvT hZ hw166) (by decide) (backOf (W := 0) (rmSC l Z a0 hw [] vcs vfm G sa ((2 : Int32)) va ka zn vsx xe h0 n0 O0 EA FA CA VA (by decide) hi1 hel) hZ hw168 hw7 (by decide) (by decide)) q168a q168c (g := (mkF m 63 #[vr sa, vi (2 : Int32), vi zn, vi (0 : Int32), vi ch0, vi ch1, vi ch2, vi ch3, vi ch3, vi (1 : Int32)] [(.int (2 : Int32)), (.ref sa)])) rfl (by rw [hml]; rfl) (Steps.refl _) (argsL := [(.int (2 : Int32))]) (rest := []) (lenOf pd_24 rfl) rfl (by show 2 * 0 + _ ≤ _; exact Nat.le_of_eq rfl) (hb hby d29_63) (fun _ _ => ⟨rfl, e0, (by decide : 0 + 0 ≤ _), (by decide : 0 + 0 ≤ _)⟩)
  dsimp only [Pt.U, Pt.locs, Pt.cells, Pt.slots] at X168 l168 y168 z168 st168 hQ168
  subst l168 y168 z168
  obtain ⟨rfl, rfl, e168⟩ := hQ168
  try replace X168 := own_nil X168
  refine Go.by' (fun t k => st168.trans k) ?_
  show Go p.tables e below Pf (T168.setTop (mkF m 66 #[vr sa, vi (2 : Int32), vi zn, vi (0 : Int32), vi ch0, vi ch1, vi ch2, vi ch3, vi ch3, vi (1 : Int32)] [(.int (xe &&& (255 : Int32)))]))
  refine Go.by' (fun t k => (XS.iload X168.here hx rfl (hb hby d29_66) rfl (XS.icmpNo X168.here hx rfl (hb hby d29_68) rfl (teq hx_).2 (XS.iconst X168.here hx rfl (hb hby d29_71) (XS.goto X168.here hx rfl (pc0 := 72) (pc' := 76) rfl (hb hby d29_72) (by decide) (by decide) k))))) ?_
  show Go p.tables e below Pf (T168.setTop (mkF m 76 #[vr sa, vi (2 : Int32), vi zn, vi (0 : Int32), vi ch0, vi ch1, vi ch2, vi ch3, vi ch3, vi (1 : Int32)] [(.int (1 : Int32))]))
  rw [hPf]
  exact Go.retI' X168 hx hret hlk (by simp) rfl (hb hby d29_76) (by decide) (by decide) ⟨rfl, rfl, e168⟩
theorem d29_12 : decode method_4_code 12 = .ok (.iload_n 1, 1) := by decide +kernel
theorem d29_13 : decode method_4_code 13 = .ok (.ifCond .ne 8, 3) := by decide +kernel
theorem d29_16 : decode method_4_code 16 = .ok (.iload 4, 2) := by decide +kernel
theorem d29_18 : decode method_4_code 18 = .ok (.goto 5, 3) := by decide +kernel
theorem d29_23 : decode method_4_code 23 = .ok (.istore 8, 2) := by decide +kernel
theorem d29_25 : decode method_4_code 25 = .ok (.goto 36, 3) := by decide +kernel
set_option maxHeartbeats 4000000 in
theorem ef_rmAt_10 (m : MethodId) {sa : Addr} {zn : Int32} {ch0 : Int32} {ch1 : Int32} {ch2 : Int32} {ch3 : Int32} : entryFrame m #[(.ref sa), (.int (0 : Int32)), (.int zn), (.int (1 : Int32)), (.int ch0), (.int ch1), (.int ch2), (.int ch3)] 10 = mkF m 0 #[vr sa, vi (0 : Int32), vi zn, vi (1 : Int32), vi ch0, vi ch1, vi ch2, vi ch3, .unset, .unset] [] := by first | (simp [entryFrame, mkF, argsToLocals, Value.category]; done) | rfl
def QrmAt_10 (Z : State) (vcs : Int32) (vfm : Value) (sa : Addr) (zn : Int32) (ch0 : Int32) (ch1 : Int32) (ch2 : Int32) (ch3 : Int32) (va : Addr) (ka : ClassId) (vsx : (List Value)) (xe : Int32) (h0 : Heap) (n0 : Nat) (v : Option Value) (h : Heap) (L : List Loc) : Prop := (v = some (.int (1 : Int32))) ∧ (L = []) ∧ (h = h0)
set_option maxRecDepth 65536 in
set_option maxHeartbeats 40000000 in
theorem rmAt_10 (l : Launch) (Z : State) (a0 : Array Value) (hw : ∀ d ∈ tables_1, d.before a0 Z = true) (ws : List Jvm.Cond) (vcs : Int32) (vfm : Value) (G : Gh Z vcs vfm) (sa : Addr) (zn : Int32) (ch0 : Int32) (ch1 : Int32) (ch2 : Int32) (ch3 : Int32) (va : Addr) (ka : ClassId) (vsx : (List Value)) (xe : Int32) (h0 : Heap) (n0 : Nat) (O0 : Old Z n0 h0) (EA : Exa Z h0 sa "java/lang/String") (FA : Fld Z h0 sa "java/lang/String" "value" "[B" (.ref va)) (CA : Fld Z h0 sa "java/lang/String" "coder" "B" (.int (0 : Int32))) (VA : Arv Z h0 va ka .byte zn vsx (.int (0 : Int32))) (hi1 : (0 : Int32) < zn) (hel : vsx.getD (0 : Int32).toNatClampNeg (Value.int (0 : Int32)) = Value.int xe) (hx_ : (xe &&& (255 : Int32)) = ch0) :
    MetFree l (⟨"com/example/slatewipe/slatewipe/TableQualifiedNamePinLaw", "at", "(Ljava/lang/String;IIICCCC)Z"⟩ : MethodName) (head1 (Jvm.Cond.code (⟨"com/example/slatewipe/slatewipe/TableQualifiedNamePinLaw", "at", "(Ljava/lang/String;IIICCCC)Z"⟩ : MethodName) method_4_code 10 (some .boolean) :: ws) ({ frames := 4, cells := 0, slots := 0, locals := 53 } : Room)) (fun aa' UU' => aa' = #[(.ref sa), (.int (0 : Int32)), (.int zn), (.int (1 : Int32)), (.int ch0), (.int ch1), (.int ch2), (.int ch3)] ∧ Z.Warmed39 UU'.vm ∧ UU'.heap = h0) (fun _ _ _ _ _ => True) (fun _ UU' oo' VV' => ∃ v' L', oo' = .returned v' ∧ QrmAt_10 Z vcs vfm sa zn ch0 ch1 ch2 ch3 va ka vsx xe h0 n0 v' VV'.heap L' ∧ FrameEnd UU' oo' VV' L' ({ frames := 4, cells := 0, slots := 0, locals := 53 } : Room).cells ({ frames := 4, cells := 0, slots := 0, locals := 53 } : Room).slots) := by
  refine MetFree.of_bodySF (plainFor_of_name pn_29) hisR ?_
  intro p e s m args below meth c s₁ Bd hml0 hP hK
  obtain ⟨rfl, hZ, hh⟩ := hP
  have hx := Bd.exec
  have hby := Bd.bytes
  have hlk := Bd.notSynchronized
  have hml : c.maxLocals = 10 := hml0
  have hown : s.vm.findClass "com/example/slatewipe/slatewipe/TableQualifiedNamePinLaw" = some m.cls := findClass_of_methodNamed Bd.named
  have hnm := (name_of_methodNamed Bd.named Bd.method).1
  have hret := Bd.returns
  have X0 : Stand p l e ({ frames := 4, cells := 0, slots := 0, locals := 53 } : Room) s m #[(.ref sa), (.int (0 : Int32)), (.int zn), (.int (1 : Int32)), (.int ch0), (.int ch1), (.int ch2), (.int ch3)] below meth c s₁ [] 0 0 := Stand.of_body Bd
  have e0 : s₁.heap = h0 := by rw [← hh, Bd.state]; rfl
  have N0 := Fr.nil n0
  refine Go.body ?_
  obtain ⟨Pf, hPf⟩ : ∃ P, P = Fin' s below ({ frames := 4, cells := 0, slots := 0, locals := 53 } : Room).cells ({ frames := 4, cells := 0, slots := 0, locals := 53 } : Room).slots (QrmAt_10 Z vcs vfm sa zn ch0 ch1 ch2 ch3 va ka vsx xe h0 n0) := ⟨_, rfl⟩
  rw [← hPf]
  refine Go.cast (ef_rmAt_10 m) ?_
  have hw7 := (hw _ (List.mem_of_getElem? (i := 7) rfl))
  have hw164 := (hw _ (List.mem_of_getElem? (i := 164) rfl))
  have hw165 := (hw _ (List.mem_of_getElem? (i := 165) rfl))
  have hw166 := (hw _ (List.mem_of_getElem? (i := 166) rfl))
  have hw167 := (hw _ (List.mem_of_getElem? (i := 167) rfl))
  have hw168 := (hw _ (List.mem_of_getElem? (i := 168) rfl))
  show Go p.tables e below Pf (s₁.setTop (mkF m 0 #[vr sa, vi (0 : Int32), vi zn, vi (1 : Int32), vi ch0, vi ch1, vi ch2, vi ch3, .unset, .unset] []))
  refine Go.by' (fun t k => (XS.iloadN X0.here hx rfl (hb hby d29_0) rfl (XS.iloadN X0.here hx rfl (hb hby d29_1) rfl (XS.icmpYes X0.here hx rfl (pc0 := 2) (pc' := 7) rfl (hb hby d29_2) rfl (tlt hi1).1 (by decide) (by decide) (XS.iloadN X0.here hx rfl (hb hby d29_7) rfl (XS.iloadN X0.here hx rfl (hb hby d29_8) rfl (XS.icmpNo X0.here hx rfl (hb hby d29_9) rfl (tlt (by decide)).2.1 (XS.iloadN X0.here hx rfl (hb hby d29_12) rfl (XS.ifNo X0.here hx rfl (hb hby d29_13) rfl ((if0 _ _).trans (teq (by decide)).2) k))))))))) ?_
  show Go p.tables e below Pf (s₁.setTop (mkF m 16 #[vr sa, vi (0 : Int32), vi zn, vi (1 : Int32), vi ch0, vi ch1, vi ch2, vi ch3, .unset, .unset] []))
  refine Go.by' (fun t k => (XS.iload X0.here hx rfl (hb hby d29_16) rfl (XS.goto X0.here hx rfl (pc0 := 18) (pc' := 23) rfl (hb hby d29_18) (by decide) (by decide) (XS.istore X0.here hx rfl (hb hby d29_23) rfl (l' := #[vr sa, vi (0 : Int32), vi zn, vi (1 : Int32), vi ch0, vi ch1, vi ch2, vi ch3, vi ch0, .unset]) rfl (XS.goto X0.here hx rfl (pc0 := 25) (pc' := 61) rfl (hb hby d29_25) (by decide) (by decide) (XS.aloadN X0.here hx rfl (hb hby d29_61) rfl rfl (XS.iloadN X0.here hx rfl (hb hby d29_62) rfl k))))))) ?_
  obtain ⟨cq169, kq169, q169a, q169b, q169c⟩ := isOf hZ e0 EA
  obtain ⟨_, _, ⟨T169, L169, k169, n169⟩, -, X169, ⟨Lc169, hQ169, l169, y169, z169⟩, st169⟩ := X0.virtualBack hx (y := (⟨"java/lang/String", "charAt", "(I)C"⟩ : MethodName)) (z := (⟨"java/lang/String", "charAt", "(I)C"⟩ : MethodName)) hown (mvT hZ hw164) (mvT hZ hw165) (notFace_of_selects (args := #[]) (mvT hZ hw167)) (mvT hZ hw167) (mvT hZ hw166) (by decide) (backOf (W := 0) (rmSC l Z a0 hw [] vcs vfm G sa ((0 : Int32)) va ka zn vsx xe h0 n0 O0 EA FA CA VA (by decide) hi1 hel) hZ hw168 hw7 (by decide) (by decide)) q169a q169c (g := (mkF m 63 #[vr sa, vi (0 : Int32), vi zn, vi (1 : Int32), vi ch0, vi ch1, vi ch2, vi ch3, vi ch0, .unset] [(.int (0 : Int32)), (.ref sa)])) rfl (by rw [hml]; rfl) (Steps.refl _) (argsL := [(.int (0 : Int32))]) (rest := []) (lenOf pd_24 rfl) rfl (by show 2 * 0 + _ ≤ _; exact Nat.le_of_eq rfl) (hb hby d29_63) (fun _ _ => ⟨rfl, e0, (by decide : 0 + 0 ≤ _), (by decide : 0 + 0 ≤ _)⟩)
  dsimp only [Pt.U, Pt.locs, Pt.cells, Pt.slots] at X169 l169 y169 z169 st169 hQ169
  subst l169 y169 z169
  obtain ⟨rfl, rfl, e169⟩ := hQ169
  try replace X169 := own_nil X169
  refine Go.by' (fun t k => st169.trans k) ?_
  show Go p.tables e below Pf (T169.setTop (mkF m 66 #[vr sa, vi (0 : Int32), vi zn, vi (1 : Int32), vi ch0, vi ch1, vi ch2, vi ch3, vi ch0, .unset] [(.int (xe &&& (255 : Int32)))]))
  refine Go.by' (fun t k => (XS.iload X169.here hx rfl (hb hby d29_66) rfl (XS.icmpNo X169.here hx rfl (hb hby d29_68) rfl (teq hx_).2 (XS.iconst X169.here hx rfl (hb hby d29_71) (XS.goto X169.here hx rfl (pc0 := 72) (pc' := 76) rfl (hb hby d29_72) (by decide) (by decide) k))))) ?_
  show Go p.tables e below Pf (T169.setTop (mkF m 76 #[vr sa, vi (0 : Int32), vi zn, vi (1 : Int32), vi ch0, vi ch1, vi ch2, vi ch3, vi ch0, .unset] [(.int (1 : Int32))]))
  rw [hPf]
  exact Go.retI' X169 hx hret hlk (by simp) rfl (hb hby d29_76) (by decide) (by decide) ⟨rfl, rfl, e169⟩
set_option maxHeartbeats 4000000 in
theorem ef_rmAt_11 (m : MethodId) {sa : Addr} {zn : Int32} {ch0 : Int32} {ch1 : Int32} {ch2 : Int32} {ch3 : Int32} : entryFrame m #[(.ref sa), (.int (1 : Int32)), (.int zn), (.int (1 : Int32)), (.int ch0), (.int ch1), (.int ch2), (.int ch3)] 10 = mkF m 0 #[vr sa, vi (1 : Int32), vi zn, vi (1 : Int32), vi ch0, vi ch1, vi ch2, vi ch3, .unset, .unset] [] := by first | (simp [entryFrame, mkF, argsToLocals, Value.category]; done) | rfl
def QrmAt_11 (Z : State) (vcs : Int32) (vfm : Value) (sa : Addr) (zn : Int32) (ch0 : Int32) (ch1 : Int32) (ch2 : Int32) (ch3 : Int32) (va : Addr) (ka : ClassId) (vsx : (List Value)) (xe : Int32) (h0 : Heap) (n0 : Nat) (v : Option Value) (h : Heap) (L : List Loc) : Prop := (v = some (.int (1 : Int32))) ∧ (L = []) ∧ (h = h0)
set_option maxRecDepth 65536 in
set_option maxHeartbeats 40000000 in
theorem rmAt_11 (l : Launch) (Z : State) (a0 : Array Value) (hw : ∀ d ∈ tables_1, d.before a0 Z = true) (ws : List Jvm.Cond) (vcs : Int32) (vfm : Value) (G : Gh Z vcs vfm) (sa : Addr) (zn : Int32) (ch0 : Int32) (ch1 : Int32) (ch2 : Int32) (ch3 : Int32) (va : Addr) (ka : ClassId) (vsx : (List Value)) (xe : Int32) (h0 : Heap) (n0 : Nat) (O0 : Old Z n0 h0) (EA : Exa Z h0 sa "java/lang/String") (FA : Fld Z h0 sa "java/lang/String" "value" "[B" (.ref va)) (CA : Fld Z h0 sa "java/lang/String" "coder" "B" (.int (0 : Int32))) (VA : Arv Z h0 va ka .byte zn vsx (.int (0 : Int32))) (hi1 : (1 : Int32) < zn) (hel : vsx.getD (1 : Int32).toNatClampNeg (Value.int (0 : Int32)) = Value.int xe) (hx_ : (xe &&& (255 : Int32)) = (46 : Int32)) :
    MetFree l (⟨"com/example/slatewipe/slatewipe/TableQualifiedNamePinLaw", "at", "(Ljava/lang/String;IIICCCC)Z"⟩ : MethodName) (head1 (Jvm.Cond.code (⟨"com/example/slatewipe/slatewipe/TableQualifiedNamePinLaw", "at", "(Ljava/lang/String;IIICCCC)Z"⟩ : MethodName) method_4_code 10 (some .boolean) :: ws) ({ frames := 4, cells := 0, slots := 0, locals := 53 } : Room)) (fun aa' UU' => aa' = #[(.ref sa), (.int (1 : Int32)), (.int zn), (.int (1 : Int32)), (.int ch0), (.int ch1), (.int ch2), (.int ch3)] ∧ Z.Warmed39 UU'.vm ∧ UU'.heap = h0) (fun _ _ _ _ _ => True) (fun _ UU' oo' VV' => ∃ v' L', oo' = .returned v' ∧ QrmAt_11 Z vcs vfm sa zn ch0 ch1 ch2 ch3 va ka vsx xe h0 n0 v' VV'.heap L' ∧ FrameEnd UU' oo' VV' L' ({ frames := 4, cells := 0, slots := 0, locals := 53 } : Room).cells ({ frames := 4, cells := 0, slots := 0, locals := 53 } : Room).slots) := by
  refine MetFree.of_bodySF (plainFor_of_name pn_29) hisR ?_
  intro p e s m args below meth c s₁ Bd hml0 hP hK
  obtain ⟨rfl, hZ, hh⟩ := hP
  have hx := Bd.exec
  have hby := Bd.bytes
  have hlk := Bd.notSynchronized
  have hml : c.maxLocals = 10 := hml0
  have hown : s.vm.findClass "com/example/slatewipe/slatewipe/TableQualifiedNamePinLaw" = some m.cls := findClass_of_methodNamed Bd.named
  have hnm := (name_of_methodNamed Bd.named Bd.method).1
  have hret := Bd.returns
  have X0 : Stand p l e ({ frames := 4, cells := 0, slots := 0, locals := 53 } : Room) s m #[(.ref sa), (.int (1 : Int32)), (.int zn), (.int (1 : Int32)), (.int ch0), (.int ch1), (.int ch2), (.int ch3)] below meth c s₁ [] 0 0 := Stand.of_body Bd
  have e0 : s₁.heap = h0 := by rw [← hh, Bd.state]; rfl
  have N0 := Fr.nil n0
  refine Go.body ?_
  obtain ⟨Pf, hPf⟩ : ∃ P, P = Fin' s below ({ frames := 4, cells := 0, slots := 0, locals := 53 } : Room).cells ({ frames := 4, cells := 0, slots := 0, locals := 53 } : Room).slots (QrmAt_11 Z vcs vfm sa zn ch0 ch1 ch2 ch3 va ka vsx xe h0 n0) := ⟨_, rfl⟩
  rw [← hPf]
  refine Go.cast (ef_rmAt_11 m) ?_
  have hw7 := (hw _ (List.mem_of_getElem? (i := 7) rfl))
  have hw164 := (hw _ (List.mem_of_getElem? (i := 164) rfl))
  have hw165 := (hw _ (List.mem_of_getElem? (i := 165) rfl))
  have hw166 := (hw _ (List.mem_of_getElem? (i := 166) rfl))
  have hw167 := (hw _ (List.mem_of_getElem? (i := 167) rfl))
  have hw168 := (hw _ (List.mem_of_getElem? (i := 168) rfl))
  show Go p.tables e below Pf (s₁.setTop (mkF m 0 #[vr sa, vi (1 : Int32), vi zn, vi (1 : Int32), vi ch0, vi ch1, vi ch2, vi ch3, .unset, .unset] []))
  refine Go.by' (fun t k => (XS.iloadN X0.here hx rfl (hb hby d29_0) rfl (XS.iloadN X0.here hx rfl (hb hby d29_1) rfl (XS.icmpYes X0.here hx rfl (pc0 := 2) (pc' := 7) rfl (hb hby d29_2) rfl (tlt hi1).1 (by decide) (by decide) (XS.iloadN X0.here hx rfl (hb hby d29_7) rfl (XS.iloadN X0.here hx rfl (hb hby d29_8) rfl (XS.icmpYes X0.here hx rfl (pc0 := 9) (pc' := 28) rfl (hb hby d29_9) rfl (flt (by decide)).2.1 (by decide) (by decide) (XS.iloadN X0.here hx rfl (hb hby d29_28) rfl (XS.iloadN X0.here hx rfl (hb hby d29_29) rfl k))))))))) ?_
  show Go p.tables e below Pf (s₁.setTop (mkF m 30 #[vr sa, vi (1 : Int32), vi zn, vi (1 : Int32), vi ch0, vi ch1, vi ch2, vi ch3, .unset, .unset] [(.int (1 : Int32)), (.int (1 : Int32))]))
  refine Go.by' (fun t k => (XS.icmpNo X0.here hx rfl (hb hby d29_30) rfl (teq (by decide)).2 (XS.bipush X0.here hx rfl (hb hby d29_33) (XS.istore X0.here hx rfl (hb hby d29_35) rfl (l' := #[vr sa, vi (1 : Int32), vi zn, vi (1 : Int32), vi ch0, vi ch1, vi ch2, vi ch3, vi (46 : Int32), .unset]) rfl (XS.goto X0.here hx rfl (pc0 := 37) (pc' := 61) rfl (hb hby d29_37) (by decide) (by decide) (XS.aloadN X0.here hx rfl (hb hby d29_61) rfl rfl (XS.iloadN X0.here hx rfl (hb hby d29_62) rfl k))))))) ?_
  obtain ⟨cq170, kq170, q170a, q170b, q170c⟩ := isOf hZ e0 EA
  obtain ⟨_, _, ⟨T170, L170, k170, n170⟩, -, X170, ⟨Lc170, hQ170, l170, y170, z170⟩, st170⟩ := X0.virtualBack hx (y := (⟨"java/lang/String", "charAt", "(I)C"⟩ : MethodName)) (z := (⟨"java/lang/String", "charAt", "(I)C"⟩ : MethodName)) hown (mvT hZ hw164) (mvT hZ hw165) (notFace_of_selects (args := #[]) (mvT hZ hw167)) (mvT hZ hw167) (mvT hZ hw166) (by decide) (backOf (W := 0) (rmSC l Z a0 hw [] vcs vfm G sa ((1 : Int32)) va ka zn vsx xe h0 n0 O0 EA FA CA VA (by decide) hi1 hel) hZ hw168 hw7 (by decide) (by decide)) q170a q170c (g := (mkF m 63 #[vr sa, vi (1 : Int32), vi zn, vi (1 : Int32), vi ch0, vi ch1, vi ch2, vi ch3, vi (46 : Int32), .unset] [(.int (1 : Int32)), (.ref sa)])) rfl (by rw [hml]; rfl) (Steps.refl _) (argsL := [(.int (1 : Int32))]) (rest := []) (lenOf pd_24 rfl) rfl (by show 2 * 0 + _ ≤ _; exact Nat.le_of_eq rfl) (hb hby d29_63) (fun _ _ => ⟨rfl, e0, (by decide : 0 + 0 ≤ _), (by decide : 0 + 0 ≤ _)⟩)
  dsimp only [Pt.U, Pt.locs, Pt.cells, Pt.slots] at X170 l170 y170 z170 st170 hQ170
  subst l170 y170 z170
  obtain ⟨rfl, rfl, e170⟩ := hQ170
  try replace X170 := own_nil X170
  refine Go.by' (fun t k => st170.trans k) ?_
  show Go p.tables e below Pf (T170.setTop (mkF m 66 #[vr sa, vi (1 : Int32), vi zn, vi (1 : Int32), vi ch0, vi ch1, vi ch2, vi ch3, vi (46 : Int32), .unset] [(.int (xe &&& (255 : Int32)))]))
  refine Go.by' (fun t k => (XS.iload X170.here hx rfl (hb hby d29_66) rfl (XS.icmpNo X170.here hx rfl (hb hby d29_68) rfl (teq hx_).2 (XS.iconst X170.here hx rfl (hb hby d29_71) (XS.goto X170.here hx rfl (pc0 := 72) (pc' := 76) rfl (hb hby d29_72) (by decide) (by decide) k))))) ?_
  show Go p.tables e below Pf (T170.setTop (mkF m 76 #[vr sa, vi (1 : Int32), vi zn, vi (1 : Int32), vi ch0, vi ch1, vi ch2, vi ch3, vi (46 : Int32), .unset] [(.int (1 : Int32))]))
  rw [hPf]
  exact Go.retI' X170 hx hret hlk (by simp) rfl (hb hby d29_76) (by decide) (by decide) ⟨rfl, rfl, e170⟩
set_option maxHeartbeats 4000000 in
theorem ef_rmAt_12 (m : MethodId) {sa : Addr} {zn : Int32} {ch0 : Int32} {ch1 : Int32} {ch2 : Int32} {ch3 : Int32} : entryFrame m #[(.ref sa), (.int (2 : Int32)), (.int zn), (.int (1 : Int32)), (.int ch0), (.int ch1), (.int ch2), (.int ch3)] 10 = mkF m 0 #[vr sa, vi (2 : Int32), vi zn, vi (1 : Int32), vi ch0, vi ch1, vi ch2, vi ch3, .unset, .unset] [] := by first | (simp [entryFrame, mkF, argsToLocals, Value.category]; done) | rfl
def QrmAt_12 (Z : State) (vcs : Int32) (vfm : Value) (sa : Addr) (zn : Int32) (ch0 : Int32) (ch1 : Int32) (ch2 : Int32) (ch3 : Int32) (va : Addr) (ka : ClassId) (vsx : (List Value)) (xe : Int32) (h0 : Heap) (n0 : Nat) (v : Option Value) (h : Heap) (L : List Loc) : Prop := (v = some (.int (1 : Int32))) ∧ (L = []) ∧ (h = h0)
set_option maxRecDepth 65536 in
set_option maxHeartbeats 40000000 in
theorem rmAt_12 (l : Launch) (Z : State) (a0 : Array Value) (hw : ∀ d ∈ tables_1, d.before a0 Z = true) (ws : List Jvm.Cond) (vcs : Int32) (vfm : Value) (G : Gh Z vcs vfm) (sa : Addr) (zn : Int32) (ch0 : Int32) (ch1 : Int32) (ch2 : Int32) (ch3 : Int32) (va : Addr) (ka : ClassId) (vsx : (List Value)) (xe : Int32) (h0 : Heap) (n0 : Nat) (O0 : Old Z n0 h0) (EA : Exa Z h0 sa "java/lang/String") (FA : Fld Z h0 sa "java/lang/String" "value" "[B" (.ref va)) (CA : Fld Z h0 sa "java/lang/String" "coder" "B" (.int (0 : Int32))) (VA : Arv Z h0 va ka .byte zn vsx (.int (0 : Int32))) (hi1 : (2 : Int32) < zn) (hel : vsx.getD (2 : Int32).toNatClampNeg (Value.int (0 : Int32)) = Value.int xe) (hx_ : (xe &&& (255 : Int32)) = ch2) :
    MetFree l (⟨"com/example/slatewipe/slatewipe/TableQualifiedNamePinLaw", "at", "(Ljava/lang/String;IIICCCC)Z"⟩ : MethodName) (head1 (Jvm.Cond.code (⟨"com/example/slatewipe/slatewipe/TableQualifiedNamePinLaw", "at", "(Ljava/lang/String;IIICCCC)Z"⟩ : MethodName) method_4_code 10 (some .boolean) :: ws) ({ frames := 4, cells := 0, slots := 0, locals := 53 } : Room)) (fun aa' UU' => aa' = #[(.ref sa), (.int (2 : Int32)), (.int zn), (.int (1 : Int32)), (.int ch0), (.int ch1), (.int ch2), (.int ch3)] ∧ Z.Warmed39 UU'.vm ∧ UU'.heap = h0) (fun _ _ _ _ _ => True) (fun _ UU' oo' VV' => ∃ v' L', oo' = .returned v' ∧ QrmAt_12 Z vcs vfm sa zn ch0 ch1 ch2 ch3 va ka vsx xe h0 n0 v' VV'.heap L' ∧ FrameEnd UU' oo' VV' L' ({ frames := 4, cells := 0, slots := 0, locals := 53 } : Room).cells ({ frames := 4, cells := 0, slots := 0, locals := 53 } : Room).slots) := by
  refine MetFree.of_bodySF (plainFor_of_name pn_29) hisR ?_
  intro p e s m args below meth c s₁ Bd hml0 hP hK
  obtain ⟨rfl, hZ, hh⟩ := hP
  have hx := Bd.exec
  have hby := Bd.bytes
  have hlk := Bd.notSynchronized
  have hml : c.maxLocals = 10 := hml0
  have hown : s.vm.findClass "com/example/slatewipe/slatewipe/TableQualifiedNamePinLaw" = some m.cls := findClass_of_methodNamed Bd.named
  have hnm := (name_of_methodNamed Bd.named Bd.method).1
  have hret := Bd.returns
  have X0 : Stand p l e ({ frames := 4, cells := 0, slots := 0, locals := 53 } : Room) s m #[(.ref sa), (.int (2 : Int32)), (.int zn), (.int (1 : Int32)), (.int ch0), (.int ch1), (.int ch2), (.int ch3)] below meth c s₁ [] 0 0 := Stand.of_body Bd
  have e0 : s₁.heap = h0 := by rw [← hh, Bd.state]; rfl
  have N0 := Fr.nil n0
  refine Go.body ?_
  obtain ⟨Pf, hPf⟩ : ∃ P, P = Fin' s below ({ frames := 4, cells := 0, slots := 0, locals := 53 } : Room).cells ({ frames := 4, cells := 0, slots := 0, locals := 53 } : Room).slots (QrmAt_12 Z vcs vfm sa zn ch0 ch1 ch2 ch3 va ka vsx xe h0 n0) := ⟨_, rfl⟩
  rw [← hPf]
  refine Go.cast (ef_rmAt_12 m) ?_
  have hw7 := (hw _ (List.mem_of_getElem? (i := 7) rfl))
  have hw164 := (hw _ (List.mem_of_getElem? (i := 164) rfl))
  have hw165 := (hw _ (List.mem_of_getElem? (i := 165) rfl))
  have hw166 := (hw _ (List.mem_of_getElem? (i := 166) rfl))
  have hw167 := (hw _ (List.mem_of_getElem? (i := 167) rfl))
  have hw168 := (hw _ (List.mem_of_getElem? (i := 168) rfl))
  show Go p.tables e below Pf (s₁.setTop (mkF m 0 #[vr sa, vi (2 : Int32), vi zn, vi (1 : Int32), vi ch0, vi ch1, vi ch2, vi ch3, .unset, .unset] []))
  refine Go.by' (fun t k => (XS.iloadN X0.here hx rfl (hb hby d29_0) rfl (XS.iloadN X0.here hx rfl (hb hby d29_1) rfl (XS.icmpYes X0.here hx rfl (pc0 := 2) (pc' := 7) rfl (hb hby d29_2) rfl (tlt hi1).1 (by decide) (by decide) (XS.iloadN X0.here hx rfl (hb hby d29_7) rfl (XS.iloadN X0.here hx rfl (hb hby d29_8) rfl (XS.icmpYes X0.here hx rfl (pc0 := 9) (pc' := 28) rfl (hb hby d29_9) rfl (flt (by decide)).2.1 (by decide) (by decide) (XS.iloadN X0.here hx rfl (hb hby d29_28) rfl (XS.iloadN X0.here hx rfl (hb hby d29_29) rfl k))))))))) ?_
  show Go p.tables e below Pf (s₁.setTop (mkF m 30 #[vr sa, vi (2 : Int32), vi zn, vi (1 : Int32), vi ch0, vi ch1, vi ch2, vi ch3, .unset, .unset] [(.int (1 : Int32)), (.int (2 : Int32))]))
  refine Go.by' (fun t k => (XS.icmpYes X0.here hx rfl (pc0 := 30) (pc' := 40) rfl (hb hby d29_30) rfl (feq (by decide)).2 (by decide) (by decide) (XS.iloadN X0.here hx rfl (hb hby d29_40) rfl (XS.iloadN X0.here hx rfl (hb hby d29_41) rfl (XS.isub X0.here hx rfl (hb hby d29_42) rfl k))))) ?_
  show Go p.tables e below Pf (s₁.setTop (mkF m 43 #[vr sa, vi (2 : Int32), vi zn, vi (1 : Int32), vi ch0, vi ch1, vi ch2, vi ch3, .unset, .unset] [(.int ((2 : Int32) - (1 : Int32)))]))
  refine Go.castF (a := ((2 : Int32) - (1 : Int32))) (b := (1 : Int32)) (fun z' : Int32 => mkF m 43 #[vr sa, vi (2 : Int32), vi zn, vi (1 : Int32), vi ch0, vi ch1, vi ch2, vi ch3, .unset, .unset] [(.int z')]) (by decide) ?_
  show Go p.tables e below Pf (s₁.setTop (mkF m 43 #[vr sa, vi (2 : Int32), vi zn, vi (1 : Int32), vi ch0, vi ch1, vi ch2, vi ch3, .unset, .unset] [(.int (1 : Int32))]))
  refine Go.by' (fun t k => (XS.iconst X0.here hx rfl (hb hby d29_43) (XS.isub X0.here hx rfl (hb hby d29_44) rfl k))) ?_
  show Go p.tables e below Pf (s₁.setTop (mkF m 45 #[vr sa, vi (2 : Int32), vi zn, vi (1 : Int32), vi ch0, vi ch1, vi ch2, vi ch3, .unset, .unset] [(.int ((1 : Int32) - (1 : Int32)))]))
  refine Go.castF (a := ((1 : Int32) - (1 : Int32))) (b := (0 : Int32)) (fun z' : Int32 => mkF m 45 #[vr sa, vi (2 : Int32), vi zn, vi (1 : Int32), vi ch0, vi ch1, vi ch2, vi ch3, .unset, .unset] [(.int z')]) (by decide) ?_
  show Go p.tables e below Pf (s₁.setTop (mkF m 45 #[vr sa, vi (2 : Int32), vi zn, vi (1 : Int32), vi ch0, vi ch1, vi ch2, vi ch3, .unset, .unset] [(.int (0 : Int32))]))
  refine Go.by' (fun t k => (XS.istore X0.here hx rfl (hb hby d29_45) rfl (l' := #[vr sa, vi (2 : Int32), vi zn, vi (1 : Int32), vi ch0, vi ch1, vi ch2, vi ch3, .unset, vi (0 : Int32)]) rfl (XS.iload X0.here hx rfl (hb hby d29_47) rfl (XS.ifNo X0.here hx rfl (hb hby d29_49) rfl ((if0 _ _).trans (teq (by decide)).2) (XS.iload X0.here hx rfl (hb hby d29_52) rfl (XS.goto X0.here hx rfl (pc0 := 54) (pc' := 59) rfl (hb hby d29_54) (by decide) (by decide) (XS.istore X0.here hx rfl (hb hby d29_59) rfl (l' := #[vr sa, vi (2 : Int32), vi zn, vi (1 : Int32), vi ch0, vi ch1, vi ch2, vi ch3, vi ch2, vi (0 : Int32)]) rfl (XS.aloadN X0.here hx rfl (hb hby d29_61) rfl rfl (XS.iloadN X0.here hx rfl (hb hby d29_62) rfl k))))))))) ?_
  obtain ⟨cq171, kq171, q171a, q171b, q171c⟩ := isOf hZ e0 EA
  obtain ⟨_, _, ⟨T171, L171, k171, n171⟩, -, X171, ⟨Lc171, hQ171, l171, y171, z171⟩, st171⟩ := X0.virtualBack hx (y := (⟨"java/lang/String", "charAt", "(I)C"⟩ : MethodName)) (z := (⟨"java/lang/String", "charAt", "(I)C"⟩ : MethodName)) hown (mvT hZ hw164) (mvT hZ hw165) (notFace_of_selects (args := #[]) (mvT hZ hw167)) (mvT hZ hw167) (mvT hZ hw166) (by decide) (backOf (W := 0) (rmSC l Z a0 hw [] vcs vfm G sa ((2 : Int32)) va ka zn vsx xe h0 n0 O0 EA FA CA VA (by decide) hi1 hel) hZ hw168 hw7 (by decide) (by decide)) q171a q171c (g := (mkF m 63 #[vr sa, vi (2 : Int32), vi zn, vi (1 : Int32), vi ch0, vi ch1, vi ch2, vi ch3, vi ch2, vi (0 : Int32)] [(.int (2 : Int32)), (.ref sa)])) rfl (by rw [hml]; rfl) (Steps.refl _) (argsL := [(.int (2 : Int32))]) (rest := []) (lenOf pd_24 rfl) rfl (by show 2 * 0 + _ ≤ _; exact Nat.le_of_eq rfl) (hb hby d29_63) (fun _ _ => ⟨rfl, e0, (by decide : 0 + 0 ≤ _), (by decide : 0 + 0 ≤ _)⟩)
  dsimp only [Pt.U, Pt.locs, Pt.cells, Pt.slots] at X171 l171 y171 z171 st171 hQ171
  subst l171 y171 z171
  obtain ⟨rfl, rfl, e171⟩ := hQ171
  try replace X171 := own_nil X171
  refine Go.by' (fun t k => st171.trans k) ?_
  show Go p.tables e below Pf (T171.setTop (mkF m 66 #[vr sa, vi (2 : Int32), vi zn, vi (1 : Int32), vi ch0, vi ch1, vi ch2, vi ch3, vi ch2, vi (0 : Int32)] [(.int (xe &&& (255 : Int32)))]))
  refine Go.by' (fun t k => (XS.iload X171.here hx rfl (hb hby d29_66) rfl (XS.icmpNo X171.here hx rfl (hb hby d29_68) rfl (teq hx_).2 (XS.iconst X171.here hx rfl (hb hby d29_71) (XS.goto X171.here hx rfl (pc0 := 72) (pc' := 76) rfl (hb hby d29_72) (by decide) (by decide) k))))) ?_
  show Go p.tables e below Pf (T171.setTop (mkF m 76 #[vr sa, vi (2 : Int32), vi zn, vi (1 : Int32), vi ch0, vi ch1, vi ch2, vi ch3, vi ch2, vi (0 : Int32)] [(.int (1 : Int32))]))
  rw [hPf]
  exact Go.retI' X171 hx hret hlk (by simp) rfl (hb hby d29_76) (by decide) (by decide) ⟨rfl, rfl, e171⟩
set_option maxHeartbeats 4000000 in
theorem ef_rmAt_13 (m : MethodId) {sa : Addr} {zn : Int32} {ch0 : Int32} {ch1 : Int32} {ch2 : Int32} {ch3 : Int32} : entryFrame m #[(.ref sa), (.int (3 : Int32)), (.int zn), (.int (1 : Int32)), (.int ch0), (.int ch1), (.int ch2), (.int ch3)] 10 = mkF m 0 #[vr sa, vi (3 : Int32), vi zn, vi (1 : Int32), vi ch0, vi ch1, vi ch2, vi ch3, .unset, .unset] [] := by first | (simp [entryFrame, mkF, argsToLocals, Value.category]; done) | rfl
def QrmAt_13 (Z : State) (vcs : Int32) (vfm : Value) (sa : Addr) (zn : Int32) (ch0 : Int32) (ch1 : Int32) (ch2 : Int32) (ch3 : Int32) (va : Addr) (ka : ClassId) (vsx : (List Value)) (xe : Int32) (h0 : Heap) (n0 : Nat) (v : Option Value) (h : Heap) (L : List Loc) : Prop := (v = some (.int (1 : Int32))) ∧ (L = []) ∧ (h = h0)
set_option maxRecDepth 65536 in
set_option maxHeartbeats 40000000 in
theorem rmAt_13 (l : Launch) (Z : State) (a0 : Array Value) (hw : ∀ d ∈ tables_1, d.before a0 Z = true) (ws : List Jvm.Cond) (vcs : Int32) (vfm : Value) (G : Gh Z vcs vfm) (sa : Addr) (zn : Int32) (ch0 : Int32) (ch1 : Int32) (ch2 : Int32) (ch3 : Int32) (va : Addr) (ka : ClassId) (vsx : (List Value)) (xe : Int32) (h0 : Heap) (n0 : Nat) (O0 : Old Z n0 h0) (EA : Exa Z h0 sa "java/lang/String") (FA : Fld Z h0 sa "java/lang/String" "value" "[B" (.ref va)) (CA : Fld Z h0 sa "java/lang/String" "coder" "B" (.int (0 : Int32))) (VA : Arv Z h0 va ka .byte zn vsx (.int (0 : Int32))) (hi1 : (3 : Int32) < zn) (hel : vsx.getD (3 : Int32).toNatClampNeg (Value.int (0 : Int32)) = Value.int xe) (hx_ : (xe &&& (255 : Int32)) = ch3) :
    MetFree l (⟨"com/example/slatewipe/slatewipe/TableQualifiedNamePinLaw", "at", "(Ljava/lang/String;IIICCCC)Z"⟩ : MethodName) (head1 (Jvm.Cond.code (⟨"com/example/slatewipe/slatewipe/TableQualifiedNamePinLaw", "at", "(Ljava/lang/String;IIICCCC)Z"⟩ : MethodName) method_4_code 10 (some .boolean) :: ws) ({ frames := 4, cells := 0, slots := 0, locals := 53 } : Room)) (fun aa' UU' => aa' = #[(.ref sa), (.int (3 : Int32)), (.int zn), (.int (1 : Int32)), (.int ch0), (.int ch1), (.int ch2), (.int ch3)] ∧ Z.Warmed39 UU'.vm ∧ UU'.heap = h0) (fun _ _ _ _ _ => True) (fun _ UU' oo' VV' => ∃ v' L', oo' = .returned v' ∧ QrmAt_13 Z vcs vfm sa zn ch0 ch1 ch2 ch3 va ka vsx xe h0 n0 v' VV'.heap L' ∧ FrameEnd UU' oo' VV' L' ({ frames := 4, cells := 0, slots := 0, locals := 53 } : Room).cells ({ frames := 4, cells := 0, slots := 0, locals := 53 } : Room).slots) := by
  refine MetFree.of_bodySF (plainFor_of_name pn_29) hisR ?_
  intro p e s m args below meth c s₁ Bd hml0 hP hK
  obtain ⟨rfl, hZ, hh⟩ := hP
  have hx := Bd.exec
  have hby := Bd.bytes
  have hlk := Bd.notSynchronized
  have hml : c.maxLocals = 10 := hml0
  have hown : s.vm.findClass "com/example/slatewipe/slatewipe/TableQualifiedNamePinLaw" = some m.cls := findClass_of_methodNamed Bd.named
  have hnm := (name_of_methodNamed Bd.named Bd.method).1
  have hret := Bd.returns
  have X0 : Stand p l e ({ frames := 4, cells := 0, slots := 0, locals := 53 } : Room) s m #[(.ref sa), (.int (3 : Int32)), (.int zn), (.int (1 : Int32)), (.int ch0), (.int ch1), (.int ch2), (.int ch3)] below meth c s₁ [] 0 0 := Stand.of_body Bd
  have e0 : s₁.heap = h0 := by rw [← hh, Bd.state]; rfl
  have N0 := Fr.nil n0
  refine Go.body ?_
  obtain ⟨Pf, hPf⟩ : ∃ P, P = Fin' s below ({ frames := 4, cells := 0, slots := 0, locals := 53 } : Room).cells ({ frames := 4, cells := 0, slots := 0, locals := 53 } : Room).slots (QrmAt_13 Z vcs vfm sa zn ch0 ch1 ch2 ch3 va ka vsx xe h0 n0) := ⟨_, rfl⟩
  rw [← hPf]
  refine Go.cast (ef_rmAt_13 m) ?_
  have hw7 := (hw _ (List.mem_of_getElem? (i := 7) rfl))
  have hw164 := (hw _ (List.mem_of_getElem? (i := 164) rfl))
  have hw165 := (hw _ (List.mem_of_getElem? (i := 165) rfl))
  have hw166 := (hw _ (List.mem_of_getElem? (i := 166) rfl))
  have hw167 := (hw _ (List.mem_of_getElem? (i := 167) rfl))
  have hw168 := (hw _ (List.mem_of_getElem? (i := 168) rfl))
  show Go p.tables e below Pf (s₁.setTop (mkF m 0 #[vr sa, vi (3 : Int32), vi zn, vi (1 : Int32), vi ch0, vi ch1, vi ch2, vi ch3, .unset, .unset] []))
  refine Go.by' (fun t k => (XS.iloadN X0.here hx rfl (hb hby d29_0) rfl (XS.iloadN X0.here hx rfl (hb hby d29_1) rfl (XS.icmpYes X0.here hx rfl (pc0 := 2) (pc' := 7) rfl (hb hby d29_2) rfl (tlt hi1).1 (by decide) (by decide) (XS.iloadN X0.here hx rfl (hb hby d29_7) rfl (XS.iloadN X0.here hx rfl (hb hby d29_8) rfl (XS.icmpYes X0.here hx rfl (pc0 := 9) (pc' := 28) rfl (hb hby d29_9) rfl (flt (by decide)).2.1 (by decide) (by decide) (XS.iloadN X0.here hx rfl (hb hby d29_28) rfl (XS.iloadN X0.here hx rfl (hb hby d29_29) rfl k))))))))) ?_
  show Go p.tables e below Pf (s₁.setTop (mkF m 30 #[vr sa, vi (3 : Int32), vi zn, vi (1 : Int32), vi ch0, vi ch1, vi ch2, vi ch3, .unset, .unset] [(.int (1 : Int32)), (.int (3 : Int32))]))
  refine Go.by' (fun t k => (XS.icmpYes X0.here hx rfl (pc0 := 30) (pc' := 40) rfl (hb hby d29_30) rfl (feq (by decide)).2 (by decide) (by decide) (XS.iloadN X0.here hx rfl (hb hby d29_40) rfl (XS.iloadN X0.here hx rfl (hb hby d29_41) rfl (XS.isub X0.here hx rfl (hb hby d29_42) rfl k))))) ?_
  show Go p.tables e below Pf (s₁.setTop (mkF m 43 #[vr sa, vi (3 : Int32), vi zn, vi (1 : Int32), vi ch0, vi ch1, vi ch2, vi ch3, .unset, .unset] [(.int ((3 : Int32) - (1 : Int32)))]))
  refine Go.castF (a := ((3 : Int32) - (1 : Int32))) (b := (2 : Int32)) (fun z' : Int32 => mkF m 43 #[vr sa, vi (3 : Int32), vi zn, vi (1 : Int32), vi ch0, vi ch1, vi ch2, vi ch3, .unset, .unset] [(.int z')]) (by decide) ?_
  show Go p.tables e below Pf (s₁.setTop (mkF m 43 #[vr sa, vi (3 : Int32), vi zn, vi (1 : Int32), vi ch0, vi ch1, vi ch2, vi ch3, .unset, .unset] [(.int (2 : Int32))]))
  refine Go.by' (fun t k => (XS.iconst X0.here hx rfl (hb hby d29_43) (XS.isub X0.here hx rfl (hb hby d29_44) rfl k))) ?_
  show Go p.tables e below Pf (s₁.setTop (mkF m 45 #[vr sa, vi (3 : Int32), vi zn, vi (1 : Int32), vi ch0, vi ch1, vi ch2, vi ch3, .unset, .unset] [(.int ((2 : Int32) - (1 : Int32)))]))
  refine Go.castF (a := ((2 : Int32) - (1 : Int32))) (b := (1 : Int32)) (fun z' : Int32 => mkF m 45 #[vr sa, vi (3 : Int32), vi zn, vi (1 : Int32), vi ch0, vi ch1, vi ch2, vi ch3, .unset, .unset] [(.int z')]) (by decide) ?_
  show Go p.tables e below Pf (s₁.setTop (mkF m 45 #[vr sa, vi (3 : Int32), vi zn, vi (1 : Int32), vi ch0, vi ch1, vi ch2, vi ch3, .unset, .unset] [(.int (1 : Int32))]))
  refine Go.by' (fun t k => (XS.istore X0.here hx rfl (hb hby d29_45) rfl (l' := #[vr sa, vi (3 : Int32), vi zn, vi (1 : Int32), vi ch0, vi ch1, vi ch2, vi ch3, .unset, vi (1 : Int32)]) rfl (XS.iload X0.here hx rfl (hb hby d29_47) rfl (XS.ifYes X0.here hx rfl (pc0 := 49) (pc' := 57) rfl (hb hby d29_49) rfl ((if0 _ _).trans (feq (by decide)).2) (by decide) (by decide) (XS.iload X0.here hx rfl (hb hby d29_57) rfl (XS.istore X0.here hx rfl (hb hby d29_59) rfl (l' := #[vr sa, vi (3 : Int32), vi zn, vi (1 : Int32), vi ch0, vi ch1, vi ch2, vi ch3, vi ch3, vi (1 : Int32)]) rfl (XS.aloadN X0.here hx rfl (hb hby d29_61) rfl rfl (XS.iloadN X0.here hx rfl (hb hby d29_62) rfl k)))))))) ?_
  obtain ⟨cq172, kq172, q172a, q172b, q172c⟩ := isOf hZ e0 EA
  obtain ⟨_, _, ⟨T172, L172, k172, n172⟩, -, X172, ⟨Lc172, hQ172, l172, y172, z172⟩, st172⟩ := X0.virtualBack hx (y := (⟨"java/lang/String", "charAt", "(I)C"⟩ : MethodName)) (z := (⟨"java/lang/String", "charAt", "(I)C"⟩ : MethodName)) hown (mvT hZ hw164) (mvT hZ hw165) (notFace_of_selects (args := #[]) (mvT hZ hw167)) (mvT hZ hw167) (mvT hZ hw166) (by decide) (backOf (W := 0) (rmSC l Z a0 hw [] vcs vfm G sa ((3 : Int32)) va ka zn vsx xe h0 n0 O0 EA FA CA VA (by decide) hi1 hel) hZ hw168 hw7 (by decide) (by decide)) q172a q172c (g := (mkF m 63 #[vr sa, vi (3 : Int32), vi zn, vi (1 : Int32), vi ch0, vi ch1, vi ch2, vi ch3, vi ch3, vi (1 : Int32)] [(.int (3 : Int32)), (.ref sa)])) rfl (by rw [hml]; rfl) (Steps.refl _) (argsL := [(.int (3 : Int32))]) (rest := []) (lenOf pd_24 rfl) rfl (by show 2 * 0 + _ ≤ _; exact Nat.le_of_eq rfl) (hb hby d29_63) (fun _ _ => ⟨rfl, e0, (by decide : 0 + 0 ≤ _), (by decide : 0 + 0 ≤ _)⟩)
  dsimp only [Pt.U, Pt.locs, Pt.cells, Pt.slots] at X172 l172 y172 z172 st172 hQ172
  subst l172 y172 z172
  obtain ⟨rfl, rfl, e172⟩ := hQ172
  try replace X172 := own_nil X172
  refine Go.by' (fun t k => st172.trans k) ?_
  show Go p.tables e below Pf (T172.setTop (mkF m 66 #[vr sa, vi (3 : Int32), vi zn, vi (1 : Int32), vi ch0, vi ch1, vi ch2, vi ch3, vi ch3, vi (1 : Int32)] [(.int (xe &&& (255 : Int32)))]))
  refine Go.by' (fun t k => (XS.iload X172.here hx rfl (hb hby d29_66) rfl (XS.icmpNo X172.here hx rfl (hb hby d29_68) rfl (teq hx_).2 (XS.iconst X172.here hx rfl (hb hby d29_71) (XS.goto X172.here hx rfl (pc0 := 72) (pc' := 76) rfl (hb hby d29_72) (by decide) (by decide) k))))) ?_
  show Go p.tables e below Pf (T172.setTop (mkF m 76 #[vr sa, vi (3 : Int32), vi zn, vi (1 : Int32), vi ch0, vi ch1, vi ch2, vi ch3, vi ch3, vi (1 : Int32)] [(.int (1 : Int32))]))
  rw [hPf]
  exact Go.retI' X172 hx hret hlk (by simp) rfl (hb hby d29_76) (by decide) (by decide) ⟨rfl, rfl, e172⟩
set_option maxHeartbeats 4000000 in
theorem ef_rmAt_20 (m : MethodId) {sa : Addr} {zn : Int32} {ch0 : Int32} {ch1 : Int32} {ch2 : Int32} {ch3 : Int32} : entryFrame m #[(.ref sa), (.int (0 : Int32)), (.int zn), (.int (2 : Int32)), (.int ch0), (.int ch1), (.int ch2), (.int ch3)] 10 = mkF m 0 #[vr sa, vi (0 : Int32), vi zn, vi (2 : Int32), vi ch0, vi ch1, vi ch2, vi ch3, .unset, .unset] [] := by first | (simp [entryFrame, mkF, argsToLocals, Value.category]; done) | rfl
def QrmAt_20 (Z : State) (vcs : Int32) (vfm : Value) (sa : Addr) (zn : Int32) (ch0 : Int32) (ch1 : Int32) (ch2 : Int32) (ch3 : Int32) (va : Addr) (ka : ClassId) (vsx : (List Value)) (xe : Int32) (h0 : Heap) (n0 : Nat) (v : Option Value) (h : Heap) (L : List Loc) : Prop := (v = some (.int (1 : Int32))) ∧ (L = []) ∧ (h = h0)
set_option maxRecDepth 65536 in
set_option maxHeartbeats 40000000 in
theorem rmAt_20 (l : Launch) (Z : State) (a0 : Array Value) (hw : ∀ d ∈ tables_1, d.before a0 Z = true) (ws : List Jvm.Cond) (vcs : Int32) (vfm : Value) (G : Gh Z vcs vfm) (sa : Addr) (zn : Int32) (ch0 : Int32) (ch1 : Int32) (ch2 : Int32) (ch3 : Int32) (va : Addr) (ka : ClassId) (vsx : (List Value)) (xe : Int32) (h0 : Heap) (n0 : Nat) (O0 : Old Z n0 h0) (EA : Exa Z h0 sa "java/lang/String") (FA : Fld Z h0 sa "java/lang/String" "value" "[B" (.ref va)) (CA : Fld Z h0 sa "java/lang/String" "coder" "B" (.int (0 : Int32))) (VA : Arv Z h0 va ka .byte zn vsx (.int (0 : Int32))) (hi1 : (0 : Int32) < zn) (hel : vsx.getD (0 : Int32).toNatClampNeg (Value.int (0 : Int32)) = Value.int xe) (hx_ : (xe &&& (255 : Int32)) = ch0) :
    MetFree l (⟨"com/example/slatewipe/slatewipe/TableQualifiedNamePinLaw", "at", "(Ljava/lang/String;IIICCCC)Z"⟩ : MethodName) (head1 (Jvm.Cond.code (⟨"com/example/slatewipe/slatewipe/TableQualifiedNamePinLaw", "at", "(Ljava/lang/String;IIICCCC)Z"⟩ : MethodName) method_4_code 10 (some .boolean) :: ws) ({ frames := 4, cells := 0, slots := 0, locals := 53 } : Room)) (fun aa' UU' => aa' = #[(.ref sa), (.int (0 : Int32)), (.int zn), (.int (2 : Int32)), (.int ch0), (.int ch1), (.int ch2), (.int ch3)] ∧ Z.Warmed39 UU'.vm ∧ UU'.heap = h0) (fun _ _ _ _ _ => True) (fun _ UU' oo' VV' => ∃ v' L', oo' = .returned v' ∧ QrmAt_20 Z vcs vfm sa zn ch0 ch1 ch2 ch3 va ka vsx xe h0 n0 v' VV'.heap L' ∧ FrameEnd UU' oo' VV' L' ({ frames := 4, cells := 0, slots := 0, locals := 53 } : Room).cells ({ frames := 4, cells := 0, slots := 0, locals := 53 } : Room).slots) := by
  refine MetFree.of_bodySF (plainFor_of_name pn_29) hisR ?_
  intro p e s m args below meth c s₁ Bd hml0 hP hK
  obtain ⟨rfl, hZ, hh⟩ := hP
  have hx := Bd.exec
  have hby := Bd.bytes
  have hlk := Bd.notSynchronized
  have hml : c.maxLocals = 10 := hml0
  have hown : s.vm.findClass "com/example/slatewipe/slatewipe/TableQualifiedNamePinLaw" = some m.cls := findClass_of_methodNamed Bd.named
  have hnm := (name_of_methodNamed Bd.named Bd.method).1
  have hret := Bd.returns
  have X0 : Stand p l e ({ frames := 4, cells := 0, slots := 0, locals := 53 } : Room) s m #[(.ref sa), (.int (0 : Int32)), (.int zn), (.int (2 : Int32)), (.int ch0), (.int ch1), (.int ch2), (.int ch3)] below meth c s₁ [] 0 0 := Stand.of_body Bd
  have e0 : s₁.heap = h0 := by rw [← hh, Bd.state]; rfl
  have N0 := Fr.nil n0
  refine Go.body ?_
  obtain ⟨Pf, hPf⟩ : ∃ P, P = Fin' s below ({ frames := 4, cells := 0, slots := 0, locals := 53 } : Room).cells ({ frames := 4, cells := 0, slots := 0, locals := 53 } : Room).slots (QrmAt_20 Z vcs vfm sa zn ch0 ch1 ch2 ch3 va ka vsx xe h0 n0) := ⟨_, rfl⟩
  rw [← hPf]
  refine Go.cast (ef_rmAt_20 m) ?_
  have hw7 := (hw _ (List.mem_of_getElem? (i := 7) rfl))
  have hw164 := (hw _ (List.mem_of_getElem? (i := 164) rfl))
  have hw165 := (hw _ (List.mem_of_getElem? (i := 165) rfl))
  have hw166 := (hw _ (List.mem_of_getElem? (i := 166) rfl))
  have hw167 := (hw _ (List.mem_of_getElem? (i := 167) rfl))
  have hw168 := (hw _ (List.mem_of_getElem? (i := 168) rfl))
  show Go p.tables e below Pf (s₁.setTop (mkF m 0 #[vr sa, vi (0 : Int32), vi zn, vi (2 : Int32), vi ch0, vi ch1, vi ch2, vi ch3, .unset, .unset] []))
  refine Go.by' (fun t k => (XS.iloadN X0.here hx rfl (hb hby d29_0) rfl (XS.iloadN X0.here hx rfl (hb hby d29_1) rfl (XS.icmpYes X0.here hx rfl (pc0 := 2) (pc' := 7) rfl (hb hby d29_2) rfl (tlt hi1).1 (by decide) (by decide) (XS.iloadN X0.here hx rfl (hb hby d29_7) rfl (XS.iloadN X0.here hx rfl (hb hby d29_8) rfl (XS.icmpNo X0.here hx rfl (hb hby d29_9) rfl (tlt (by decide)).2.1 (XS.iloadN X0.here hx rfl (hb hby d29_12) rfl (XS.ifNo X0.here hx rfl (hb hby d29_13) rfl ((if0 _ _).trans (teq (by decide)).2) k))))))))) ?_
  show Go p.tables e below Pf (s₁.setTop (mkF m 16 #[vr sa, vi (0 : Int32), vi zn, vi (2 : Int32), vi ch0, vi ch1, vi ch2, vi ch3, .unset, .unset] []))
  refine Go.by' (fun t k => (XS.iload X0.here hx rfl (hb hby d29_16) rfl (XS.goto X0.here hx rfl (pc0 := 18) (pc' := 23) rfl (hb hby d29_18) (by decide) (by decide) (XS.istore X0.here hx rfl (hb hby d29_23) rfl (l' := #[vr sa, vi (0 : Int32), vi zn, vi (2 : Int32), vi ch0, vi ch1, vi ch2, vi ch3, vi ch0, .unset]) rfl (XS.goto X0.here hx rfl (pc0 := 25) (pc' := 61) rfl (hb hby d29_25) (by decide) (by decide) (XS.aloadN X0.here hx rfl (hb hby d29_61) rfl rfl (XS.iloadN X0.here hx rfl (hb hby d29_62) rfl k))))))) ?_
  obtain ⟨cq173, kq173, q173a, q173b, q173c⟩ := isOf hZ e0 EA
  obtain ⟨_, _, ⟨T173, L173, k173, n173⟩, -, X173, ⟨Lc173, hQ173, l173, y173, z173⟩, st173⟩ := X0.virtualBack hx (y := (⟨"java/lang/String", "charAt", "(I)C"⟩ : MethodName)) (z := (⟨"java/lang/String", "charAt", "(I)C"⟩ : MethodName)) hown (mvT hZ hw164) (mvT hZ hw165) (notFace_of_selects (args := #[]) (mvT hZ hw167)) (mvT hZ hw167) (mvT hZ hw166) (by decide) (backOf (W := 0) (rmSC l Z a0 hw [] vcs vfm G sa ((0 : Int32)) va ka zn vsx xe h0 n0 O0 EA FA CA VA (by decide) hi1 hel) hZ hw168 hw7 (by decide) (by decide)) q173a q173c (g := (mkF m 63 #[vr sa, vi (0 : Int32), vi zn, vi (2 : Int32), vi ch0, vi ch1, vi ch2, vi ch3, vi ch0, .unset] [(.int (0 : Int32)), (.ref sa)])) rfl (by rw [hml]; rfl) (Steps.refl _) (argsL := [(.int (0 : Int32))]) (rest := []) (lenOf pd_24 rfl) rfl (by show 2 * 0 + _ ≤ _; exact Nat.le_of_eq rfl) (hb hby d29_63) (fun _ _ => ⟨rfl, e0, (by decide : 0 + 0 ≤ _), (by decide : 0 + 0 ≤ _)⟩)
  dsimp only [Pt.U, Pt.locs, Pt.cells, Pt.slots] at X173 l173 y173 z173 st173 hQ173
  subst l173 y173 z173
  obtain ⟨rfl, rfl, e173⟩ := hQ173
  try replace X173 := own_nil X173
  refine Go.by' (fun t k => st173.trans k) ?_
  show Go p.tables e below Pf (T173.setTop (mkF m 66 #[vr sa, vi (0 : Int32), vi zn, vi (2 : Int32), vi ch0, vi ch1, vi ch2, vi ch3, vi ch0, .unset] [(.int (xe &&& (255 : Int32)))]))
  refine Go.by' (fun t k => (XS.iload X173.here hx rfl (hb hby d29_66) rfl (XS.icmpNo X173.here hx rfl (hb hby d29_68) rfl (teq hx_).2 (XS.iconst X173.here hx rfl (hb hby d29_71) (XS.goto X173.here hx rfl (pc0 := 72) (pc' := 76) rfl (hb hby d29_72) (by decide) (by decide) k))))) ?_
  show Go p.tables e below Pf (T173.setTop (mkF m 76 #[vr sa, vi (0 : Int32), vi zn, vi (2 : Int32), vi ch0, vi ch1, vi ch2, vi ch3, vi ch0, .unset] [(.int (1 : Int32))]))
  rw [hPf]
  exact Go.retI' X173 hx hret hlk (by simp) rfl (hb hby d29_76) (by decide) (by decide) ⟨rfl, rfl, e173⟩
theorem d29_21 : decode method_4_code 21 = .ok (.iload 5, 2) := by decide +kernel
set_option maxHeartbeats 4000000 in
theorem ef_rmAt_21 (m : MethodId) {sa : Addr} {zn : Int32} {ch0 : Int32} {ch1 : Int32} {ch2 : Int32} {ch3 : Int32} : entryFrame m #[(.ref sa), (.int (1 : Int32)), (.int zn), (.int (2 : Int32)), (.int ch0), (.int ch1), (.int ch2), (.int ch3)] 10 = mkF m 0 #[vr sa, vi (1 : Int32), vi zn, vi (2 : Int32), vi ch0, vi ch1, vi ch2, vi ch3, .unset, .unset] [] := by first | (simp [entryFrame, mkF, argsToLocals, Value.category]; done) | rfl
def QrmAt_21 (Z : State) (vcs : Int32) (vfm : Value) (sa : Addr) (zn : Int32) (ch0 : Int32) (ch1 : Int32) (ch2 : Int32) (ch3 : Int32) (va : Addr) (ka : ClassId) (vsx : (List Value)) (xe : Int32) (h0 : Heap) (n0 : Nat) (v : Option Value) (h : Heap) (L : List Loc) : Prop := (v = some (.int (1 : Int32))) ∧ (L = []) ∧ (h = h0)
set_option maxRecDepth 65536 in
set_option maxHeartbeats 40000000 in
theorem rmAt_21 (l : Launch) (Z : State) (a0 : Array Value) (hw : ∀ d ∈ tables_1, d.before a0 Z = true) (ws : List Jvm.Cond) (vcs : Int32) (vfm : Value) (G : Gh Z vcs vfm) (sa : Addr) (zn : Int32) (ch0 : Int32) (ch1 : Int32) (ch2 : Int32) (ch3 : Int32) (va : Addr) (ka : ClassId) (vsx : (List Value)) (xe : Int32) (h0 : Heap) (n0 : Nat) (O0 : Old Z n0 h0) (EA : Exa Z h0 sa "java/lang/String") (FA : Fld Z h0 sa "java/lang/String" "value" "[B" (.ref va)) (CA : Fld Z h0 sa "java/lang/String" "coder" "B" (.int (0 : Int32))) (VA : Arv Z h0 va ka .byte zn vsx (.int (0 : Int32))) (hi1 : (1 : Int32) < zn) (hel : vsx.getD (1 : Int32).toNatClampNeg (Value.int (0 : Int32)) = Value.int xe) (hx_ : (xe &&& (255 : Int32)) = ch1) :
    MetFree l (⟨"com/example/slatewipe/slatewipe/TableQualifiedNamePinLaw", "at", "(Ljava/lang/String;IIICCCC)Z"⟩ : MethodName) (head1 (Jvm.Cond.code (⟨"com/example/slatewipe/slatewipe/TableQualifiedNamePinLaw", "at", "(Ljava/lang/String;IIICCCC)Z"⟩ : MethodName) method_4_code 10 (some .boolean) :: ws) ({ frames := 4, cells := 0, slots := 0, locals := 53 } : Room)) (fun aa' UU' => aa' = #[(.ref sa), (.int (1 : Int32)), (.int zn), (.int (2 : Int32)), (.int ch0), (.int ch1), (.int ch2), (.int ch3)] ∧ Z.Warmed39 UU'.vm ∧ UU'.heap = h0) (fun _ _ _ _ _ => True) (fun _ UU' oo' VV' => ∃ v' L', oo' = .returned v' ∧ QrmAt_21 Z vcs vfm sa zn ch0 ch1 ch2 ch3 va ka vsx xe h0 n0 v' VV'.heap L' ∧ FrameEnd UU' oo' VV' L' ({ frames := 4, cells := 0, slots := 0, locals := 53 } : Room).cells ({ frames := 4, cells := 0, slots := 0, locals := 53 } : Room).slots) := by
  refine MetFree.of_bodySF (plainFor_of_name pn_29) hisR ?_
  intro p e s m args below meth c s₁ Bd hml0 hP hK
  obtain ⟨rfl, hZ, hh⟩ := hP
  have hx := Bd.exec
  have hby := Bd.bytes
  have hlk := Bd.notSynchronized
  have hml : c.maxLocals = 10 := hml0
  have hown : s.vm.findClass "com/example/slatewipe/slatewipe/TableQualifiedNamePinLaw" = some m.cls := findClass_of_methodNamed Bd.named
  have hnm := (name_of_methodNamed Bd.named Bd.method).1
  have hret := Bd.returns
  have X0 : Stand p l e ({ frames := 4, cells := 0, slots := 0, locals := 53 } : Room) s m #[(.ref sa), (.int (1 : Int32)), (.int zn), (.int (2 : Int32)), (.int ch0), (.int ch1), (.int ch2), (.int ch3)] below meth c s₁ [] 0 0 := Stand.of_body Bd
  have e0 : s₁.heap = h0 := by rw [← hh, Bd.state]; rfl
  have N0 := Fr.nil n0
  refine Go.body ?_
  obtain ⟨Pf, hPf⟩ : ∃ P, P = Fin' s below ({ frames := 4, cells := 0, slots := 0, locals := 53 } : Room).cells ({ frames := 4, cells := 0, slots := 0, locals := 53 } : Room).slots (QrmAt_21 Z vcs vfm sa zn ch0 ch1 ch2 ch3 va ka vsx xe h0 n0) := ⟨_, rfl⟩
  rw [← hPf]
  refine Go.cast (ef_rmAt_21 m) ?_
  have hw7 := (hw _ (List.mem_of_getElem? (i := 7) rfl))
  have hw164 := (hw _ (List.mem_of_getElem? (i := 164) rfl))
  have hw165 := (hw _ (List.mem_of_getElem? (i := 165) rfl))
  have hw166 := (hw _ (List.mem_of_getElem? (i := 166) rfl))
  have hw167 := (hw _ (List.mem_of_getElem? (i := 167) rfl))
  have hw168 := (hw _ (List.mem_of_getElem? (i := 168) rfl))
  show Go p.tables e below Pf (s₁.setTop (mkF m 0 #[vr sa, vi (1 : Int32), vi zn, vi (2 : Int32), vi ch0, vi ch1, vi ch2, vi ch3, .unset, .unset] []))
  refine Go.by' (fun t k => (XS.iloadN X0.here hx rfl (hb hby d29_0) rfl (XS.iloadN X0.here hx rfl (hb hby d29_1) rfl (XS.icmpYes X0.here hx rfl (pc0 := 2) (pc' := 7) rfl (hb hby d29_2) rfl (tlt hi1).1 (by decide) (by decide) (XS.iloadN X0.here hx rfl (hb hby d29_7) rfl (XS.iloadN X0.here hx rfl (hb hby d29_8) rfl (XS.icmpNo X0.here hx rfl (hb hby d29_9) rfl (tlt (by decide)).2.1 (XS.iloadN X0.here hx rfl (hb hby d29_12) rfl (XS.ifYes X0.here hx rfl (pc0 := 13) (pc' := 21) rfl (hb hby d29_13) rfl ((if0 _ _).trans (feq (by decide)).2) (by decide) (by decide) k))))))))) ?_
  show Go p.tables e below Pf (s₁.setTop (mkF m 21 #[vr sa, vi (1 : Int32), vi zn, vi (2 : Int32), vi ch0, vi ch1, vi ch2, vi ch3, .unset, .unset] []))
  refine Go.by' (fun t k => (XS.iload X0.here hx rfl (hb hby d29_21) rfl (XS.istore X0.here hx rfl (hb hby d29_23) rfl (l' := #[vr sa, vi (1 : Int32), vi zn, vi (2 : Int32), vi ch0, vi ch1, vi ch2, vi ch3, vi ch1, .unset]) rfl (XS.goto X0.here hx rfl (pc0 := 25) (pc' := 61) rfl (hb hby d29_25) (by decide) (by decide) (XS.aloadN X0.here hx rfl (hb hby d29_61) rfl rfl (XS.iloadN X0.here hx rfl (hb hby d29_62) rfl k)))))) ?_
  obtain ⟨cq174, kq174, q174a, q174b, q174c⟩ := isOf hZ e0 EA
  obtain ⟨_, _, ⟨T174, L174, k174, n174⟩, -, X174, ⟨Lc174, hQ174, l174, y174, z174⟩, st174⟩ := X0.virtualBack hx (y := (⟨"java/lang/String", "charAt", "(I)C"⟩ : MethodName)) (z := (⟨"java/lang/String", "charAt", "(I)C"⟩ : MethodName)) hown (mvT hZ hw164) (mvT hZ hw165) (notFace_of_selects (args := #[]) (mvT hZ hw167)) (mvT hZ hw167) (mvT hZ hw166) (by decide) (backOf (W := 0) (rmSC l Z a0 hw [] vcs vfm G sa ((1 : Int32)) va ka zn vsx xe h0 n0 O0 EA FA CA VA (by decide) hi1 hel) hZ hw168 hw7 (by decide) (by decide)) q174a q174c (g := (mkF m 63 #[vr sa, vi (1 : Int32), vi zn, vi (2 : Int32), vi ch0, vi ch1, vi ch2, vi ch3, vi ch1, .unset] [(.int (1 : Int32)), (.ref sa)])) rfl (by rw [hml]; rfl) (Steps.refl _) (argsL := [(.int (1 : Int32))]) (rest := []) (lenOf pd_24 rfl) rfl (by show 2 * 0 + _ ≤ _; exact Nat.le_of_eq rfl) (hb hby d29_63) (fun _ _ => ⟨rfl, e0, (by decide : 0 + 0 ≤ _), (by decide : 0 + 0 ≤ _)⟩)
  dsimp only [Pt.U, Pt.locs, Pt.cells, Pt.slots] at X174 l174 y174 z174 st174 hQ174
  subst l174 y174 z174
  obtain ⟨rfl, rfl, e174⟩ := hQ174
  try replace X174 := own_nil X174
  refine Go.by' (fun t k => st174.trans k) ?_
  show Go p.tables e below Pf (T174.setTop (mkF m 66 #[vr sa, vi (1 : Int32), vi zn, vi (2 : Int32), vi ch0, vi ch1, vi ch2, vi ch3, vi ch1, .unset] [(.int (xe &&& (255 : Int32)))]))
  refine Go.by' (fun t k => (XS.iload X174.here hx rfl (hb hby d29_66) rfl (XS.icmpNo X174.here hx rfl (hb hby d29_68) rfl (teq hx_).2 (XS.iconst X174.here hx rfl (hb hby d29_71) (XS.goto X174.here hx rfl (pc0 := 72) (pc' := 76) rfl (hb hby d29_72) (by decide) (by decide) k))))) ?_
  show Go p.tables e below Pf (T174.setTop (mkF m 76 #[vr sa, vi (1 : Int32), vi zn, vi (2 : Int32), vi ch0, vi ch1, vi ch2, vi ch3, vi ch1, .unset] [(.int (1 : Int32))]))
  rw [hPf]
  exact Go.retI' X174 hx hret hlk (by simp) rfl (hb hby d29_76) (by decide) (by decide) ⟨rfl, rfl, e174⟩
set_option maxHeartbeats 4000000 in
theorem ef_rmAt_22 (m : MethodId) {sa : Addr} {zn : Int32} {ch0 : Int32} {ch1 : Int32} {ch2 : Int32} {ch3 : Int32} : entryFrame m #[(.ref sa), (.int (2 : Int32)), (.int zn), (.int (2 : Int32)), (.int ch0), (.int ch1), (.int ch2), (.int ch3)] 10 = mkF m 0 #[vr sa, vi (2 : Int32), vi zn, vi (2 : Int32), vi ch0, vi ch1, vi ch2, vi ch3, .unset, .unset] [] := by first | (simp [entryFrame, mkF, argsToLocals, Value.category]; done) | rfl
def QrmAt_22 (Z : State) (vcs : Int32) (vfm : Value) (sa : Addr) (zn : Int32) (ch0 : Int32) (ch1 : Int32) (ch2 : Int32) (ch3 : Int32) (va : Addr) (ka : ClassId) (vsx : (List Value)) (xe : Int32) (h0 : Heap) (n0 : Nat) (v : Option Value) (h : Heap) (L : List Loc) : Prop := (v = some (.int (1 : Int32))) ∧ (L = []) ∧ (h = h0)
set_option maxRecDepth 65536 in
set_option maxHeartbeats 40000000 in
theorem rmAt_22 (l : Launch) (Z : State) (a0 : Array Value) (hw : ∀ d ∈ tables_1, d.before a0 Z = true) (ws : List Jvm.Cond) (vcs : Int32) (vfm : Value) (G : Gh Z vcs vfm) (sa : Addr) (zn : Int32) (ch0 : Int32) (ch1 : Int32) (ch2 : Int32) (ch3 : Int32) (va : Addr) (ka : ClassId) (vsx : (List Value)) (xe : Int32) (h0 : Heap) (n0 : Nat) (O0 : Old Z n0 h0) (EA : Exa Z h0 sa "java/lang/String") (FA : Fld Z h0 sa "java/lang/String" "value" "[B" (.ref va)) (CA : Fld Z h0 sa "java/lang/String" "coder" "B" (.int (0 : Int32))) (VA : Arv Z h0 va ka .byte zn vsx (.int (0 : Int32))) (hi1 : (2 : Int32) < zn) (hel : vsx.getD (2 : Int32).toNatClampNeg (Value.int (0 : Int32)) = Value.int xe) (hx_ : (xe &&& (255 : Int32)) = (46 : Int32)) :
    MetFree l (⟨"com/example/slatewipe/slatewipe/TableQualifiedNamePinLaw", "at", "(Ljava/lang/String;IIICCCC)Z"⟩ : MethodName) (head1 (Jvm.Cond.code (⟨"com/example/slatewipe/slatewipe/TableQualifiedNamePinLaw", "at", "(Ljava/lang/String;IIICCCC)Z"⟩ : MethodName) method_4_code 10 (some .boolean) :: ws) ({ frames := 4, cells := 0, slots := 0, locals := 53 } : Room)) (fun aa' UU' => aa' = #[(.ref sa), (.int (2 : Int32)), (.int zn), (.int (2 : Int32)), (.int ch0), (.int ch1), (.int ch2), (.int ch3)] ∧ Z.Warmed39 UU'.vm ∧ UU'.heap = h0) (fun _ _ _ _ _ => True) (fun _ UU' oo' VV' => ∃ v' L', oo' = .returned v' ∧ QrmAt_22 Z vcs vfm sa zn ch0 ch1 ch2 ch3 va ka vsx xe h0 n0 v' VV'.heap L' ∧ FrameEnd UU' oo' VV' L' ({ frames := 4, cells := 0, slots := 0, locals := 53 } : Room).cells ({ frames := 4, cells := 0, slots := 0, locals := 53 } : Room).slots) := by
  refine MetFree.of_bodySF (plainFor_of_name pn_29) hisR ?_
  intro p e s m args below meth c s₁ Bd hml0 hP hK
  obtain ⟨rfl, hZ, hh⟩ := hP
  have hx := Bd.exec
  have hby := Bd.bytes
  have hlk := Bd.notSynchronized
  have hml : c.maxLocals = 10 := hml0
  have hown : s.vm.findClass "com/example/slatewipe/slatewipe/TableQualifiedNamePinLaw" = some m.cls := findClass_of_methodNamed Bd.named
  have hnm := (name_of_methodNamed Bd.named Bd.method).1
  have hret := Bd.returns
  have X0 : Stand p l e ({ frames := 4, cells := 0, slots := 0, locals := 53 } : Room) s m #[(.ref sa), (.int (2 : Int32)), (.int zn), (.int (2 : Int32)), (.int ch0), (.int ch1), (.int ch2), (.int ch3)] below meth c s₁ [] 0 0 := Stand.of_body Bd
  have e0 : s₁.heap = h0 := by rw [← hh, Bd.state]; rfl
  have N0 := Fr.nil n0
  refine Go.body ?_
  obtain ⟨Pf, hPf⟩ : ∃ P, P = Fin' s below ({ frames := 4, cells := 0, slots := 0, locals := 53 } : Room).cells ({ frames := 4, cells := 0, slots := 0, locals := 53 } : Room).slots (QrmAt_22 Z vcs vfm sa zn ch0 ch1 ch2 ch3 va ka vsx xe h0 n0) := ⟨_, rfl⟩
  rw [← hPf]
  refine Go.cast (ef_rmAt_22 m) ?_
  have hw7 := (hw _ (List.mem_of_getElem? (i := 7) rfl))
  have hw164 := (hw _ (List.mem_of_getElem? (i := 164) rfl))
  have hw165 := (hw _ (List.mem_of_getElem? (i := 165) rfl))
  have hw166 := (hw _ (List.mem_of_getElem? (i := 166) rfl))
  have hw167 := (hw _ (List.mem_of_getElem? (i := 167) rfl))
  have hw168 := (hw _ (List.mem_of_getElem? (i := 168) rfl))
  show Go p.tables e below Pf (s₁.setTop (mkF m 0 #[vr sa, vi (2 : Int32), vi zn, vi (2 : Int32), vi ch0, vi ch1, vi ch2, vi ch3, .unset, .unset] []))
  refine Go.by' (fun t k => (XS.iloadN X0.here hx rfl (hb hby d29_0) rfl (XS.iloadN X0.here hx rfl (hb hby d29_1) rfl (XS.icmpYes X0.here hx rfl (pc0 := 2) (pc' := 7) rfl (hb hby d29_2) rfl (tlt hi1).1 (by decide) (by decide) (XS.iloadN X0.here hx rfl (hb hby d29_7) rfl (XS.iloadN X0.here hx rfl (hb hby d29_8) rfl (XS.icmpYes X0.here hx rfl (pc0 := 9) (pc' := 28) rfl (hb hby d29_9) rfl (flt (by decide)).2.1 (by decide) (by decide) (XS.iloadN X0.here hx rfl (hb hby d29_28) rfl (XS.iloadN X0.here hx rfl (hb hby d29_29) rfl k))))))))) ?_
  show Go p.tables e below Pf (s₁.setTop (mkF m 30 #[vr sa, vi (2 : Int32), vi zn, vi (2 : Int32), vi ch0, vi ch1, vi ch2, vi ch3, .unset, .unset] [(.int (2 : Int32)), (.int (2 : Int32))]))
  refine Go.by' (fun t k => (XS.icmpNo X0.here hx rfl (hb hby d29_30) rfl (teq (by decide)).2 (XS.bipush X0.here hx rfl (hb hby d29_33) (XS.istore X0.here hx rfl (hb hby d29_35) rfl (l' := #[vr sa, vi (2 : Int32), vi zn, vi (2 : Int32), vi ch0, vi ch1, vi ch2, vi ch3, vi (46 : Int32), .unset]) rfl (XS.goto X0.here hx rfl (pc0 := 37) (pc' := 61) rfl (hb hby d29_37) (by decide) (by decide) (XS.aloadN X0.here hx rfl (hb hby d29_61) rfl rfl (XS.iloadN X0.here hx rfl (hb hby d29_62) rfl k))))))) ?_
  obtain ⟨cq175, kq175, q175a, q175b, q175c⟩ := isOf hZ e0 EA
  obtain ⟨_, _, ⟨T175, L175, k175, n175⟩, -, X175, ⟨Lc175, hQ175, l175, y175, z175⟩, st175⟩ := X0.virtualBack hx (y := (⟨"java/lang/String", "charAt", "(I)C"⟩ : MethodName)) (z := (⟨"java/lang/String", "charAt", "(I)C"⟩ : MethodName)) hown (mvT hZ hw164) (mvT hZ hw165) (notFace_of_selects (args := #[]) (mvT hZ hw167)) (mvT hZ hw167) (mvT hZ hw166) (by decide) (backOf (W := 0) (rmSC l Z a0 hw [] vcs vfm G sa ((2 : Int32)) va ka zn vsx xe h0 n0 O0 EA FA CA VA (by decide) hi1 hel) hZ hw168 hw7 (by decide) (by decide)) q175a q175c (g := (mkF m 63 #[vr sa, vi (2 : Int32), vi zn, vi (2 : Int32), vi ch0, vi ch1, vi ch2, vi ch3, vi (46 : Int32), .unset] [(.int (2 : Int32)), (.ref sa)])) rfl (by rw [hml]; rfl) (Steps.refl _) (argsL := [(.int (2 : Int32))]) (rest := []) (lenOf pd_24 rfl) rfl (by show 2 * 0 + _ ≤ _; exact Nat.le_of_eq rfl) (hb hby d29_63) (fun _ _ => ⟨rfl, e0, (by decide : 0 + 0 ≤ _), (by decide : 0 + 0 ≤ _)⟩)
  dsimp only [Pt.U, Pt.locs, Pt.cells, Pt.slots] at X175 l175 y175 z175 st175 hQ175
  subst l175 y175 z175
  obtain ⟨rfl, rfl, e175⟩ := hQ175
  try replace X175 := own_nil X175
  refine Go.by' (fun t k => st175.trans k) ?_
  show Go p.tables e below Pf (T175.setTop (mkF m 66 #[vr sa, vi (2 : Int32), vi zn, vi (2 : Int32), vi ch0, vi ch1, vi ch2, vi ch3, vi (46 : Int32), .unset] [(.int (xe &&& (255 : Int32)))]))
  refine Go.by' (fun t k => (XS.iload X175.here hx rfl (hb hby d29_66) rfl (XS.icmpNo X175.here hx rfl (hb hby d29_68) rfl (teq hx_).2 (XS.iconst X175.here hx rfl (hb hby d29_71) (XS.goto X175.here hx rfl (pc0 := 72) (pc' := 76) rfl (hb hby d29_72) (by decide) (by decide) k))))) ?_
  show Go p.tables e below Pf (T175.setTop (mkF m 76 #[vr sa, vi (2 : Int32), vi zn, vi (2 : Int32), vi ch0, vi ch1, vi ch2, vi ch3, vi (46 : Int32), .unset] [(.int (1 : Int32))]))
  rw [hPf]
  exact Go.retI' X175 hx hret hlk (by simp) rfl (hb hby d29_76) (by decide) (by decide) ⟨rfl, rfl, e175⟩
set_option maxHeartbeats 4000000 in
theorem ef_rmAt_23 (m : MethodId) {sa : Addr} {zn : Int32} {ch0 : Int32} {ch1 : Int32} {ch2 : Int32} {ch3 : Int32} : entryFrame m #[(.ref sa), (.int (3 : Int32)), (.int zn), (.int (2 : Int32)), (.int ch0), (.int ch1), (.int ch2), (.int ch3)] 10 = mkF m 0 #[vr sa, vi (3 : Int32), vi zn, vi (2 : Int32), vi ch0, vi ch1, vi ch2, vi ch3, .unset, .unset] [] := by first | (simp [entryFrame, mkF, argsToLocals, Value.category]; done) | rfl
def QrmAt_23 (Z : State) (vcs : Int32) (vfm : Value) (sa : Addr) (zn : Int32) (ch0 : Int32) (ch1 : Int32) (ch2 : Int32) (ch3 : Int32) (va : Addr) (ka : ClassId) (vsx : (List Value)) (xe : Int32) (h0 : Heap) (n0 : Nat) (v : Option Value) (h : Heap) (L : List Loc) : Prop := (v = some (.int (1 : Int32))) ∧ (L = []) ∧ (h = h0)
set_option maxRecDepth 65536 in
set_option maxHeartbeats 40000000 in
theorem rmAt_23 (l : Launch) (Z : State) (a0 : Array Value) (hw : ∀ d ∈ tables_1, d.before a0 Z = true) (ws : List Jvm.Cond) (vcs : Int32) (vfm : Value) (G : Gh Z vcs vfm) (sa : Addr) (zn : Int32) (ch0 : Int32) (ch1 : Int32) (ch2 : Int32) (ch3 : Int32) (va : Addr) (ka : ClassId) (vsx : (List Value)) (xe : Int32) (h0 : Heap) (n0 : Nat) (O0 : Old Z n0 h0) (EA : Exa Z h0 sa "java/lang/String") (FA : Fld Z h0 sa "java/lang/String" "value" "[B" (.ref va)) (CA : Fld Z h0 sa "java/lang/String" "coder" "B" (.int (0 : Int32))) (VA : Arv Z h0 va ka .byte zn vsx (.int (0 : Int32))) (hi1 : (3 : Int32) < zn) (hel : vsx.getD (3 : Int32).toNatClampNeg (Value.int (0 : Int32)) = Value.int xe) (hx_ : (xe &&& (255 : Int32)) = ch2) :
    MetFree l (⟨"com/example/slatewipe/slatewipe/TableQualifiedNamePinLaw", "at", "(Ljava/lang/String;IIICCCC)Z"⟩ : MethodName) (head1 (Jvm.Cond.code (⟨"com/example/slatewipe/slatewipe/TableQualifiedNamePinLaw", "at", "(Ljava/lang/String;IIICCCC)Z"⟩ : MethodName) method_4_code 10 (some .boolean) :: ws) ({ frames := 4, cells := 0, slots := 0, locals := 53 } : Room)) (fun aa' UU' => aa' = #[(.ref sa), (.int (3 : Int32)), (.int zn), (.int (2 : Int32)), (.int ch0), (.int ch1), (.int ch2), (.int ch3)] ∧ Z.Warmed39 UU'.vm ∧ UU'.heap = h0) (fun _ _ _ _ _ => True) (fun _ UU' oo' VV' => ∃ v' L', oo' = .returned v' ∧ QrmAt_23 Z vcs vfm sa zn ch0 ch1 ch2 ch3 va ka vsx xe h0 n0 v' VV'.heap L' ∧ FrameEnd UU' oo' VV' L' ({ frames := 4, cells := 0, slots := 0, locals := 53 } : Room).cells ({ frames := 4, cells := 0, slots := 0, locals := 53 } : Room).slots) := by
  refine MetFree.of_bodySF (plainFor_of_name pn_29) hisR ?_
  intro p e s m args below meth c s₁ Bd hml0 hP hK
  obtain ⟨rfl, hZ, hh⟩ := hP
  have hx := Bd.exec
  have hby := Bd.bytes
  have hlk := Bd.notSynchronized
  have hml : c.maxLocals = 10 := hml0
  have hown : s.vm.findClass "com/example/slatewipe/slatewipe/TableQualifiedNamePinLaw" = some m.cls := findClass_of_methodNamed Bd.named
  have hnm := (name_of_methodNamed Bd.named Bd.method).1
  have hret := Bd.returns
  have X0 : Stand p l e ({ frames := 4, cells := 0, slots := 0, locals := 53 } : Room) s m #[(.ref sa), (.int (3 : Int32)), (.int zn), (.int (2 : Int32)), (.int ch0), (.int ch1), (.int ch2), (.int ch3)] below meth c s₁ [] 0 0 := Stand.of_body Bd
  have e0 : s₁.heap = h0 := by rw [← hh, Bd.state]; rfl
  have N0 := Fr.nil n0
  refine Go.body ?_
  obtain ⟨Pf, hPf⟩ : ∃ P, P = Fin' s below ({ frames := 4, cells := 0, slots := 0, locals := 53 } : Room).cells ({ frames := 4, cells := 0, slots := 0, locals := 53 } : Room).slots (QrmAt_23 Z vcs vfm sa zn ch0 ch1 ch2 ch3 va ka vsx xe h0 n0) := ⟨_, rfl⟩
  rw [← hPf]
  refine Go.cast (ef_rmAt_23 m) ?_
  have hw7 := (hw _ (List.mem_of_getElem? (i := 7) rfl))
  have hw164 := (hw _ (List.mem_of_getElem? (i := 164) rfl))
  have hw165 := (hw _ (List.mem_of_getElem? (i := 165) rfl))
  have hw166 := (hw _ (List.mem_of_getElem? (i := 166) rfl))
  have hw167 := (hw _ (List.mem_of_getElem? (i := 167) rfl))
  have hw168 := (hw _ (List.mem_of_getElem? (i := 168) rfl))
  show Go p.tables e below Pf (s₁.setTop (mkF m 0 #[vr sa, vi (3 : Int32), vi zn, vi (2 : Int32), vi ch0, vi ch1, vi ch2, vi ch3, .unset, .unset] []))
  refine Go.by' (fun t k => (XS.iloadN X0.here hx rfl (hb hby d29_0) rfl (XS.iloadN X0.here hx rfl (hb hby d29_1) rfl (XS.icmpYes X0.here hx rfl (pc0 := 2) (pc' := 7) rfl (hb hby d29_2) rfl (tlt hi1).1 (by decide) (by decide) (XS.iloadN X0.here hx rfl (hb hby d29_7) rfl (XS.iloadN X0.here hx rfl (hb hby d29_8) rfl (XS.icmpYes X0.here hx rfl (pc0 := 9) (pc' := 28) rfl (hb hby d29_9) rfl (flt (by decide)).2.1 (by decide) (by decide) (XS.iloadN X0.here hx rfl (hb hby d29_28) rfl (XS.iloadN X0.here hx rfl (hb hby d29_29) rfl k))))))))) ?_
  show Go p.tables e below Pf (s₁.setTop (mkF m 30 #[vr sa, vi (3 : Int32), vi zn, vi (2 : Int32), vi ch0, vi ch1, vi ch2, vi ch3, .unset, .unset] [(.int (2 : Int32)), (.int (3 : Int32))]))
  refine Go.by' (fun t k => (XS.icmpYes X0.here hx rfl (pc0 := 30) (pc' := 40) rfl (hb hby d29_30) rfl (feq (by decide)).2 (by decide) (by decide) (XS.iloadN X0.here hx rfl (hb hby d29_40) rfl (XS.iloadN X0.here hx rfl (hb hby d29_41) rfl (XS.isub X0.here hx rfl (hb hby d29_42) rfl k))))) ?_
  show Go p.tables e below Pf (s₁.setTop (mkF m 43 #[vr sa, vi (3 : Int32), vi zn, vi (2 : Int32), vi ch0, vi ch1, vi ch2, vi ch3, .unset, .unset] [(.int ((3 : Int32) - (2 : Int32)))]))
  refine Go.castF (a := ((3 : Int32) - (2 : Int32))) (b := (1 : Int32)) (fun z' : Int32 => mkF m 43 #[vr sa, vi (3 : Int32), vi zn, vi (2 : Int32), vi ch0, vi ch1, vi ch2, vi ch3, .unset, .unset] [(.int z')]) (by decide) ?_
  show Go p.tables e below Pf (s₁.setTop (mkF m 43 #[vr sa, vi (3 : Int32), vi zn, vi (2 : Int32), vi ch0, vi ch1, vi ch2, vi ch3, .unset, .unset] [(.int (1 : Int32))]))
  refine Go.by' (fun t k => (XS.iconst X0.here hx rfl (hb hby d29_43) (XS.isub X0.here hx rfl (hb hby d29_44) rfl k))) ?_
  show Go p.tables e below Pf (s₁.setTop (mkF m 45 #[vr sa, vi (3 : Int32), vi zn, vi (2 : Int32), vi ch0, vi ch1, vi ch2, vi ch3, .unset, .unset] [(.int ((1 : Int32) - (1 : Int32)))]))
  refine Go.castF (a := ((1 : Int32) - (1 : Int32))) (b := (0 : Int32)) (fun z' : Int32 => mkF m 45 #[vr sa, vi (3 : Int32), vi zn, vi (2 : Int32), vi ch0, vi ch1, vi ch2, vi ch3, .unset, .unset] [(.int z')]) (by decide) ?_
  show Go p.tables e below Pf (s₁.setTop (mkF m 45 #[vr sa, vi (3 : Int32), vi zn, vi (2 : Int32), vi ch0, vi ch1, vi ch2, vi ch3, .unset, .unset] [(.int (0 : Int32))]))
  refine Go.by' (fun t k => (XS.istore X0.here hx rfl (hb hby d29_45) rfl (l' := #[vr sa, vi (3 : Int32), vi zn, vi (2 : Int32), vi ch0, vi ch1, vi ch2, vi ch3, .unset, vi (0 : Int32)]) rfl (XS.iload X0.here hx rfl (hb hby d29_47) rfl (XS.ifNo X0.here hx rfl (hb hby d29_49) rfl ((if0 _ _).trans (teq (by decide)).2) (XS.iload X0.here hx rfl (hb hby d29_52) rfl (XS.goto X0.here hx rfl (pc0 := 54) (pc' := 59) rfl (hb hby d29_54) (by decide) (by decide) (XS.istore X0.here hx rfl (hb hby d29_59) rfl (l' := #[vr sa, vi (3 : Int32), vi zn, vi (2 : Int32), vi ch0, vi ch1, vi ch2, vi ch3, vi ch2, vi (0 : Int32)]) rfl (XS.aloadN X0.here hx rfl (hb hby d29_61) rfl rfl (XS.iloadN X0.here hx rfl (hb hby d29_62) rfl k))))))))) ?_
  obtain ⟨cq176, kq176, q176a, q176b, q176c⟩ := isOf hZ e0 EA
  obtain ⟨_, _, ⟨T176, L176, k176, n176⟩, -, X176, ⟨Lc176, hQ176, l176, y176, z176⟩, st176⟩ := X0.virtualBack hx (y := (⟨"java/lang/String", "charAt", "(I)C"⟩ : MethodName)) (z := (⟨"java/lang/String", "charAt", "(I)C"⟩ : MethodName)) hown (mvT hZ hw164) (mvT hZ hw165) (notFace_of_selects (args := #[]) (mvT hZ hw167)) (mvT hZ hw167) (mvT hZ hw166) (by decide) (backOf (W := 0) (rmSC l Z a0 hw [] vcs vfm G sa ((3 : Int32)) va ka zn vsx xe h0 n0 O0 EA FA CA VA (by decide) hi1 hel) hZ hw168 hw7 (by decide) (by decide)) q176a q176c (g := (mkF m 63 #[vr sa, vi (3 : Int32), vi zn, vi (2 : Int32), vi ch0, vi ch1, vi ch2, vi ch3, vi ch2, vi (0 : Int32)] [(.int (3 : Int32)), (.ref sa)])) rfl (by rw [hml]; rfl) (Steps.refl _) (argsL := [(.int (3 : Int32))]) (rest := []) (lenOf pd_24 rfl) rfl (by show 2 * 0 + _ ≤ _; exact Nat.le_of_eq rfl) (hb hby d29_63) (fun _ _ => ⟨rfl, e0, (by decide : 0 + 0 ≤ _), (by decide : 0 + 0 ≤ _)⟩)
  dsimp only [Pt.U, Pt.locs, Pt.cells, Pt.slots] at X176 l176 y176 z176 st176 hQ176
  subst l176 y176 z176
  obtain ⟨rfl, rfl, e176⟩ := hQ176
  try replace X176 := own_nil X176
  refine Go.by' (fun t k => st176.trans k) ?_
  show Go p.tables e below Pf (T176.setTop (mkF m 66 #[vr sa, vi (3 : Int32), vi zn, vi (2 : Int32), vi ch0, vi ch1, vi ch2, vi ch3, vi ch2, vi (0 : Int32)] [(.int (xe &&& (255 : Int32)))]))
  refine Go.by' (fun t k => (XS.iload X176.here hx rfl (hb hby d29_66) rfl (XS.icmpNo X176.here hx rfl (hb hby d29_68) rfl (teq hx_).2 (XS.iconst X176.here hx rfl (hb hby d29_71) (XS.goto X176.here hx rfl (pc0 := 72) (pc' := 76) rfl (hb hby d29_72) (by decide) (by decide) k))))) ?_
  show Go p.tables e below Pf (T176.setTop (mkF m 76 #[vr sa, vi (3 : Int32), vi zn, vi (2 : Int32), vi ch0, vi ch1, vi ch2, vi ch3, vi ch2, vi (0 : Int32)] [(.int (1 : Int32))]))
  rw [hPf]
  exact Go.retI' X176 hx hret hlk (by simp) rfl (hb hby d29_76) (by decide) (by decide) ⟨rfl, rfl, e176⟩
set_option maxHeartbeats 4000000 in
theorem ef_rmAt_24 (m : MethodId) {sa : Addr} {zn : Int32} {ch0 : Int32} {ch1 : Int32} {ch2 : Int32} {ch3 : Int32} : entryFrame m #[(.ref sa), (.int (4 : Int32)), (.int zn), (.int (2 : Int32)), (.int ch0), (.int ch1), (.int ch2), (.int ch3)] 10 = mkF m 0 #[vr sa, vi (4 : Int32), vi zn, vi (2 : Int32), vi ch0, vi ch1, vi ch2, vi ch3, .unset, .unset] [] := by first | (simp [entryFrame, mkF, argsToLocals, Value.category]; done) | rfl
def QrmAt_24 (Z : State) (vcs : Int32) (vfm : Value) (sa : Addr) (zn : Int32) (ch0 : Int32) (ch1 : Int32) (ch2 : Int32) (ch3 : Int32) (va : Addr) (ka : ClassId) (vsx : (List Value)) (xe : Int32) (h0 : Heap) (n0 : Nat) (v : Option Value) (h : Heap) (L : List Loc) : Prop := (v = some (.int (1 : Int32))) ∧ (L = []) ∧ (h = h0)
set_option maxRecDepth 65536 in
set_option maxHeartbeats 40000000 in
theorem rmAt_24 (l : Launch) (Z : State) (a0 : Array Value) (hw : ∀ d ∈ tables_1, d.before a0 Z = true) (ws : List Jvm.Cond) (vcs : Int32) (vfm : Value) (G : Gh Z vcs vfm) (sa : Addr) (zn : Int32) (ch0 : Int32) (ch1 : Int32) (ch2 : Int32) (ch3 : Int32) (va : Addr) (ka : ClassId) (vsx : (List Value)) (xe : Int32) (h0 : Heap) (n0 : Nat) (O0 : Old Z n0 h0) (EA : Exa Z h0 sa "java/lang/String") (FA : Fld Z h0 sa "java/lang/String" "value" "[B" (.ref va)) (CA : Fld Z h0 sa "java/lang/String" "coder" "B" (.int (0 : Int32))) (VA : Arv Z h0 va ka .byte zn vsx (.int (0 : Int32))) (hi1 : (4 : Int32) < zn) (hel : vsx.getD (4 : Int32).toNatClampNeg (Value.int (0 : Int32)) = Value.int xe) (hx_ : (xe &&& (255 : Int32)) = ch3) :
    MetFree l (⟨"com/example/slatewipe/slatewipe/TableQualifiedNamePinLaw", "at", "(Ljava/lang/String;IIICCCC)Z"⟩ : MethodName) (head1 (Jvm.Cond.code (⟨"com/example/slatewipe/slatewipe/TableQualifiedNamePinLaw", "at", "(Ljava/lang/String;IIICCCC)Z"⟩ : MethodName) method_4_code 10 (some .boolean) :: ws) ({ frames := 4, cells := 0, slots := 0, locals := 53 } : Room)) (fun aa' UU' => aa' = #[(.ref sa), (.int (4 : Int32)), (.int zn), (.int (2 : Int32)), (.int ch0), (.int ch1), (.int ch2), (.int ch3)] ∧ Z.Warmed39 UU'.vm ∧ UU'.heap = h0) (fun _ _ _ _ _ => True) (fun _ UU' oo' VV' => ∃ v' L', oo' = .returned v' ∧ QrmAt_24 Z vcs vfm sa zn ch0 ch1 ch2 ch3 va ka vsx xe h0 n0 v' VV'.heap L' ∧ FrameEnd UU' oo' VV' L' ({ frames := 4, cells := 0, slots := 0, locals := 53 } : Room).cells ({ frames := 4, cells := 0, slots := 0, locals := 53 } : Room).slots) := by
  refine MetFree.of_bodySF (plainFor_of_name pn_29) hisR ?_
  intro p e s m args below meth c s₁ Bd hml0 hP hK
  obtain ⟨rfl, hZ, hh⟩ := hP
  have hx := Bd.exec
  have hby := Bd.bytes
  have hlk := Bd.notSynchronized
  have hml : c.maxLocals = 10 := hml0
  have hown : s.vm.findClass "com/example/slatewipe/slatewipe/TableQualifiedNamePinLaw" = some m.cls := findClass_of_methodNamed Bd.named
  have hnm := (name_of_methodNamed Bd.named Bd.method).1
  have hret := Bd.returns
  have X0 : Stand p l e ({ frames := 4, cells := 0, slots := 0, locals := 53 } : Room) s m #[(.ref sa), (.int (4 : Int32)), (.int zn), (.int (2 : Int32)), (.int ch0), (.int ch1), (.int ch2), (.int ch3)] below meth c s₁ [] 0 0 := Stand.of_body Bd
  have e0 : s₁.heap = h0 := by rw [← hh, Bd.state]; rfl
  have N0 := Fr.nil n0
  refine Go.body ?_
  obtain ⟨Pf, hPf⟩ : ∃ P, P = Fin' s below ({ frames := 4, cells := 0, slots := 0, locals := 53 } : Room).cells ({ frames := 4, cells := 0, slots := 0, locals := 53 } : Room).slots (QrmAt_24 Z vcs vfm sa zn ch0 ch1 ch2 ch3 va ka vsx xe h0 n0) := ⟨_, rfl⟩
  rw [← hPf]
  refine Go.cast (ef_rmAt_24 m) ?_
  have hw7 := (hw _ (List.mem_of_getElem? (i := 7) rfl))
  have hw164 := (hw _ (List.mem_of_getElem? (i := 164) rfl))
  have hw165 := (hw _ (List.mem_of_getElem? (i := 165) rfl))
  have hw166 := (hw _ (List.mem_of_getElem? (i := 166) rfl))
  have hw167 := (hw _ (List.mem_of_getElem? (i := 167) rfl))
  have hw168 := (hw _ (List.mem_of_getElem? (i := 168) rfl))
  show Go p.tables e below Pf (s₁.setTop (mkF m 0 #[vr sa, vi (4 : Int32), vi zn, vi (2 : Int32), vi ch0, vi ch1, vi ch2, vi ch3, .unset, .unset] []))
  refine Go.by' (fun t k => (XS.iloadN X0.here hx rfl (hb hby d29_0) rfl (XS.iloadN X0.here hx rfl (hb hby d29_1) rfl (XS.icmpYes X0.here hx rfl (pc0 := 2) (pc' := 7) rfl (hb hby d29_2) rfl (tlt hi1).1 (by decide) (by decide) (XS.iloadN X0.here hx rfl (hb hby d29_7) rfl (XS.iloadN X0.here hx rfl (hb hby d29_8) rfl (XS.icmpYes X0.here hx rfl (pc0 := 9) (pc' := 28) rfl (hb hby d29_9) rfl (flt (by decide)).2.1 (by decide) (by decide) (XS.iloadN X0.here hx rfl (hb hby d29_28) rfl (XS.iloadN X0.here hx rfl (hb hby d29_29) rfl k))))))))) ?_
  show Go p.tables e below Pf (s₁.setTop (mkF m 30 #[vr sa, vi (4 : Int32), vi zn, vi (2 : Int32), vi ch0, vi ch1, vi ch2, vi ch3, .unset, .unset] [(.int (2 : Int32)), (.int (4 : Int32))]))
  refine Go.by' (fun t k => (XS.icmpYes X0.here hx rfl (pc0 := 30) (pc' := 40) rfl (hb hby d29_30) rfl (feq (by decide)).2 (by decide) (by decide) (XS.iloadN X0.here hx rfl (hb hby d29_40) rfl (XS.iloadN X0.here hx rfl (hb hby d29_41) rfl (XS.isub X0.here hx rfl (hb hby d29_42) rfl k))))) ?_
  show Go p.tables e below Pf (s₁.setTop (mkF m 43 #[vr sa, vi (4 : Int32), vi zn, vi (2 : Int32), vi ch0, vi ch1, vi ch2, vi ch3, .unset, .unset] [(.int ((4 : Int32) - (2 : Int32)))]))
  refine Go.castF (a := ((4 : Int32) - (2 : Int32))) (b := (2 : Int32)) (fun z' : Int32 => mkF m 43 #[vr sa, vi (4 : Int32), vi zn, vi (2 : Int32), vi ch0, vi ch1, vi ch2, vi ch3, .unset, .unset] [(.int z')]) (by decide) ?_
  show Go p.tables e below Pf (s₁.setTop (mkF m 43 #[vr sa, vi (4 : Int32), vi zn, vi (2 : Int32), vi ch0, vi ch1, vi ch2, vi ch3, .unset, .unset] [(.int (2 : Int32))]))
  refine Go.by' (fun t k => (XS.iconst X0.here hx rfl (hb hby d29_43) (XS.isub X0.here hx rfl (hb hby d29_44) rfl k))) ?_
  show Go p.tables e below Pf (s₁.setTop (mkF m 45 #[vr sa, vi (4 : Int32), vi zn, vi (2 : Int32), vi ch0, vi ch1, vi ch2, vi ch3, .unset, .unset] [(.int ((2 : Int32) - (1 : Int32)))]))
  refine Go.castF (a := ((2 : Int32) - (1 : Int32))) (b := (1 : Int32)) (fun z' : Int32 => mkF m 45 #[vr sa, vi (4 : Int32), vi zn, vi (2 : Int32), vi ch0, vi ch1, vi ch2, vi ch3, .unset, .unset] [(.int z')]) (by decide) ?_
  show Go p.tables e below Pf (s₁.setTop (mkF m 45 #[vr sa, vi (4 : Int32), vi zn, vi (2 : Int32), vi ch0, vi ch1, vi ch2, vi ch3, .unset, .unset] [(.int (1 : Int32))]))
  refine Go.by' (fun t k => (XS.istore X0.here hx rfl (hb hby d29_45) rfl (l' := #[vr sa, vi (4 : Int32), vi zn, vi (2 : Int32), vi ch0, vi ch1, vi ch2, vi ch3, .unset, vi (1 : Int32)]) rfl (XS.iload X0.here hx rfl (hb hby d29_47) rfl (XS.ifYes X0.here hx rfl (pc0 := 49) (pc' := 57) rfl (hb hby d29_49) rfl ((if0 _ _).trans (feq (by decide)).2) (by decide) (by decide) (XS.iload X0.here hx rfl (hb hby d29_57) rfl (XS.istore X0.here hx rfl (hb hby d29_59) rfl (l' := #[vr sa, vi (4 : Int32), vi zn, vi (2 : Int32), vi ch0, vi ch1, vi ch2, vi ch3, vi ch3, vi (1 : Int32)]) rfl (XS.aloadN X0.here hx rfl (hb hby d29_61) rfl rfl (XS.iloadN X0.here hx rfl (hb hby d29_62) rfl k)))))))) ?_
  obtain ⟨cq177, kq177, q177a, q177b, q177c⟩ := isOf hZ e0 EA
  obtain ⟨_, _, ⟨T177, L177, k177, n177⟩, -, X177, ⟨Lc177, hQ177, l177, y177, z177⟩, st177⟩ := X0.virtualBack hx (y := (⟨"java/lang/String", "charAt", "(I)C"⟩ : MethodName)) (z := (⟨"java/lang/String", "charAt", "(I)C"⟩ : MethodName)) hown (mvT hZ hw164) (mvT hZ hw165) (notFace_of_selects (args := #[]) (mvT hZ hw167)) (mvT hZ hw167) (mvT hZ hw166) (by decide) (backOf (W := 0) (rmSC l Z a0 hw [] vcs vfm G sa ((4 : Int32)) va ka zn vsx xe h0 n0 O0 EA FA CA VA (by decide) hi1 hel) hZ hw168 hw7 (by decide) (by decide)) q177a q177c (g := (mkF m 63 #[vr sa, vi (4 : Int32), vi zn, vi (2 : Int32), vi ch0, vi ch1, vi ch2, vi ch3, vi ch3, vi (1 : Int32)] [(.int (4 : Int32)), (.ref sa)])) rfl (by rw [hml]; rfl) (Steps.refl _) (argsL := [(.int (4 : Int32))]) (rest := []) (lenOf pd_24 rfl) rfl (by show 2 * 0 + _ ≤ _; exact Nat.le_of_eq rfl) (hb hby d29_63) (fun _ _ => ⟨rfl, e0, (by decide : 0 + 0 ≤ _), (by decide : 0 + 0 ≤ _)⟩)
  dsimp only [Pt.U, Pt.locs, Pt.cells, Pt.slots] at X177 l177 y177 z177 st177 hQ177
  subst l177 y177 z177
  obtain ⟨rfl, rfl, e177⟩ := hQ177
  try replace X177 := own_nil X177
  refine Go.by' (fun t k => st177.trans k) ?_
  show Go p.tables e below Pf (T177.setTop (mkF m 66 #[vr sa, vi (4 : Int32), vi zn, vi (2 : Int32), vi ch0, vi ch1, vi ch2, vi ch3, vi ch3, vi (1 : Int32)] [(.int (xe &&& (255 : Int32)))]))
  refine Go.by' (fun t k => (XS.iload X177.here hx rfl (hb hby d29_66) rfl (XS.icmpNo X177.here hx rfl (hb hby d29_68) rfl (teq hx_).2 (XS.iconst X177.here hx rfl (hb hby d29_71) (XS.goto X177.here hx rfl (pc0 := 72) (pc' := 76) rfl (hb hby d29_72) (by decide) (by decide) k))))) ?_
  show Go p.tables e below Pf (T177.setTop (mkF m 76 #[vr sa, vi (4 : Int32), vi zn, vi (2 : Int32), vi ch0, vi ch1, vi ch2, vi ch3, vi ch3, vi (1 : Int32)] [(.int (1 : Int32))]))
  rw [hPf]
  exact Go.retI' X177 hx hret hlk (by simp) rfl (hb hby d29_76) (by decide) (by decide) ⟨rfl, rfl, e177⟩
theorem d29_5 : decode method_4_code 5 = .ok (.iconst 1, 1) := by decide +kernel
theorem d29_6 : decode method_4_code 6 = .ok (.ireturn, 1) := by decide +kernel
set_option maxHeartbeats 4000000 in
theorem ef_rmAT_1 (m : MethodId) {sa : Addr} {zn : Int32} {zl : Int32} {ch0 : Int32} {ch1 : Int32} {ch2 : Int32} {ch3 : Int32} : entryFrame m #[(.ref sa), (.int (1 : Int32)), (.int zn), (.int zl), (.int ch0), (.int ch1), (.int ch2), (.int ch3)] 10 = mkF m 0 #[vr sa, vi (1 : Int32), vi zn, vi zl, vi ch0, vi ch1, vi ch2, vi ch3, .unset, .unset] [] := by first | (simp [entryFrame, mkF, argsToLocals, Value.category]; done) | rfl
def QrmAT_1 (Z : State) (vcs : Int32) (vfm : Value) (sa : Addr) (zn : Int32) (zl : Int32) (ch0 : Int32) (ch1 : Int32) (ch2 : Int32) (ch3 : Int32) (h0 : Heap) (n0 : Nat) (v : Option Value) (h : Heap) (L : List Loc) : Prop := (v = some (.int (1 : Int32))) ∧ (L = []) ∧ (h = h0)
set_option maxRecDepth 65536 in
set_option maxHeartbeats 40000000 in
theorem rmAT_1 (l : Launch) (Z : State) (a0 : Array Value) (hw : ∀ d ∈ tables_1, d.before a0 Z = true) (ws : List Jvm.Cond) (vcs : Int32) (vfm : Value) (G : Gh Z vcs vfm) (sa : Addr) (zn : Int32) (zl : Int32) (ch0 : Int32) (ch1 : Int32) (ch2 : Int32) (ch3 : Int32) (h0 : Heap) (n0 : Nat) (O0 : Old Z n0 h0) (hi1 : ¬ ((1 : Int32) < zn)) :
    MetFree l (⟨"com/example/slatewipe/slatewipe/TableQualifiedNamePinLaw", "at", "(Ljava/lang/String;IIICCCC)Z"⟩ : MethodName) (head1 (Jvm.Cond.code (⟨"com/example/slatewipe/slatewipe/TableQualifiedNamePinLaw", "at", "(Ljava/lang/String;IIICCCC)Z"⟩ : MethodName) method_4_code 10 (some .boolean) :: ws) ({ frames := 0, cells := 0, slots := 0, locals := 0 } : Room)) (fun aa' UU' => aa' = #[(.ref sa), (.int (1 : Int32)), (.int zn), (.int zl), (.int ch0), (.int ch1), (.int ch2), (.int ch3)] ∧ Z.Warmed39 UU'.vm ∧ UU'.heap = h0) (fun _ _ _ _ _ => True) (fun _ UU' oo' VV' => ∃ v' L', oo' = .returned v' ∧ QrmAT_1 Z vcs vfm sa zn zl ch0 ch1 ch2 ch3 h0 n0 v' VV'.heap L' ∧ FrameEnd UU' oo' VV' L' ({ frames := 0, cells := 0, slots := 0, locals := 0 } : Room).cells ({ frames := 0, cells := 0, slots := 0, locals := 0 } : Room).slots) := by
  refine MetFree.of_bodySF (plainFor_of_name pn_29) hisR ?_
  intro p e s m args below meth c s₁ Bd hml0 hP hK
  obtain ⟨rfl, hZ, hh⟩ := hP
  have hx := Bd.exec
  have hby := Bd.bytes
  have hlk := Bd.notSynchronized
  have hml : c.maxLocals = 10 := hml0
  have hown : s.vm.findClass "com/example/slatewipe/slatewipe/TableQualifiedNamePinLaw" = some m.cls := findClass_of_methodNamed Bd.named
  have hnm := (name_of_methodNamed Bd.named Bd.method).1
  have hret := Bd.returns
  have X0 : Stand p l e ({ frames := 0, cells := 0, slots := 0, locals := 0 } : Room) s m #[(.ref sa), (.int (1 : Int32)), (.int zn), (.int zl), (.int ch0), (.int ch1), (.int ch2), (.int ch3)] below meth c s₁ [] 0 0 := Stand.of_body Bd
  have e0 : s₁.heap = h0 := by rw [← hh, Bd.state]; rfl
  have N0 := Fr.nil n0
  refine Go.body ?_
  obtain ⟨Pf, hPf⟩ : ∃ P, P = Fin' s below ({ frames := 0, cells := 0, slots := 0, locals := 0 } : Room).cells ({ frames := 0, cells := 0, slots := 0, locals := 0 } : Room).slots (QrmAT_1 Z vcs vfm sa zn zl ch0 ch1 ch2 ch3 h0 n0) := ⟨_, rfl⟩
  rw [← hPf]
  refine Go.cast (ef_rmAT_1 m) ?_
  show Go p.tables e below Pf (s₁.setTop (mkF m 0 #[vr sa, vi (1 : Int32), vi zn, vi zl, vi ch0, vi ch1, vi ch2, vi ch3, .unset, .unset] []))
  refine Go.by' (fun t k => (XS.iloadN X0.here hx rfl (hb hby d29_0) rfl (XS.iloadN X0.here hx rfl (hb hby d29_1) rfl (XS.icmpNo X0.here hx rfl (hb hby d29_2) rfl (flt hi1).1 (XS.iconst X0.here hx rfl (hb hby d29_5) k))))) ?_
  show Go p.tables e below Pf (s₁.setTop (mkF m 6 #[vr sa, vi (1 : Int32), vi zn, vi zl, vi ch0, vi ch1, vi ch2, vi ch3, .unset, .unset] [(.int (1 : Int32))]))
  rw [hPf]
  exact Go.retI' X0 hx hret hlk (by simp) rfl (hb hby d29_6) (by decide) (by decide) ⟨rfl, rfl, e0⟩
set_option maxHeartbeats 4000000 in
theorem ef_rmAT_2 (m : MethodId) {sa : Addr} {zn : Int32} {zl : Int32} {ch0 : Int32} {ch1 : Int32} {ch2 : Int32} {ch3 : Int32} : entryFrame m #[(.ref sa), (.int (2 : Int32)), (.int zn), (.int zl), (.int ch0), (.int ch1), (.int ch2), (.int ch3)] 10 = mkF m 0 #[vr sa, vi (2 : Int32), vi zn, vi zl, vi ch0, vi ch1, vi ch2, vi ch3, .unset, .unset] [] := by first | (simp [entryFrame, mkF, argsToLocals, Value.category]; done) | rfl
def QrmAT_2 (Z : State) (vcs : Int32) (vfm : Value) (sa : Addr) (zn : Int32) (zl : Int32) (ch0 : Int32) (ch1 : Int32) (ch2 : Int32) (ch3 : Int32) (h0 : Heap) (n0 : Nat) (v : Option Value) (h : Heap) (L : List Loc) : Prop := (v = some (.int (1 : Int32))) ∧ (L = []) ∧ (h = h0)
set_option maxRecDepth 65536 in
set_option maxHeartbeats 40000000 in
theorem rmAT_2 (l : Launch) (Z : State) (a0 : Array Value) (hw : ∀ d ∈ tables_1, d.before a0 Z = true) (ws : List Jvm.Cond) (vcs : Int32) (vfm : Value) (G : Gh Z vcs vfm) (sa : Addr) (zn : Int32) (zl : Int32) (ch0 : Int32) (ch1 : Int32) (ch2 : Int32) (ch3 : Int32) (h0 : Heap) (n0 : Nat) (O0 : Old Z n0 h0) (hi1 : ¬ ((2 : Int32) < zn)) :
    MetFree l (⟨"com/example/slatewipe/slatewipe/TableQualifiedNamePinLaw", "at", "(Ljava/lang/String;IIICCCC)Z"⟩ : MethodName) (head1 (Jvm.Cond.code (⟨"com/example/slatewipe/slatewipe/TableQualifiedNamePinLaw", "at", "(Ljava/lang/String;IIICCCC)Z"⟩ : MethodName) method_4_code 10 (some .boolean) :: ws) ({ frames := 0, cells := 0, slots := 0, locals := 0 } : Room)) (fun aa' UU' => aa' = #[(.ref sa), (.int (2 : Int32)), (.int zn), (.int zl), (.int ch0), (.int ch1), (.int ch2), (.int ch3)] ∧ Z.Warmed39 UU'.vm ∧ UU'.heap = h0) (fun _ _ _ _ _ => True) (fun _ UU' oo' VV' => ∃ v' L', oo' = .returned v' ∧ QrmAT_2 Z vcs vfm sa zn zl ch0 ch1 ch2 ch3 h0 n0 v' VV'.heap L' ∧ FrameEnd UU' oo' VV' L' ({ frames := 0, cells := 0, slots := 0, locals := 0 } : Room).cells ({ frames := 0, cells := 0, slots := 0, locals := 0 } : Room).slots) := by
  refine MetFree.of_bodySF (plainFor_of_name pn_29) hisR ?_
  intro p e s m args below meth c s₁ Bd hml0 hP hK
  obtain ⟨rfl, hZ, hh⟩ := hP
  have hx := Bd.exec
  have hby := Bd.bytes
  have hlk := Bd.notSynchronized
  have hml : c.maxLocals = 10 := hml0
  have hown : s.vm.findClass "com/example/slatewipe/slatewipe/TableQualifiedNamePinLaw" = some m.cls := findClass_of_methodNamed Bd.named
  have hnm := (name_of_methodNamed Bd.named Bd.method).1
  have hret := Bd.returns
  have X0 : Stand p l e ({ frames := 0, cells := 0, slots := 0, locals := 0 } : Room) s m #[(.ref sa), (.int (2 : Int32)), (.int zn), (.int zl), (.int ch0), (.int ch1), (.int ch2), (.int ch3)] below meth c s₁ [] 0 0 := Stand.of_body Bd
  have e0 : s₁.heap = h0 := by rw [← hh, Bd.state]; rfl
  have N0 := Fr.nil n0
  refine Go.body ?_
  obtain ⟨Pf, hPf⟩ : ∃ P, P = Fin' s below ({ frames := 0, cells := 0, slots := 0, locals := 0 } : Room).cells ({ frames := 0, cells := 0, slots := 0, locals := 0 } : Room).slots (QrmAT_2 Z vcs vfm sa zn zl ch0 ch1 ch2 ch3 h0 n0) := ⟨_, rfl⟩
  rw [← hPf]
  refine Go.cast (ef_rmAT_2 m) ?_
  show Go p.tables e below Pf (s₁.setTop (mkF m 0 #[vr sa, vi (2 : Int32), vi zn, vi zl, vi ch0, vi ch1, vi ch2, vi ch3, .unset, .unset] []))
  refine Go.by' (fun t k => (XS.iloadN X0.here hx rfl (hb hby d29_0) rfl (XS.iloadN X0.here hx rfl (hb hby d29_1) rfl (XS.icmpNo X0.here hx rfl (hb hby d29_2) rfl (flt hi1).1 (XS.iconst X0.here hx rfl (hb hby d29_5) k))))) ?_
  show Go p.tables e below Pf (s₁.setTop (mkF m 6 #[vr sa, vi (2 : Int32), vi zn, vi zl, vi ch0, vi ch1, vi ch2, vi ch3, .unset, .unset] [(.int (1 : Int32))]))
  rw [hPf]
  exact Go.retI' X0 hx hret hlk (by simp) rfl (hb hby d29_6) (by decide) (by decide) ⟨rfl, rfl, e0⟩
set_option maxHeartbeats 4000000 in
theorem ef_rmAT_3 (m : MethodId) {sa : Addr} {zn : Int32} {zl : Int32} {ch0 : Int32} {ch1 : Int32} {ch2 : Int32} {ch3 : Int32} : entryFrame m #[(.ref sa), (.int (3 : Int32)), (.int zn), (.int zl), (.int ch0), (.int ch1), (.int ch2), (.int ch3)] 10 = mkF m 0 #[vr sa, vi (3 : Int32), vi zn, vi zl, vi ch0, vi ch1, vi ch2, vi ch3, .unset, .unset] [] := by first | (simp [entryFrame, mkF, argsToLocals, Value.category]; done) | rfl
def QrmAT_3 (Z : State) (vcs : Int32) (vfm : Value) (sa : Addr) (zn : Int32) (zl : Int32) (ch0 : Int32) (ch1 : Int32) (ch2 : Int32) (ch3 : Int32) (h0 : Heap) (n0 : Nat) (v : Option Value) (h : Heap) (L : List Loc) : Prop := (v = some (.int (1 : Int32))) ∧ (L = []) ∧ (h = h0)
set_option maxRecDepth 65536 in
set_option maxHeartbeats 40000000 in
theorem rmAT_3 (l : Launch) (Z : State) (a0 : Array Value) (hw : ∀ d ∈ tables_1, d.before a0 Z = true) (ws : List Jvm.Cond) (vcs : Int32) (vfm : Value) (G : Gh Z vcs vfm) (sa : Addr) (zn : Int32) (zl : Int32) (ch0 : Int32) (ch1 : Int32) (ch2 : Int32) (ch3 : Int32) (h0 : Heap) (n0 : Nat) (O0 : Old Z n0 h0) (hi1 : ¬ ((3 : Int32) < zn)) :
    MetFree l (⟨"com/example/slatewipe/slatewipe/TableQualifiedNamePinLaw", "at", "(Ljava/lang/String;IIICCCC)Z"⟩ : MethodName) (head1 (Jvm.Cond.code (⟨"com/example/slatewipe/slatewipe/TableQualifiedNamePinLaw", "at", "(Ljava/lang/String;IIICCCC)Z"⟩ : MethodName) method_4_code 10 (some .boolean) :: ws) ({ frames := 0, cells := 0, slots := 0, locals := 0 } : Room)) (fun aa' UU' => aa' = #[(.ref sa), (.int (3 : Int32)), (.int zn), (.int zl), (.int ch0), (.int ch1), (.int ch2), (.int ch3)] ∧ Z.Warmed39 UU'.vm ∧ UU'.heap = h0) (fun _ _ _ _ _ => True) (fun _ UU' oo' VV' => ∃ v' L', oo' = .returned v' ∧ QrmAT_3 Z vcs vfm sa zn zl ch0 ch1 ch2 ch3 h0 n0 v' VV'.heap L' ∧ FrameEnd UU' oo' VV' L' ({ frames := 0, cells := 0, slots := 0, locals := 0 } : Room).cells ({ frames := 0, cells := 0, slots := 0, locals := 0 } : Room).slots) := by
  refine MetFree.of_bodySF (plainFor_of_name pn_29) hisR ?_
  intro p e s m args below meth c s₁ Bd hml0 hP hK
  obtain ⟨rfl, hZ, hh⟩ := hP
  have hx := Bd.exec
  have hby := Bd.bytes
  have hlk := Bd.notSynchronized
  have hml : c.maxLocals = 10 := hml0
  have hown : s.vm.findClass "com/example/slatewipe/slatewipe/TableQualifiedNamePinLaw" = some m.cls := findClass_of_methodNamed Bd.named
  have hnm := (name_of_methodNamed Bd.named Bd.method).1
  have hret := Bd.returns
  have X0 : Stand p l e ({ frames := 0, cells := 0, slots := 0, locals := 0 } : Room) s m #[(.ref sa), (.int (3 : Int32)), (.int zn), (.int zl), (.int ch0), (.int ch1), (.int ch2), (.int ch3)] below meth c s₁ [] 0 0 := Stand.of_body Bd
  have e0 : s₁.heap = h0 := by rw [← hh, Bd.state]; rfl
  have N0 := Fr.nil n0
  refine Go.body ?_
  obtain ⟨Pf, hPf⟩ : ∃ P, P = Fin' s below ({ frames := 0, cells := 0, slots := 0, locals := 0 } : Room).cells ({ frames := 0, cells := 0, slots := 0, locals := 0 } : Room).slots (QrmAT_3 Z vcs vfm sa zn zl ch0 ch1 ch2 ch3 h0 n0) := ⟨_, rfl⟩
  rw [← hPf]
  refine Go.cast (ef_rmAT_3 m) ?_
  show Go p.tables e below Pf (s₁.setTop (mkF m 0 #[vr sa, vi (3 : Int32), vi zn, vi zl, vi ch0, vi ch1, vi ch2, vi ch3, .unset, .unset] []))
  refine Go.by' (fun t k => (XS.iloadN X0.here hx rfl (hb hby d29_0) rfl (XS.iloadN X0.here hx rfl (hb hby d29_1) rfl (XS.icmpNo X0.here hx rfl (hb hby d29_2) rfl (flt hi1).1 (XS.iconst X0.here hx rfl (hb hby d29_5) k))))) ?_
  show Go p.tables e below Pf (s₁.setTop (mkF m 6 #[vr sa, vi (3 : Int32), vi zn, vi zl, vi ch0, vi ch1, vi ch2, vi ch3, .unset, .unset] [(.int (1 : Int32))]))
  rw [hPf]
  exact Go.retI' X0 hx hret hlk (by simp) rfl (hb hby d29_6) (by decide) (by decide) ⟨rfl, rfl, e0⟩
set_option maxHeartbeats 4000000 in
theorem ef_rmAT_4 (m : MethodId) {sa : Addr} {zn : Int32} {zl : Int32} {ch0 : Int32} {ch1 : Int32} {ch2 : Int32} {ch3 : Int32} : entryFrame m #[(.ref sa), (.int (4 : Int32)), (.int zn), (.int zl), (.int ch0), (.int ch1), (.int ch2), (.int ch3)] 10 = mkF m 0 #[vr sa, vi (4 : Int32), vi zn, vi zl, vi ch0, vi ch1, vi ch2, vi ch3, .unset, .unset] [] := by first | (simp [entryFrame, mkF, argsToLocals, Value.category]; done) | rfl
def QrmAT_4 (Z : State) (vcs : Int32) (vfm : Value) (sa : Addr) (zn : Int32) (zl : Int32) (ch0 : Int32) (ch1 : Int32) (ch2 : Int32) (ch3 : Int32) (h0 : Heap) (n0 : Nat) (v : Option Value) (h : Heap) (L : List Loc) : Prop := (v = some (.int (1 : Int32))) ∧ (L = []) ∧ (h = h0)
set_option maxRecDepth 65536 in
set_option maxHeartbeats 40000000 in
theorem rmAT_4 (l : Launch) (Z : State) (a0 : Array Value) (hw : ∀ d ∈ tables_1, d.before a0 Z = true) (ws : List Jvm.Cond) (vcs : Int32) (vfm : Value) (G : Gh Z vcs vfm) (sa : Addr) (zn : Int32) (zl : Int32) (ch0 : Int32) (ch1 : Int32) (ch2 : Int32) (ch3 : Int32) (h0 : Heap) (n0 : Nat) (O0 : Old Z n0 h0) (hi1 : ¬ ((4 : Int32) < zn)) :
    MetFree l (⟨"com/example/slatewipe/slatewipe/TableQualifiedNamePinLaw", "at", "(Ljava/lang/String;IIICCCC)Z"⟩ : MethodName) (head1 (Jvm.Cond.code (⟨"com/example/slatewipe/slatewipe/TableQualifiedNamePinLaw", "at", "(Ljava/lang/String;IIICCCC)Z"⟩ : MethodName) method_4_code 10 (some .boolean) :: ws) ({ frames := 0, cells := 0, slots := 0, locals := 0 } : Room)) (fun aa' UU' => aa' = #[(.ref sa), (.int (4 : Int32)), (.int zn), (.int zl), (.int ch0), (.int ch1), (.int ch2), (.int ch3)] ∧ Z.Warmed39 UU'.vm ∧ UU'.heap = h0) (fun _ _ _ _ _ => True) (fun _ UU' oo' VV' => ∃ v' L', oo' = .returned v' ∧ QrmAT_4 Z vcs vfm sa zn zl ch0 ch1 ch2 ch3 h0 n0 v' VV'.heap L' ∧ FrameEnd UU' oo' VV' L' ({ frames := 0, cells := 0, slots := 0, locals := 0 } : Room).cells ({ frames := 0, cells := 0, slots := 0, locals := 0 } : Room).slots) := by
  refine MetFree.of_bodySF (plainFor_of_name pn_29) hisR ?_
  intro p e s m args below meth c s₁ Bd hml0 hP hK
  obtain ⟨rfl, hZ, hh⟩ := hP
  have hx := Bd.exec
  have hby := Bd.bytes
  have hlk := Bd.notSynchronized
  have hml : c.maxLocals = 10 := hml0
  have hown : s.vm.findClass "com/example/slatewipe/slatewipe/TableQualifiedNamePinLaw" = some m.cls := findClass_of_methodNamed Bd.named
  have hnm := (name_of_methodNamed Bd.named Bd.method).1
  have hret := Bd.returns
  have X0 : Stand p l e ({ frames := 0, cells := 0, slots := 0, locals := 0 } : Room) s m #[(.ref sa), (.int (4 : Int32)), (.int zn), (.int zl), (.int ch0), (.int ch1), (.int ch2), (.int ch3)] below meth c s₁ [] 0 0 := Stand.of_body Bd
  have e0 : s₁.heap = h0 := by rw [← hh, Bd.state]; rfl
  have N0 := Fr.nil n0
  refine Go.body ?_
  obtain ⟨Pf, hPf⟩ : ∃ P, P = Fin' s below ({ frames := 0, cells := 0, slots := 0, locals := 0 } : Room).cells ({ frames := 0, cells := 0, slots := 0, locals := 0 } : Room).slots (QrmAT_4 Z vcs vfm sa zn zl ch0 ch1 ch2 ch3 h0 n0) := ⟨_, rfl⟩
  rw [← hPf]
  refine Go.cast (ef_rmAT_4 m) ?_
  show Go p.tables e below Pf (s₁.setTop (mkF m 0 #[vr sa, vi (4 : Int32), vi zn, vi zl, vi ch0, vi ch1, vi ch2, vi ch3, .unset, .unset] []))
  refine Go.by' (fun t k => (XS.iloadN X0.here hx rfl (hb hby d29_0) rfl (XS.iloadN X0.here hx rfl (hb hby d29_1) rfl (XS.icmpNo X0.here hx rfl (hb hby d29_2) rfl (flt hi1).1 (XS.iconst X0.here hx rfl (hb hby d29_5) k))))) ?_
  show Go p.tables e below Pf (s₁.setTop (mkF m 6 #[vr sa, vi (4 : Int32), vi zn, vi zl, vi ch0, vi ch1, vi ch2, vi ch3, .unset, .unset] [(.int (1 : Int32))]))
  rw [hPf]
  exact Go.retI' X0 hx hret hlk (by simp) rfl (hb hby d29_6) (by decide) (by decide) ⟨rfl, rfl, e0⟩
theorem pd_25 : parseMethodDescriptor "(ICC)Ljava/lang/String;" = some ⟨[.int, .char, .char], some (.object "java/lang/String")⟩ := by decide +kernel
theorem pd_26 : parseMethodDescriptor "(Ljava/lang/String;Ljava/lang/String;)V" = some ⟨[(.object "java/lang/String"), (.object "java/lang/String")], none⟩ := by decide +kernel
theorem pd_27 : parseMethodDescriptor "(Ljava/lang/String;IIICCCC)Z" = some ⟨[(.object "java/lang/String"), .int, .int, .int, .char, .char, .char, .char], some .boolean⟩ := by decide +kernel
theorem pn_0 : plainName "com/example/slatewipe/slatewipe/TableQualifiedNamePinLaw" = true := by first | (simp [plainName, overriddenIn]; done) | decide +kernel
set_option maxHeartbeats 4000000 in
theorem ef_rm0 (m : MethodId) {il : Int32} {ia : Int32} {ib : Int32} {ic : Int32} {id : Int32} : entryFrame m #[(.int il), (.int ia), (.int ib), (.int ic), (.int id)] maxLocals = mkF m 0 #[vi il, vi ia, vi ib, vi ic, vi id, .unset, .unset, .unset, .unset, .unset, .unset, .unset, .unset, .unset, .unset] [] := by first | (simp [entryFrame, mkF, argsToLocals, Value.category, maxLocals]; done) | rfl
def Qrm0 (Z : State) (vcs : Int32) (vfm : Value) (il : Int32) (ia : Int32) (ib : Int32) (ic : Int32) (id : Int32) (h0 : Heap) (n0 : Nat) (v : Option Value) (h : Heap) (vm : Vm) (L : List Loc) : Prop := (v = some (.int (1 : Int32))) ∧ (Fr n0 L) ∧ (Keep h0 h [])
set_option maxRecDepth 65536 in
set_option maxHeartbeats 40000000 in
theorem rm0 (l : Launch) (Z : State) (a0 : Array Value) (hw : ∀ d ∈ tables_1, d.before a0 Z = true) (ws : List Jvm.Cond) (vcs : Int32) (vfm : Value) (G : Gh Z vcs vfm) (il : Int32) (ia : Int32) (ib : Int32) (ic : Int32) (id : Int32) (h0 : Heap) (n0 : Nat) (O0 : Old Z n0 h0) :
    MetFree l x (head1 (Jvm.Cond.code x code maxLocals ret :: ws) room_1) (fun aa' UU' => aa' = #[(.int il), (.int ia), (.int ib), (.int ic), (.int id)] ∧ Z.Warmed39 UU'.vm ∧ UU'.heap = h0 ∧ CHv Z consts_1 UU'.vm h0 ∧ ∀ x ∈ ([] : List Addr), Safe Z consts_1 UU'.vm h0 x) (fun _ _ _ _ _ => True) (fun _ UU' oo' VV' => ∃ v' L', oo' = .returned v' ∧ Qrm0 Z vcs vfm il ia ib ic id h0 n0 v' VV'.heap VV'.vm L' ∧ CHr Z consts_1 UU'.vm UU'.heap VV'.vm VV'.heap ∧ ReturnedEndW UU' oo' VV' L' 19 74) := by
  refine MetFree.of_bodySF (plainFor_of_name pn_0) hisR ?_
  intro p e s m args below meth c s₁ Bd hml0 hP hK
  obtain ⟨rfl, hZ, hh, hCH, hSf⟩ := hP
  have hx := Bd.exec
  have hby := Bd.bytes
  have hlk := Bd.notSynchronized
  have hml : c.maxLocals = 15 := hml0
  have hown : s.vm.findClass "com/example/slatewipe/slatewipe/TableQualifiedNamePinLaw" = some m.cls := findClass_of_methodNamed Bd.named
  have hnm := (name_of_methodNamed Bd.named Bd.method).1
  have hret := Bd.returns
  have X0 : Stand p l e room_1 (s.setVm s.vm) m #[(.int il), (.int ia), (.int ib), (.int ic), (.int id)] below meth c s₁ [] 0 0 := Stand.of_body Bd
  have e0 : s₁.heap = h0 := by rw [← hh, Bd.state]; rfl
  have N0 := Fr.nil n0
  have KC0 : Keep h0 h0 [] := Keep.refl _ _
  have Sb0 := Sb.start hZ hown hCH
  have hEL := own_EW hw
  have hSA := own_SA hw
  refine Go.bodyS ?_
  obtain ⟨Pf, hPf⟩ : ∃ P, P = FinS Z consts_1 s below 19 74 (Qrm0 Z vcs vfm il ia ib ic id h0 n0) := ⟨_, rfl⟩
  rw [← hPf]
  refine Go.cast (ef_rm0 m) ?_
  have hw0 := (hw _ (List.mem_of_getElem? (i := 0) rfl))
  have hw1 := (hw _ (List.mem_of_getElem? (i := 1) rfl))
  have hw2 := (hw _ (List.mem_of_getElem? (i := 2) rfl))
  have hw3 := (hw _ (List.mem_of_getElem? (i := 3) rfl))
  have hw4 := (hw _ (List.mem_of_getElem? (i := 4) rfl))
  have hw7 := (hw _ (List.mem_of_getElem? (i := 7) rfl))
  have hw27 := (hw _ (List.mem_of_getElem? (i := 27) rfl))
  have hw28 := (hw _ (List.mem_of_getElem? (i := 28) rfl))
  have hw29 := (hw _ (List.mem_of_getElem? (i := 29) rfl))
  have hw30 := (hw _ (List.mem_of_getElem? (i := 30) rfl))
  have hw31 := (hw _ (List.mem_of_getElem? (i := 31) rfl))
  have hw32 := (hw _ (List.mem_of_getElem? (i := 32) rfl))
  have hw40 := (hw _ (List.mem_of_getElem? (i := 40) rfl))
  have hw42 := (hw _ (List.mem_of_getElem? (i := 42) rfl))
  have hw43 := (hw _ (List.mem_of_getElem? (i := 43) rfl))
  have hw44 := (hw _ (List.mem_of_getElem? (i := 44) rfl))
  have hw45 := (hw _ (List.mem_of_getElem? (i := 45) rfl))
  have hw46 := (hw _ (List.mem_of_getElem? (i := 46) rfl))
  have hw47 := (hw _ (List.mem_of_getElem? (i := 47) rfl))
  have hw77 := (hw _ (List.mem_of_getElem? (i := 77) rfl))
  have hw78 := (hw _ (List.mem_of_getElem? (i := 78) rfl))
  have hw79 := (hw _ (List.mem_of_getElem? (i := 79) rfl))
  have hw80 := (hw _ (List.mem_of_getElem? (i := 80) rfl))
  have hw160 := (hw _ (List.mem_of_getElem? (i := 160) rfl))
  have hw161 := (hw _ (List.mem_of_getElem? (i := 161) rfl))
  have hw162 := (hw _ (List.mem_of_getElem? (i := 162) rfl))
  have hw163 := (hw _ (List.mem_of_getElem? (i := 163) rfl))
  show Go p.tables e below Pf (s₁.setTop (mkF m 0 #[vi il, vi ia, vi ib, vi ic, vi id, .unset, .unset, .unset, .unset, .unset, .unset, .unset, .unset, .unset, .unset] []))
  refine Go.by' (fun t k => (XS.iloadN X0.here hx rfl (hb hby at_0) rfl (X0.ldcInt hx hown (mvT hZ hw0) (g := (mkF m 1 #[vi il, vi ia, vi ib, vi ic, vi id, .unset, .unset, .unset, .unset, .unset, .unset, .unset, .unset, .unset, .unset] [(.int il)])) rfl (hb hby at_1) t (XS.iand X0.here hx rfl (hb hby at_3) rfl (XS.iconst X0.here hx rfl (hb hby at_4) k))))) ?_
  refine Go.by' (fun t k => iremM (g := (mkF m 5 #[vi il, vi ia, vi ib, vi ic, vi id, .unset, .unset, .unset, .unset, .unset, .unset, .unset, .unset, .unset, .unset] [(.int (3 : Int32)), (.int (il &&& (2147483647 : Int32)))])) X0 hx rfl (hb hby at_5) rfl (by decide) k) ?_
  show Go p.tables e below Pf (s₁.setTop (mkF m 6 #[vi il, vi ia, vi ib, vi ic, vi id, .unset, .unset, .unset, .unset, .unset, .unset, .unset, .unset, .unset, .unset] [(.int ((il &&& (2147483647 : Int32)) % (3 : Int32)))]))
  refine Go.by' (fun t k => (XS.istore X0.here hx rfl (hb hby at_6) rfl (l' := #[vi il, vi ia, vi ib, vi ic, vi id, vi ((il &&& (2147483647 : Int32)) % (3 : Int32)), .unset, .unset, .unset, .unset, .unset, .unset, .unset, .unset, .unset]) rfl (XS.iloadN X0.here hx rfl (hb hby at_8) rfl (XS.bipush X0.here hx rfl (hb hby at_9) (XS.iushr X0.here hx rfl (hb hby at_11) rfl (X0.ldcInt hx hown (mvT hZ hw0) (g := (mkF m 12 #[vi il, vi ia, vi ib, vi ic, vi id, vi ((il &&& (2147483647 : Int32)) % (3 : Int32)), .unset, .unset, .unset, .unset, .unset, .unset, .unset, .unset, .unset] [(.int ((il.toUInt32 >>> ((8 : Int32) &&& 31).toUInt32).toInt32))])) rfl (hb hby at_12) t (XS.iand X0.here hx rfl (hb hby at_14) rfl (XS.iconst X0.here hx rfl (hb hby at_15) k)))))))) ?_
  refine Go.by' (fun t k => iremM (g := (mkF m 16 #[vi il, vi ia, vi ib, vi ic, vi id, vi ((il &&& (2147483647 : Int32)) % (3 : Int32)), .unset, .unset, .unset, .unset, .unset, .unset, .unset, .unset, .unset] [(.int (3 : Int32)), (.int (((il.toUInt32 >>> ((8 : Int32) &&& 31).toUInt32).toInt32) &&& (2147483647 : Int32)))])) X0 hx rfl (hb hby at_16) rfl (by decide) k) ?_
  show Go p.tables e below Pf (s₁.setTop (mkF m 17 #[vi il, vi ia, vi ib, vi ic, vi id, vi ((il &&& (2147483647 : Int32)) % (3 : Int32)), .unset, .unset, .unset, .unset, .unset, .unset, .unset, .unset, .unset] [(.int ((((il.toUInt32 >>> ((8 : Int32) &&& 31).toUInt32).toInt32) &&& (2147483647 : Int32)) % (3 : Int32)))]))
  refine Go.by' (fun t k => (XS.istore X0.here hx rfl (hb hby at_17) rfl (l' := #[vi il, vi ia, vi ib, vi ic, vi id, vi ((il &&& (2147483647 : Int32)) % (3 : Int32)), vi ((((il.toUInt32 >>> ((8 : Int32) &&& 31).toUInt32).toInt32) &&& (2147483647 : Int32)) % (3 : Int32)), .unset, .unset, .unset, .unset, .unset, .unset, .unset, .unset]) rfl (XS.iloadN X0.here hx rfl (hb hby at_19) rfl (XS.sipush X0.here hx rfl (hb hby at_20) (XS.iand X0.here hx rfl (hb hby at_23) rfl (XS.i2c X0.here hx rfl (hb hby at_24) rfl k)))))) ?_
  show Go p.tables e below Pf (s₁.setTop (mkF m 25 #[vi il, vi ia, vi ib, vi ic, vi id, vi ((il &&& (2147483647 : Int32)) % (3 : Int32)), vi ((((il.toUInt32 >>> ((8 : Int32) &&& 31).toUInt32).toInt32) &&& (2147483647 : Int32)) % (3 : Int32)), .unset, .unset, .unset, .unset, .unset, .unset, .unset, .unset] [(.int ((ia &&& (255 : Int32)).toUInt32.toUInt16.toUInt32.toInt32))]))
  refine Go.castF (a := ((ia &&& (255 : Int32)).toUInt32.toUInt16.toUInt32.toInt32)) (b := (ia &&& (255 : Int32))) (fun z' : Int32 => mkF m 25 #[vi il, vi ia, vi ib, vi ic, vi id, vi ((il &&& (2147483647 : Int32)) % (3 : Int32)), vi ((((il.toUInt32 >>> ((8 : Int32) &&& 31).toUInt32).toInt32) &&& (2147483647 : Int32)) % (3 : Int32)), .unset, .unset, .unset, .unset, .unset, .unset, .unset, .unset] [(.int z')]) (i2c_mask _) ?_
  show Go p.tables e below Pf (s₁.setTop (mkF m 25 #[vi il, vi ia, vi ib, vi ic, vi id, vi ((il &&& (2147483647 : Int32)) % (3 : Int32)), vi ((((il.toUInt32 >>> ((8 : Int32) &&& 31).toUInt32).toInt32) &&& (2147483647 : Int32)) % (3 : Int32)), .unset, .unset, .unset, .unset, .unset, .unset, .unset, .unset] [(.int (ia &&& (255 : Int32)))]))
  refine Go.by' (fun t k => (XS.istore X0.here hx rfl (hb hby at_25) rfl (l' := #[vi il, vi ia, vi ib, vi ic, vi id, vi ((il &&& (2147483647 : Int32)) % (3 : Int32)), vi ((((il.toUInt32 >>> ((8 : Int32) &&& 31).toUInt32).toInt32) &&& (2147483647 : Int32)) % (3 : Int32)), vi (ia &&& (255 : Int32)), .unset, .unset, .unset, .unset, .unset, .unset, .unset]) rfl (XS.iloadN X0.here hx rfl (hb hby at_27) rfl (XS.sipush X0.here hx rfl (hb hby at_28) (XS.iand X0.here hx rfl (hb hby at_31) rfl (XS.i2c X0.here hx rfl (hb hby at_32) rfl k)))))) ?_
  show Go p.tables e below Pf (s₁.setTop (mkF m 33 #[vi il, vi ia, vi ib, vi ic, vi id, vi ((il &&& (2147483647 : Int32)) % (3 : Int32)), vi ((((il.toUInt32 >>> ((8 : Int32) &&& 31).toUInt32).toInt32) &&& (2147483647 : Int32)) % (3 : Int32)), vi (ia &&& (255 : Int32)), .unset, .unset, .unset, .unset, .unset, .unset, .unset] [(.int ((ib &&& (255 : Int32)).toUInt32.toUInt16.toUInt32.toInt32))]))
  refine Go.castF (a := ((ib &&& (255 : Int32)).toUInt32.toUInt16.toUInt32.toInt32)) (b := (ib &&& (255 : Int32))) (fun z' : Int32 => mkF m 33 #[vi il, vi ia, vi ib, vi ic, vi id, vi ((il &&& (2147483647 : Int32)) % (3 : Int32)), vi ((((il.toUInt32 >>> ((8 : Int32) &&& 31).toUInt32).toInt32) &&& (2147483647 : Int32)) % (3 : Int32)), vi (ia &&& (255 : Int32)), .unset, .unset, .unset, .unset, .unset, .unset, .unset] [(.int z')]) (i2c_mask _) ?_
  show Go p.tables e below Pf (s₁.setTop (mkF m 33 #[vi il, vi ia, vi ib, vi ic, vi id, vi ((il &&& (2147483647 : Int32)) % (3 : Int32)), vi ((((il.toUInt32 >>> ((8 : Int32) &&& 31).toUInt32).toInt32) &&& (2147483647 : Int32)) % (3 : Int32)), vi (ia &&& (255 : Int32)), .unset, .unset, .unset, .unset, .unset, .unset, .unset] [(.int (ib &&& (255 : Int32)))]))
  refine Go.by' (fun t k => (XS.istore X0.here hx rfl (hb hby at_33) rfl (l' := #[vi il, vi ia, vi ib, vi ic, vi id, vi ((il &&& (2147483647 : Int32)) % (3 : Int32)), vi ((((il.toUInt32 >>> ((8 : Int32) &&& 31).toUInt32).toInt32) &&& (2147483647 : Int32)) % (3 : Int32)), vi (ia &&& (255 : Int32)), vi (ib &&& (255 : Int32)), .unset, .unset, .unset, .unset, .unset, .unset]) rfl (XS.iloadN X0.here hx rfl (hb hby at_35) rfl (XS.sipush X0.here hx rfl (hb hby at_36) (XS.iand X0.here hx rfl (hb hby at_39) rfl (XS.i2c X0.here hx rfl (hb hby at_40) rfl k)))))) ?_
  show Go p.tables e below Pf (s₁.setTop (mkF m 41 #[vi il, vi ia, vi ib, vi ic, vi id, vi ((il &&& (2147483647 : Int32)) % (3 : Int32)), vi ((((il.toUInt32 >>> ((8 : Int32) &&& 31).toUInt32).toInt32) &&& (2147483647 : Int32)) % (3 : Int32)), vi (ia &&& (255 : Int32)), vi (ib &&& (255 : Int32)), .unset, .unset, .unset, .unset, .unset, .unset] [(.int ((ic &&& (255 : Int32)).toUInt32.toUInt16.toUInt32.toInt32))]))
  refine Go.castF (a := ((ic &&& (255 : Int32)).toUInt32.toUInt16.toUInt32.toInt32)) (b := (ic &&& (255 : Int32))) (fun z' : Int32 => mkF m 41 #[vi il, vi ia, vi ib, vi ic, vi id, vi ((il &&& (2147483647 : Int32)) % (3 : Int32)), vi ((((il.toUInt32 >>> ((8 : Int32) &&& 31).toUInt32).toInt32) &&& (2147483647 : Int32)) % (3 : Int32)), vi (ia &&& (255 : Int32)), vi (ib &&& (255 : Int32)), .unset, .unset, .unset, .unset, .unset, .unset] [(.int z')]) (i2c_mask _) ?_
  show Go p.tables e below Pf (s₁.setTop (mkF m 41 #[vi il, vi ia, vi ib, vi ic, vi id, vi ((il &&& (2147483647 : Int32)) % (3 : Int32)), vi ((((il.toUInt32 >>> ((8 : Int32) &&& 31).toUInt32).toInt32) &&& (2147483647 : Int32)) % (3 : Int32)), vi (ia &&& (255 : Int32)), vi (ib &&& (255 : Int32)), .unset, .unset, .unset, .unset, .unset, .unset] [(.int (ic &&& (255 : Int32)))]))
  refine Go.by' (fun t k => (XS.istore X0.here hx rfl (hb hby at_41) rfl (l' := #[vi il, vi ia, vi ib, vi ic, vi id, vi ((il &&& (2147483647 : Int32)) % (3 : Int32)), vi ((((il.toUInt32 >>> ((8 : Int32) &&& 31).toUInt32).toInt32) &&& (2147483647 : Int32)) % (3 : Int32)), vi (ia &&& (255 : Int32)), vi (ib &&& (255 : Int32)), vi (ic &&& (255 : Int32)), .unset, .unset, .unset, .unset, .unset]) rfl (XS.iload X0.here hx rfl (hb hby at_43) rfl (XS.sipush X0.here hx rfl (hb hby at_45) (XS.iand X0.here hx rfl (hb hby at_48) rfl (XS.i2c X0.here hx rfl (hb hby at_49) rfl k)))))) ?_
  show Go p.tables e below Pf (s₁.setTop (mkF m 50 #[vi il, vi ia, vi ib, vi ic, vi id, vi ((il &&& (2147483647 : Int32)) % (3 : Int32)), vi ((((il.toUInt32 >>> ((8 : Int32) &&& 31).toUInt32).toInt32) &&& (2147483647 : Int32)) % (3 : Int32)), vi (ia &&& (255 : Int32)), vi (ib &&& (255 : Int32)), vi (ic &&& (255 : Int32)), .unset, .unset, .unset, .unset, .unset] [(.int ((id &&& (255 : Int32)).toUInt32.toUInt16.toUInt32.toInt32))]))
  refine Go.castF (a := ((id &&& (255 : Int32)).toUInt32.toUInt16.toUInt32.toInt32)) (b := (id &&& (255 : Int32))) (fun z' : Int32 => mkF m 50 #[vi il, vi ia, vi ib, vi ic, vi id, vi ((il &&& (2147483647 : Int32)) % (3 : Int32)), vi ((((il.toUInt32 >>> ((8 : Int32) &&& 31).toUInt32).toInt32) &&& (2147483647 : Int32)) % (3 : Int32)), vi (ia &&& (255 : Int32)), vi (ib &&& (255 : Int32)), vi (ic &&& (255 : Int32)), .unset, .unset, .unset, .unset, .unset] [(.int z')]) (i2c_mask _) ?_
  show Go p.tables e below Pf (s₁.setTop (mkF m 50 #[vi il, vi ia, vi ib, vi ic, vi id, vi ((il &&& (2147483647 : Int32)) % (3 : Int32)), vi ((((il.toUInt32 >>> ((8 : Int32) &&& 31).toUInt32).toInt32) &&& (2147483647 : Int32)) % (3 : Int32)), vi (ia &&& (255 : Int32)), vi (ib &&& (255 : Int32)), vi (ic &&& (255 : Int32)), .unset, .unset, .unset, .unset, .unset] [(.int (id &&& (255 : Int32)))]))
  refine Go.by' (fun t k => (XS.istore X0.here hx rfl (hb hby at_50) rfl (l' := #[vi il, vi ia, vi ib, vi ic, vi id, vi ((il &&& (2147483647 : Int32)) % (3 : Int32)), vi ((((il.toUInt32 >>> ((8 : Int32) &&& 31).toUInt32).toInt32) &&& (2147483647 : Int32)) % (3 : Int32)), vi (ia &&& (255 : Int32)), vi (ib &&& (255 : Int32)), vi (ic &&& (255 : Int32)), vi (id &&& (255 : Int32)), .unset, .unset, .unset, .unset]) rfl k)) ?_
  obtain ⟨q7, hq7⟩ : ∃ z, (ia &&& (255 : Int32)) = z := ⟨_, rfl⟩
  have bd7 : ¬ q7 < (0 : Int32) ∧ ¬ (255 : Int32) < q7 := hq7 ▸ own_m _
  show Go p.tables e below Pf (s₁.setTop (mkF m 52 #[vi il, vi ia, vi ib, vi ic, vi id, vi ((il &&& (2147483647 : Int32)) % (3 : Int32)), vi ((((il.toUInt32 >>> ((8 : Int32) &&& 31).toUInt32).toInt32) &&& (2147483647 : Int32)) % (3 : Int32)), vi (ia &&& (255 : Int32)), vi (ib &&& (255 : Int32)), vi (ic &&& (255 : Int32)), vi (id &&& (255 : Int32)), .unset, .unset, .unset, .unset] []))
  refine Go.castF (a := (ia &&& (255 : Int32))) (b := q7) (fun z' : Int32 => mkF m 52 #[vi il, vi ia, vi ib, vi ic, vi id, vi ((il &&& (2147483647 : Int32)) % (3 : Int32)), vi ((((il.toUInt32 >>> ((8 : Int32) &&& 31).toUInt32).toInt32) &&& (2147483647 : Int32)) % (3 : Int32)), vi z', vi (ib &&& (255 : Int32)), vi (ic &&& (255 : Int32)), vi (id &&& (255 : Int32)), .unset, .unset, .unset, .unset] []) (hq7) ?_
  obtain ⟨q8, hq8⟩ : ∃ z, (ib &&& (255 : Int32)) = z := ⟨_, rfl⟩
  have bd8 : ¬ q8 < (0 : Int32) ∧ ¬ (255 : Int32) < q8 := hq8 ▸ own_m _
  refine Go.castF (a := (ib &&& (255 : Int32))) (b := q8) (fun z' : Int32 => mkF m 52 #[vi il, vi ia, vi ib, vi ic, vi id, vi ((il &&& (2147483647 : Int32)) % (3 : Int32)), vi ((((il.toUInt32 >>> ((8 : Int32) &&& 31).toUInt32).toInt32) &&& (2147483647 : Int32)) % (3 : Int32)), vi q7, vi z', vi (ic &&& (255 : Int32)), vi (id &&& (255 : Int32)), .unset, .unset, .unset, .unset] []) (hq8) ?_
  obtain ⟨q9, hq9⟩ : ∃ z, (ic &&& (255 : Int32)) = z := ⟨_, rfl⟩
  have bd9 : ¬ q9 < (0 : Int32) ∧ ¬ (255 : Int32) < q9 := hq9 ▸ own_m _
  refine Go.castF (a := (ic &&& (255 : Int32))) (b := q9) (fun z' : Int32 => mkF m 52 #[vi il, vi ia, vi ib, vi ic, vi id, vi ((il &&& (2147483647 : Int32)) % (3 : Int32)), vi ((((il.toUInt32 >>> ((8 : Int32) &&& 31).toUInt32).toInt32) &&& (2147483647 : Int32)) % (3 : Int32)), vi q7, vi q8, vi z', vi (id &&& (255 : Int32)), .unset, .unset, .unset, .unset] []) (hq9) ?_
  obtain ⟨q10, hq10⟩ : ∃ z, (id &&& (255 : Int32)) = z := ⟨_, rfl⟩
  have bd10 : ¬ q10 < (0 : Int32) ∧ ¬ (255 : Int32) < q10 := hq10 ▸ own_m _
  refine Go.castF (a := (id &&& (255 : Int32))) (b := q10) (fun z' : Int32 => mkF m 52 #[vi il, vi ia, vi ib, vi ic, vi id, vi ((il &&& (2147483647 : Int32)) % (3 : Int32)), vi ((((il.toUInt32 >>> ((8 : Int32) &&& 31).toUInt32).toInt32) &&& (2147483647 : Int32)) % (3 : Int32)), vi q7, vi q8, vi q9, vi z', .unset, .unset, .unset, .unset] []) (hq10) ?_
  show Go p.tables e below Pf (s₁.setTop (mkF m 52 #[vi il, vi ia, vi ib, vi ic, vi id, vi ((il &&& (2147483647 : Int32)) % (3 : Int32)), vi ((((il.toUInt32 >>> ((8 : Int32) &&& 31).toUInt32).toInt32) &&& (2147483647 : Int32)) % (3 : Int32)), vi q7, vi q8, vi q9, vi q10, .unset, .unset, .unset, .unset] []))
  rcases own_k3 _ with hk | hk | hk
  · refine Go.castF (a := ((il &&& (2147483647 : Int32)) % (3 : Int32))) (b := (0 : Int32)) (fun z' : Int32 => mkF m 52 #[vi il, vi ia, vi ib, vi ic, vi id, vi z', vi ((((il.toUInt32 >>> ((8 : Int32) &&& 31).toUInt32).toInt32) &&& (2147483647 : Int32)) % (3 : Int32)), vi q7, vi q8, vi q9, vi q10, .unset, .unset, .unset, .unset] []) (hk) ?_
    show Go p.tables e below Pf (s₁.setTop (mkF m 52 #[vi il, vi ia, vi ib, vi ic, vi id, vi (0 : Int32), vi ((((il.toUInt32 >>> ((8 : Int32) &&& 31).toUInt32).toInt32) &&& (2147483647 : Int32)) % (3 : Int32)), vi q7, vi q8, vi q9, vi q10, .unset, .unset, .unset, .unset] []))
    rcases own_k3 _ with hm | hm | hm
    · refine Go.castF (a := ((((il.toUInt32 >>> ((8 : Int32) &&& 31).toUInt32).toInt32) &&& (2147483647 : Int32)) % (3 : Int32))) (b := (0 : Int32)) (fun z' : Int32 => mkF m 52 #[vi il, vi ia, vi ib, vi ic, vi id, vi (0 : Int32), vi z', vi q7, vi q8, vi q9, vi q10, .unset, .unset, .unset, .unset] []) (hm) ?_
      show Go p.tables e below Pf (s₁.setTop (mkF m 52 #[vi il, vi ia, vi ib, vi ic, vi id, vi (0 : Int32), vi (0 : Int32), vi q7, vi q8, vi q9, vi q10, .unset, .unset, .unset, .unset] []))
      refine Go.by' (fun t k => (XS.iload X0.here hx rfl (hb hby at_52) rfl (XS.iload X0.here hx rfl (hb hby at_54) rfl (XS.iload X0.here hx rfl (hb hby at_56) rfl k)))) ?_
      obtain ⟨_, _, ⟨T178, L178, k178, n178⟩, -, X178, Si178, Gr178, ⟨Lc178, hQ178, l178, y178, z178, A178⟩, st178⟩ := callSS X0 hx (y := (⟨"com/example/slatewipe/slatewipe/TableQualifiedNamePinLaw", "make", "(ICC)Ljava/lang/String;"⟩ : MethodName)) hown (mvT hZ hw1) (mvT hZ hw2) (mvT hZ hw3) (mvT hZ hw4) (by decide) (own_backS (W := 0) (rmMk_0 l Z a0 hw [] vcs vfm G q7 q8 h0 n0 O0 ) Sb0 hw4 hw3 (by decide) (by decide) hEL all0) (g := (mkF m 58 #[vi il, vi ia, vi ib, vi ic, vi id, vi (0 : Int32), vi (0 : Int32), vi q7, vi q8, vi q9, vi q10, .unset, .unset, .unset, .unset] [(.int q8), (.int q7), (.int (0 : Int32))])) rfl (by rw [hml]; rfl) (argsL := [(.int (0 : Int32)), (.int q7), (.int q8)]) (rest := []) (lenOf pd_25 rfl) rfl (by show 2 * 0 + _ ≤ _; exact Nat.le_of_eq rfl) (hb hby at_58) (fun _ _ => ⟨rfl, e0, (by decide : 0 + 6 ≤ _), (by decide : 0 + 12 ≤ _)⟩)
      dsimp only [Pt.U, Pt.locs, Pt.cells, Pt.slots] at X178 l178 y178 z178 st178 hQ178 Si178 Gr178 A178
      subst l178 y178 z178
      obtain ⟨r_178, rb_178, kb_178, rfl, N178q, K178, f178_0, f178_1, f178_2, f178_3, f178_4⟩ := hQ178
      have N178 := Fr.app N0 N178q
      obtain ⟨lc178, X178, N178⟩ := own_pack X178 N178
      replace X178 := own_reb X178
      have Sb178 := Sb0.called Si178 (by rw [← e0]; exact Gr178) A178
      have hZ178 := Sb178.hZ
      have hO178 := Sb178.hO
      refine Go.by' (fun t k => st178.trans k) ?_
      have Sf_r_178 : Safe Z consts_1 s.vm h0 r_178 := Safe.new f178_1
      have g_r_178 : n0 ≤ r_178 := Nat.le_trans (own_le O0) f178_1
      have sz_r_178 : h0.size ≤ r_178 := Nat.le_trans KC0.1 f178_1
      have O178 := O0.keep K178 all0
      have KC178 : Keep h0 T178.heap [] := KC0.trans K178 all0
      show Go p.tables e below Pf (T178.setTop (mkF m 61 #[vi il, vi ia, vi ib, vi ic, vi id, vi (0 : Int32), vi (0 : Int32), vi q7, vi q8, vi q9, vi q10, .unset, .unset, .unset, .unset] [(.ref r_178)]))
      refine Go.by' (fun t k => (XS.astore X178.here hx rfl (hb hby at_61) rfl rfl (l' := #[vi il, vi ia, vi ib, vi ic, vi id, vi (0 : Int32), vi (0 : Int32), vi q7, vi q8, vi q9, vi q10, vr r_178, .unset, .unset, .unset]) rfl (XS.iload X178.here hx rfl (hb hby at_63) rfl (XS.iload X178.here hx rfl (hb hby at_65) rfl (XS.iload X178.here hx rfl (hb hby at_67) rfl k))))) ?_
      obtain ⟨_, _, ⟨T179, L179, k179, n179⟩, -, X179, Si179, Gr179, ⟨Lc179, hQ179, l179, y179, z179, A179⟩, st179⟩ := callSS X178 hx (y := (⟨"com/example/slatewipe/slatewipe/TableQualifiedNamePinLaw", "make", "(ICC)Ljava/lang/String;"⟩ : MethodName)) hO178 (mvT hZ178 hw1) (mvT hZ178 hw2) (mvT hZ178 hw3) (mvT hZ178 hw4) (by decide) (own_backS (W := 0) (rmMk_0 l Z a0 hw [] vcs vfm G q9 q10 T178.heap n0 O178 ) Sb178 hw4 hw3 (by decide) (by decide) hEL all0) (g := (mkF m 69 #[vi il, vi ia, vi ib, vi ic, vi id, vi (0 : Int32), vi (0 : Int32), vi q7, vi q8, vi q9, vi q10, vr r_178, .unset, .unset, .unset] [(.int q10), (.int q9), (.int (0 : Int32))])) rfl (by rw [hml]; rfl) (argsL := [(.int (0 : Int32)), (.int q9), (.int q10)]) (rest := []) (lenOf pd_25 rfl) rfl (by show 2 * 0 + _ ≤ _; exact Nat.le_of_eq rfl) (hb hby at_69) (fun _ _ => ⟨rfl, rfl, (by decide : 6 + 6 ≤ _), (by decide : 12 + 12 ≤ _)⟩)
      dsimp only [Pt.U, Pt.locs, Pt.cells, Pt.slots] at X179 l179 y179 z179 st179 hQ179 Si179 Gr179 A179
      subst l179 y179 z179
      obtain ⟨r_179, rb_179, kb_179, rfl, N179q, K179, f179_0, f179_1, f179_2, f179_3, f179_4⟩ := hQ179
      have N179 := Fr.app N178 N179q
      obtain ⟨lc179, X179, N179⟩ := own_pack X179 N179
      replace X179 := own_reb X179
      have Sb179 := Sb178.called Si179 Gr179 A179
      have hZ179 := Sb179.hZ
      have hO179 := Sb179.hO
      refine Go.by' (fun t k => st179.trans k) ?_
      have Sf_r_179 : Safe Z consts_1 T178.vm T178.heap r_179 := Safe.new f179_1
      have g_r_179 : n0 ≤ r_179 := Nat.le_trans (own_le O178) f179_1
      have sz_r_179 : h0.size ≤ r_179 := Nat.le_trans KC178.1 f179_1
      have O179 := O178.keep K179 all0
      have KC179 : Keep h0 T179.heap [] := KC178.trans K179 all0
      show Go p.tables e below Pf (T179.setTop (mkF m 72 #[vi il, vi ia, vi ib, vi ic, vi id, vi (0 : Int32), vi (0 : Int32), vi q7, vi q8, vi q9, vi q10, vr r_178, .unset, .unset, .unset] [(.ref r_179)]))
      refine Go.by' (fun t k => (XS.astore X179.here hx rfl (hb hby at_72) rfl rfl (l' := #[vi il, vi ia, vi ib, vi ic, vi id, vi (0 : Int32), vi (0 : Int32), vi q7, vi q8, vi q9, vi q10, vr r_178, vr r_179, .unset, .unset]) rfl k)) ?_
      obtain ⟨T180, h180, X180, e180, E180, A180, D180, -, st180⟩ := newO X179 hx hZ179 hO179 hw27 hw28 hw29 rfl (g := (mkF m 74 #[vi il, vi ia, vi ib, vi ic, vi id, vi (0 : Int32), vi (0 : Int32), vi q7, vi q8, vi q9, vi q10, vr r_178, vr r_179, .unset, .unset] [])) rfl (hb hby at_74) (by decide) (by decide)
      obtain ⟨b180, g180⟩ : ∃ z, z = T179.heap.size := ⟨_, rfl⟩
      rw [← g180] at A180 D180 st180
      refine Go.by' st180 ?_
      have Sf_b180 : Safe Z consts_1 T179.vm T179.heap b180 := Safe.new (Nat.le_of_eq g180.symm)
      have g_b180 : n0 ≤ b180 := Nat.le_trans (own_le O179) (Nat.le_of_eq g180.symm)
      have sz_b180 : h0.size ≤ b180 := Nat.le_trans KC179.1 (Nat.le_of_eq g180.symm)
      have Sb180 := Sb179.ext E180
      have O180 := O179.ext E180
      have KC180 : Keep h0 h180 [] := KC179.ext E180
      have Fn180_40 : Fld Z h180 b180 "com/example/slatewipe/slatewipe/Table" "schema" "Ljava/lang/String;" Value.null := D180 (Or.inr hw40) (ty := (.object "java/lang/String")) (by decide)
      have Fn180_42 : Fld Z h180 b180 "com/example/slatewipe/slatewipe/Table" "name" "Ljava/lang/String;" Value.null := D180 (Or.inr hw42) (ty := (.object "java/lang/String")) (by decide)
      show Go p.tables e below Pf (T180.setTop (mkF m 77 #[vi il, vi ia, vi ib, vi ic, vi id, vi (0 : Int32), vi (0 : Int32), vi q7, vi q8, vi q9, vi q10, vr r_178, vr r_179, .unset, .unset] [(.ref b180)]))
      refine Go.by' (fun t k => (XS.dup X180.here hx rfl (hb hby at_77) rfl rfl (XS.aload X180.here hx rfl (hb hby at_78) rfl rfl (XS.aload X180.here hx rfl (hb hby at_80) rfl rfl k)))) ?_
      obtain ⟨_, _, ⟨T181, L181, k181, n181⟩, -, X181, ⟨Lc181, hQ181, l181, y181, z181⟩, st181⟩ := X180.specialBack hx (y := (⟨"com/example/slatewipe/slatewipe/Table", "<init>", "(Ljava/lang/String;Ljava/lang/String;)V"⟩ : MethodName)) rfl hO179 (mvT hZ179 hw30) (mvT hZ179 hw31) (mvT hZ179 hw32) (by decide) (backOf (W := 1) (rmTab l Z a0 hw [] vcs vfm G b180 r_178 r_179 h180 n0 O180 A180 Fn180_40 Fn180_42 g_b180) hZ179 hw32 hw29 (by decide) (by decide)) (g := (mkF m 82 #[vi il, vi ia, vi ib, vi ic, vi id, vi (0 : Int32), vi (0 : Int32), vi q7, vi q8, vi q9, vi q10, vr r_178, vr r_179, .unset, .unset] [(.ref r_179), (.ref r_178), (.ref b180), (.ref b180)])) rfl (by rw [hml]; rfl) (Steps.refl _) (a := b180) (argsL := [(.ref r_178), (.ref r_179)]) (rest := [(.ref b180)]) (lenOf pd_26 rfl) rfl (by show 2 * 0 + _ ≤ _; exact Nat.le_of_eq rfl) (hb hby at_82) (fun _ _ => ⟨rfl, e180, (by decide : 13 + 0 ≤ _), (by decide : 26 + 0 ≤ _)⟩)
      dsimp only [Pt.U, Pt.locs, Pt.cells, Pt.slots] at X181 l181 y181 z181 st181 hQ181
      subst l181 y181 z181
      obtain ⟨rfl, N181q, K181, f181_0, f181_1, f181_2⟩ := hQ181
      have N181 := Fr.app N179 N181q
      obtain ⟨lc181, X181, N181⟩ := own_pack X181 N181
      refine Go.by' (fun t k => st181.trans k) ?_
      have Sb181 := Sb180.keep K181 (sfS (Safe.ext E180 Sb179.ch Sf_b180) sf0)
      have O181 := O180.keep K181 (allS g_b180 all0)
      have KC181 : Keep h0 T181.heap [] := KC180.trans K181 (allS (Or.inr sz_b180) all0)
      have c183 := (((f178_4.keep K179 nin0).ext E180).keep K181 (ninS (Nat.ne_of_lt (Nat.lt_of_lt_of_le (Nat.lt_of_lt_of_le f178_4.lt K179.1) (Nat.le_of_eq g180.symm))) nin0))
      have c184 := ((f179_4.ext E180).keep K181 (ninS (Nat.ne_of_lt (Nat.lt_of_lt_of_le f179_4.lt (Nat.le_of_eq g180.symm))) nin0))
      have c185 := (((f178_0.keep K179).ext E180).keep K181)
      have c186 := (((f178_2.keep K179 nin0).ext E180).keep K181 (ninS (Nat.ne_of_lt (Nat.lt_of_lt_of_le (Nat.lt_of_lt_of_le f178_0.lt K179.1) (Nat.le_of_eq g180.symm))) nin0))
      have c187 := (((f178_3.keep K179 nin0).ext E180).keep K181 (ninS (Nat.ne_of_lt (Nat.lt_of_lt_of_le (Nat.lt_of_lt_of_le f178_0.lt K179.1) (Nat.le_of_eq g180.symm))) nin0))
      have c188 := ((f179_0.ext E180).keep K181)
      have c189 := ((f179_2.ext E180).keep K181 (ninS (Nat.ne_of_lt (Nat.lt_of_lt_of_le f179_0.lt (Nat.le_of_eq g180.symm))) nin0))
      have c190 := ((f179_3.ext E180).keep K181 (ninS (Nat.ne_of_lt (Nat.lt_of_lt_of_le f179_0.lt (Nat.le_of_eq g180.symm))) nin0))
      obtain ⟨cq182, kq182, q182a, q182b, q182c⟩ := isOf hZ179 rfl f181_0
      obtain ⟨_, _, ⟨T182, L182, k182, n182⟩, -, X182, Si182, Gr182, ⟨Lc182, hQ182, l182, y182, z182, A182⟩, st182⟩ := X181.virtualBackS hx (y := (⟨"com/example/slatewipe/slatewipe/Table", "qualifiedName", "()Ljava/lang/String;"⟩ : MethodName)) (z := (⟨"com/example/slatewipe/slatewipe/Table", "qualifiedName", "()Ljava/lang/String;"⟩ : MethodName)) hO179 (mvT hZ179 hw43) (mvT hZ179 hw44) (notFace_of_selects (args := #[]) (mvT hZ179 hw46)) (mvT hZ179 hw46) (mvT hZ179 hw45) (by decide) (own_backS (W := 0) (rmQN l Z a0 hw [] vcs vfm G b180 r_178 rb_178 kb_178 ((0 : Int32)) ([]) r_179 rb_179 kb_179 ((0 : Int32)) ([]) T181.heap n0 O181 f181_0 f181_1 f181_2 c185 c186 c187 c183 (Or.inl rfl) c188 c189 c190 c184 (Or.inl rfl)) Sb181 hw47 hw29 (by decide) (by decide) hEL all0) q182a q182c (g := (mkF m 85 #[vi il, vi ia, vi ib, vi ic, vi id, vi (0 : Int32), vi (0 : Int32), vi q7, vi q8, vi q9, vi q10, vr r_178, vr r_179, .unset, .unset] [(.ref b180)])) rfl (by rw [hml]; rfl) (Steps.refl _) (argsL := []) (rest := []) (lenOf pd_21 rfl) rfl (by show 2 * 0 + _ ≤ _; exact Nat.le_of_eq rfl) (hb hby at_85) (fun _ _ => ⟨rfl, rfl, (by decide : 13 + 6 ≤ _), (by decide : 26 + 48 ≤ _)⟩)
      dsimp only [Pt.U, Pt.locs, Pt.cells, Pt.slots] at X182 l182 y182 z182 st182 hQ182 Si182 Gr182 A182
      subst l182 y182 z182
      obtain ⟨r_182, rb_182, kb_182, zr_182, vsr_182, rfl, N182q, K182, f182_0, f182_1, f182_2, f182_3, f182_4, f182_5, r182_0, r182_1⟩ := hQ182
      have N182 := Fr.app N181 N182q
      obtain ⟨lc182, X182, N182⟩ := own_pack X182 N182
      replace X182 := own_reb X182
      have Sb182 := Sb181.called Si182 Gr182 A182
      have hZ182 := Sb182.hZ
      have hO182 := Sb182.hO
      refine Go.by' (fun t k => st182.trans k) ?_
      have Sf_r_182 : Safe Z consts_1 T179.vm T181.heap r_182 := Safe.new f182_1
      have g_r_182 : n0 ≤ r_182 := Nat.le_trans (own_le O181) f182_1
      have sz_r_182 : h0.size ≤ r_182 := Nat.le_trans KC181.1 f182_1
      have Sf_rb_182 : Safe Z consts_1 T179.vm T181.heap rb_182 := Safe.new f182_5
      have g_rb_182 : n0 ≤ rb_182 := Nat.le_trans (own_le O181) f182_5
      have sz_rb_182 : h0.size ≤ rb_182 := Nat.le_trans KC181.1 f182_5
      have O182 := O181.keep K182 all0
      have KC182 : Keep h0 T182.heap [] := KC181.trans K182 all0
      obtain rfl : zr_182 = (1 : Int32) := r182_0.trans (by decide)
      obtain rfl : vsr_182 = [(Value.int (46 : Int32))] := r182_1.trans rfl
      show Go p.tables e below Pf (T182.setTop (mkF m 88 #[vi il, vi ia, vi ib, vi ic, vi id, vi (0 : Int32), vi (0 : Int32), vi q7, vi q8, vi q9, vi q10, vr r_178, vr r_179, .unset, .unset] [(.ref r_182)]))
      refine Go.by' (fun t k => (XS.astore X182.here hx rfl (hb hby at_88) rfl rfl (l' := #[vi il, vi ia, vi ib, vi ic, vi id, vi (0 : Int32), vi (0 : Int32), vi q7, vi q8, vi q9, vi q10, vr r_178, vr r_179, vr r_182, .unset]) rfl (XS.iload X182.here hx rfl (hb hby at_90) rfl (XS.iconst X182.here hx rfl (hb hby at_92) (XS.iadd X182.here hx rfl (hb hby at_93) rfl k))))) ?_
      show Go p.tables e below Pf (T182.setTop (mkF m 94 #[vi il, vi ia, vi ib, vi ic, vi id, vi (0 : Int32), vi (0 : Int32), vi q7, vi q8, vi q9, vi q10, vr r_178, vr r_179, vr r_182, .unset] [(.int ((0 : Int32) + (1 : Int32)))]))
      refine Go.castF (a := ((0 : Int32) + (1 : Int32))) (b := (1 : Int32)) (fun z' : Int32 => mkF m 94 #[vi il, vi ia, vi ib, vi ic, vi id, vi (0 : Int32), vi (0 : Int32), vi q7, vi q8, vi q9, vi q10, vr r_178, vr r_179, vr r_182, .unset] [(.int z')]) (by decide) ?_
      show Go p.tables e below Pf (T182.setTop (mkF m 94 #[vi il, vi ia, vi ib, vi ic, vi id, vi (0 : Int32), vi (0 : Int32), vi q7, vi q8, vi q9, vi q10, vr r_178, vr r_179, vr r_182, .unset] [(.int (1 : Int32))]))
      refine Go.by' (fun t k => (XS.iload X182.here hx rfl (hb hby at_94) rfl (XS.iadd X182.here hx rfl (hb hby at_96) rfl k))) ?_
      show Go p.tables e below Pf (T182.setTop (mkF m 97 #[vi il, vi ia, vi ib, vi ic, vi id, vi (0 : Int32), vi (0 : Int32), vi q7, vi q8, vi q9, vi q10, vr r_178, vr r_179, vr r_182, .unset] [(.int ((1 : Int32) + (0 : Int32)))]))
      refine Go.castF (a := ((1 : Int32) + (0 : Int32))) (b := (1 : Int32)) (fun z' : Int32 => mkF m 97 #[vi il, vi ia, vi ib, vi ic, vi id, vi (0 : Int32), vi (0 : Int32), vi q7, vi q8, vi q9, vi q10, vr r_178, vr r_179, vr r_182, .unset] [(.int z')]) (by decide) ?_
      show Go p.tables e below Pf (T182.setTop (mkF m 97 #[vi il, vi ia, vi ib, vi ic, vi id, vi (0 : Int32), vi (0 : Int32), vi q7, vi q8, vi q9, vi q10, vr r_178, vr r_179, vr r_182, .unset] [(.int (1 : Int32))]))
      refine Go.by' (fun t k => (XS.istore X182.here hx rfl (hb hby at_97) rfl (l' := #[vi il, vi ia, vi ib, vi ic, vi id, vi (0 : Int32), vi (0 : Int32), vi q7, vi q8, vi q9, vi q10, vr r_178, vr r_179, vr r_182, vi (1 : Int32)]) rfl (XS.aload X182.here hx rfl (hb hby at_99) rfl rfl (XS.ifnullNo X182.here hx rfl (hb hby at_101) rfl (XS.aload X182.here hx rfl (hb hby at_104) rfl rfl k))))) ?_
      obtain ⟨cq191, kq191, q191a, q191b, q191c⟩ := isOf hZ182 rfl f182_0
      obtain ⟨_, _, ⟨T191, L191, k191, n191⟩, -, X191, ⟨Lc191, hQ191, l191, y191, z191⟩, st191⟩ := X182.virtualBack hx (y := (⟨"java/lang/String", "length", "()I"⟩ : MethodName)) (z := (⟨"java/lang/String", "length", "()I"⟩ : MethodName)) hO182 (mvT hZ182 hw160) (mvT hZ182 hw77) (notFace_of_selects (args := #[]) (mvT hZ182 hw79)) (mvT hZ182 hw79) (mvT hZ182 hw78) (by decide) (backOf (W := 0) (rmLn l Z a0 hw [] vcs vfm G r_182 rb_182 kb_182 ((1 : Int32)) ([(Value.int (46 : Int32))]) T182.heap n0 O182 f182_0 f182_2 f182_3 f182_4) hZ182 hw80 hw7 (by decide) (by decide)) q191a q191c (g := (mkF m 106 #[vi il, vi ia, vi ib, vi ic, vi id, vi (0 : Int32), vi (0 : Int32), vi q7, vi q8, vi q9, vi q10, vr r_178, vr r_179, vr r_182, vi (1 : Int32)] [(.ref r_182)])) rfl (by rw [hml]; rfl) (Steps.refl _) (argsL := []) (rest := []) (lenOf pd_8 rfl) rfl (by show 2 * 0 + _ ≤ _; exact Nat.le_of_eq rfl) (hb hby at_106) (fun _ _ => ⟨rfl, rfl, (by decide : 19 + 0 ≤ _), (by decide : 74 + 0 ≤ _)⟩)
      dsimp only [Pt.U, Pt.locs, Pt.cells, Pt.slots] at X191 l191 y191 z191 st191 hQ191
      subst l191 y191 z191
      obtain ⟨rfl, rfl, e191⟩ := hQ191
      try replace X191 := own_nil X191
      refine Go.by' (fun t k => st191.trans k) ?_
      show Go p.tables e below Pf (T191.setTop (mkF m 109 #[vi il, vi ia, vi ib, vi ic, vi id, vi (0 : Int32), vi (0 : Int32), vi q7, vi q8, vi q9, vi q10, vr r_178, vr r_179, vr r_182, vi (1 : Int32)] [(.int (1 : Int32))]))
      refine Go.by' (fun t k => (XS.iload X191.here hx rfl (hb hby at_109) rfl (XS.icmpYes X191.here hx rfl (pc0 := 111) (pc' := 116) rfl (hb hby at_111) rfl (teq (by decide)).1 (by decide) (by decide) (XS.aload X191.here hx rfl (hb hby at_116) rfl rfl (XS.iconst X191.here hx rfl (hb hby at_118) (XS.iload X191.here hx rfl (hb hby at_119) rfl (XS.iload X191.here hx rfl (hb hby at_121) rfl (XS.iload X191.here hx rfl (hb hby at_123) rfl (XS.iload X191.here hx rfl (hb hby at_125) rfl k))))))))) ?_
      show Go p.tables e below Pf (T191.setTop (mkF m 127 #[vi il, vi ia, vi ib, vi ic, vi id, vi (0 : Int32), vi (0 : Int32), vi q7, vi q8, vi q9, vi q10, vr r_178, vr r_179, vr r_182, vi (1 : Int32)] [(.int q8), (.int q7), (.int (0 : Int32)), (.int (1 : Int32)), (.int (0 : Int32)), (.ref r_182)]))
      refine Go.by' (fun t k => (XS.iload X191.here hx rfl (hb hby at_127) rfl (XS.iload X191.here hx rfl (hb hby at_129) rfl k))) ?_
      obtain ⟨_, _, ⟨T192, L192, k192, n192⟩, -, X192, ⟨Lc192, hQ192, l192, y192, z192⟩, st192⟩ := Jvm.LawKit.callS X191 hx (y := (⟨"com/example/slatewipe/slatewipe/TableQualifiedNamePinLaw", "at", "(Ljava/lang/String;IIICCCC)Z"⟩ : MethodName)) hO182 (mvT hZ182 hw161) (mvT hZ182 hw162) (mvT hZ182 hw3) (mvT hZ182 hw163) (by decide) (backOf (W := 0) (rmAt_00 l Z a0 hw [] vcs vfm G r_182 ((1 : Int32)) q7 q8 q9 q10 rb_182 kb_182 ([(Value.int (46 : Int32))]) ((46 : Int32)) T182.heap n0 O182 f182_0 f182_2 f182_3 f182_4 (by decide) rfl (by decide)) hZ182 hw163 hw3 (by decide) (by decide)) (g := (mkF m 131 #[vi il, vi ia, vi ib, vi ic, vi id, vi (0 : Int32), vi (0 : Int32), vi q7, vi q8, vi q9, vi q10, vr r_178, vr r_179, vr r_182, vi (1 : Int32)] [(.int q10), (.int q9), (.int q8), (.int q7), (.int (0 : Int32)), (.int (1 : Int32)), (.int (0 : Int32)), (.ref r_182)])) rfl (by rw [hml]; rfl) (argsL := [(.ref r_182), (.int (0 : Int32)), (.int (1 : Int32)), (.int (0 : Int32)), (.int q7), (.int q8), (.int q9), (.int q10)]) (rest := []) (lenOf pd_27 rfl) rfl (by show 2 * 0 + _ ≤ _; exact Nat.le_of_eq rfl) (hb hby at_131) (fun _ _ => ⟨rfl, e191, (by decide : 19 + 0 ≤ _), (by decide : 74 + 0 ≤ _)⟩)
      dsimp only [Pt.U, Pt.locs, Pt.cells, Pt.slots] at X192 l192 y192 z192 st192 hQ192
      subst l192 y192 z192
      obtain ⟨rfl, rfl, e192⟩ := hQ192
      try replace X192 := own_nil X192
      refine Go.by' st192 ?_
      show Go p.tables e below Pf (T192.setTop (mkF m 134 #[vi il, vi ia, vi ib, vi ic, vi id, vi (0 : Int32), vi (0 : Int32), vi q7, vi q8, vi q9, vi q10, vr r_178, vr r_179, vr r_182, vi (1 : Int32)] [(.int (1 : Int32))]))
      refine Go.by' (fun t k => (XS.ifNo X192.here hx rfl (hb hby at_134) rfl ((if0 _ _).trans (feq (by decide)).1) (XS.aload X192.here hx rfl (hb hby at_137) rfl rfl (XS.iconst X192.here hx rfl (hb hby at_139) (XS.iload X192.here hx rfl (hb hby at_140) rfl (XS.iload X192.here hx rfl (hb hby at_142) rfl (XS.iload X192.here hx rfl (hb hby at_144) rfl (XS.iload X192.here hx rfl (hb hby at_146) rfl (XS.iload X192.here hx rfl (hb hby at_148) rfl k))))))))) ?_
      show Go p.tables e below Pf (T192.setTop (mkF m 150 #[vi il, vi ia, vi ib, vi ic, vi id, vi (0 : Int32), vi (0 : Int32), vi q7, vi q8, vi q9, vi q10, vr r_178, vr r_179, vr r_182, vi (1 : Int32)] [(.int q9), (.int q8), (.int q7), (.int (0 : Int32)), (.int (1 : Int32)), (.int (1 : Int32)), (.ref r_182)]))
      refine Go.by' (fun t k => (XS.iload X192.here hx rfl (hb hby at_150) rfl k)) ?_
      obtain ⟨_, _, ⟨T193, L193, k193, n193⟩, -, X193, ⟨Lc193, hQ193, l193, y193, z193⟩, st193⟩ := Jvm.LawKit.callS X192 hx (y := (⟨"com/example/slatewipe/slatewipe/TableQualifiedNamePinLaw", "at", "(Ljava/lang/String;IIICCCC)Z"⟩ : MethodName)) hO182 (mvT hZ182 hw161) (mvT hZ182 hw162) (mvT hZ182 hw3) (mvT hZ182 hw163) (by decide) (backOf (W := 0) (rmAT_1 l Z a0 hw [] vcs vfm G r_182 ((1 : Int32)) ((0 : Int32)) q7 q8 q9 q10 T182.heap n0 O182 (by decide)) hZ182 hw163 hw3 (by decide) (by decide)) (g := (mkF m 152 #[vi il, vi ia, vi ib, vi ic, vi id, vi (0 : Int32), vi (0 : Int32), vi q7, vi q8, vi q9, vi q10, vr r_178, vr r_179, vr r_182, vi (1 : Int32)] [(.int q10), (.int q9), (.int q8), (.int q7), (.int (0 : Int32)), (.int (1 : Int32)), (.int (1 : Int32)), (.ref r_182)])) rfl (by rw [hml]; rfl) (argsL := [(.ref r_182), (.int (1 : Int32)), (.int (1 : Int32)), (.int (0 : Int32)), (.int q7), (.int q8), (.int q9), (.int q10)]) (rest := []) (lenOf pd_27 rfl) rfl (by show 2 * 0 + _ ≤ _; exact Nat.le_of_eq rfl) (hb hby at_152) (fun _ _ => ⟨rfl, e192, (by decide : 19 + 0 ≤ _), (by decide : 74 + 0 ≤ _)⟩)
      dsimp only [Pt.U, Pt.locs, Pt.cells, Pt.slots] at X193 l193 y193 z193 st193 hQ193
      subst l193 y193 z193
      obtain ⟨rfl, rfl, e193⟩ := hQ193
      try replace X193 := own_nil X193
      refine Go.by' st193 ?_
      show Go p.tables e below Pf (T193.setTop (mkF m 155 #[vi il, vi ia, vi ib, vi ic, vi id, vi (0 : Int32), vi (0 : Int32), vi q7, vi q8, vi q9, vi q10, vr r_178, vr r_179, vr r_182, vi (1 : Int32)] [(.int (1 : Int32))]))
      refine Go.by' (fun t k => (XS.ifNo X193.here hx rfl (hb hby at_155) rfl ((if0 _ _).trans (feq (by decide)).1) (XS.aload X193.here hx rfl (hb hby at_158) rfl rfl (XS.iconst X193.here hx rfl (hb hby at_160) (XS.iload X193.here hx rfl (hb hby at_161) rfl (XS.iload X193.here hx rfl (hb hby at_163) rfl (XS.iload X193.here hx rfl (hb hby at_165) rfl (XS.iload X193.here hx rfl (hb hby at_167) rfl (XS.iload X193.here hx rfl (hb hby at_169) rfl k))))))))) ?_
      show Go p.tables e below Pf (T193.setTop (mkF m 171 #[vi il, vi ia, vi ib, vi ic, vi id, vi (0 : Int32), vi (0 : Int32), vi q7, vi q8, vi q9, vi q10, vr r_178, vr r_179, vr r_182, vi (1 : Int32)] [(.int q9), (.int q8), (.int q7), (.int (0 : Int32)), (.int (1 : Int32)), (.int (2 : Int32)), (.ref r_182)]))
      refine Go.by' (fun t k => (XS.iload X193.here hx rfl (hb hby at_171) rfl k)) ?_
      obtain ⟨_, _, ⟨T194, L194, k194, n194⟩, -, X194, ⟨Lc194, hQ194, l194, y194, z194⟩, st194⟩ := Jvm.LawKit.callS X193 hx (y := (⟨"com/example/slatewipe/slatewipe/TableQualifiedNamePinLaw", "at", "(Ljava/lang/String;IIICCCC)Z"⟩ : MethodName)) hO182 (mvT hZ182 hw161) (mvT hZ182 hw162) (mvT hZ182 hw3) (mvT hZ182 hw163) (by decide) (backOf (W := 0) (rmAT_2 l Z a0 hw [] vcs vfm G r_182 ((1 : Int32)) ((0 : Int32)) q7 q8 q9 q10 T182.heap n0 O182 (by decide)) hZ182 hw163 hw3 (by decide) (by decide)) (g := (mkF m 173 #[vi il, vi ia, vi ib, vi ic, vi id, vi (0 : Int32), vi (0 : Int32), vi q7, vi q8, vi q9, vi q10, vr r_178, vr r_179, vr r_182, vi (1 : Int32)] [(.int q10), (.int q9), (.int q8), (.int q7), (.int (0 : Int32)), (.int (1 : Int32)), (.int (2 : Int32)), (.ref r_182)])) rfl (by rw [hml]; rfl) (argsL := [(.ref r_182), (.int (2 : Int32)), (.int (1 : Int32)), (.int (0 : Int32)), (.int q7), (.int q8), (.int q9), (.int q10)]) (rest := []) (lenOf pd_27 rfl) rfl (by show 2 * 0 + _ ≤ _; exact Nat.le_of_eq rfl) (hb hby at_173) (fun _ _ => ⟨rfl, e193, (by decide : 19 + 0 ≤ _), (by decide : 74 + 0 ≤ _)⟩)
      dsimp only [Pt.U, Pt.locs, Pt.cells, Pt.slots] at X194 l194 y194 z194 st194 hQ194
      subst l194 y194 z194
      obtain ⟨rfl, rfl, e194⟩ := hQ194
      try replace X194 := own_nil X194
      refine Go.by' st194 ?_
      show Go p.tables e below Pf (T194.setTop (mkF m 176 #[vi il, vi ia, vi ib, vi ic, vi id, vi (0 : Int32), vi (0 : Int32), vi q7, vi q8, vi q9, vi q10, vr r_178, vr r_179, vr r_182, vi (1 : Int32)] [(.int (1 : Int32))]))
      refine Go.by' (fun t k => (XS.ifNo X194.here hx rfl (hb hby at_176) rfl ((if0 _ _).trans (feq (by decide)).1) (XS.aload X194.here hx rfl (hb hby at_179) rfl rfl (XS.iconst X194.here hx rfl (hb hby at_181) (XS.iload X194.here hx rfl (hb hby at_182) rfl (XS.iload X194.here hx rfl (hb hby at_184) rfl (XS.iload X194.here hx rfl (hb hby at_186) rfl (XS.iload X194.here hx rfl (hb hby at_188) rfl (XS.iload X194.here hx rfl (hb hby at_190) rfl k))))))))) ?_
      show Go p.tables e below Pf (T194.setTop (mkF m 192 #[vi il, vi ia, vi ib, vi ic, vi id, vi (0 : Int32), vi (0 : Int32), vi q7, vi q8, vi q9, vi q10, vr r_178, vr r_179, vr r_182, vi (1 : Int32)] [(.int q9), (.int q8), (.int q7), (.int (0 : Int32)), (.int (1 : Int32)), (.int (3 : Int32)), (.ref r_182)]))
      refine Go.by' (fun t k => (XS.iload X194.here hx rfl (hb hby at_192) rfl k)) ?_
      obtain ⟨_, _, ⟨T195, L195, k195, n195⟩, -, X195, ⟨Lc195, hQ195, l195, y195, z195⟩, st195⟩ := Jvm.LawKit.callS X194 hx (y := (⟨"com/example/slatewipe/slatewipe/TableQualifiedNamePinLaw", "at", "(Ljava/lang/String;IIICCCC)Z"⟩ : MethodName)) hO182 (mvT hZ182 hw161) (mvT hZ182 hw162) (mvT hZ182 hw3) (mvT hZ182 hw163) (by decide) (backOf (W := 0) (rmAT_3 l Z a0 hw [] vcs vfm G r_182 ((1 : Int32)) ((0 : Int32)) q7 q8 q9 q10 T182.heap n0 O182 (by decide)) hZ182 hw163 hw3 (by decide) (by decide)) (g := (mkF m 194 #[vi il, vi ia, vi ib, vi ic, vi id, vi (0 : Int32), vi (0 : Int32), vi q7, vi q8, vi q9, vi q10, vr r_178, vr r_179, vr r_182, vi (1 : Int32)] [(.int q10), (.int q9), (.int q8), (.int q7), (.int (0 : Int32)), (.int (1 : Int32)), (.int (3 : Int32)), (.ref r_182)])) rfl (by rw [hml]; rfl) (argsL := [(.ref r_182), (.int (3 : Int32)), (.int (1 : Int32)), (.int (0 : Int32)), (.int q7), (.int q8), (.int q9), (.int q10)]) (rest := []) (lenOf pd_27 rfl) rfl (by show 2 * 0 + _ ≤ _; exact Nat.le_of_eq rfl) (hb hby at_194) (fun _ _ => ⟨rfl, e194, (by decide : 19 + 0 ≤ _), (by decide : 74 + 0 ≤ _)⟩)
      dsimp only [Pt.U, Pt.locs, Pt.cells, Pt.slots] at X195 l195 y195 z195 st195 hQ195
      subst l195 y195 z195
      obtain ⟨rfl, rfl, e195⟩ := hQ195
      try replace X195 := own_nil X195
      refine Go.by' st195 ?_
      show Go p.tables e below Pf (T195.setTop (mkF m 197 #[vi il, vi ia, vi ib, vi ic, vi id, vi (0 : Int32), vi (0 : Int32), vi q7, vi q8, vi q9, vi q10, vr r_178, vr r_179, vr r_182, vi (1 : Int32)] [(.int (1 : Int32))]))
      refine Go.by' (fun t k => (XS.ifNo X195.here hx rfl (hb hby at_197) rfl ((if0 _ _).trans (feq (by decide)).1) (XS.aload X195.here hx rfl (hb hby at_200) rfl rfl (XS.iconst X195.here hx rfl (hb hby at_202) (XS.iload X195.here hx rfl (hb hby at_203) rfl (XS.iload X195.here hx rfl (hb hby at_205) rfl (XS.iload X195.here hx rfl (hb hby at_207) rfl (XS.iload X195.here hx rfl (hb hby at_209) rfl (XS.iload X195.here hx rfl (hb hby at_211) rfl k))))))))) ?_
      show Go p.tables e below Pf (T195.setTop (mkF m 213 #[vi il, vi ia, vi ib, vi ic, vi id, vi (0 : Int32), vi (0 : Int32), vi q7, vi q8, vi q9, vi q10, vr r_178, vr r_179, vr r_182, vi (1 : Int32)] [(.int q9), (.int q8), (.int q7), (.int (0 : Int32)), (.int (1 : Int32)), (.int (4 : Int32)), (.ref r_182)]))
      refine Go.by' (fun t k => (XS.iload X195.here hx rfl (hb hby at_213) rfl k)) ?_
      obtain ⟨_, _, ⟨T196, L196, k196, n196⟩, -, X196, ⟨Lc196, hQ196, l196, y196, z196⟩, st196⟩ := Jvm.LawKit.callS X195 hx (y := (⟨"com/example/slatewipe/slatewipe/TableQualifiedNamePinLaw", "at", "(Ljava/lang/String;IIICCCC)Z"⟩ : MethodName)) hO182 (mvT hZ182 hw161) (mvT hZ182 hw162) (mvT hZ182 hw3) (mvT hZ182 hw163) (by decide) (backOf (W := 0) (rmAT_4 l Z a0 hw [] vcs vfm G r_182 ((1 : Int32)) ((0 : Int32)) q7 q8 q9 q10 T182.heap n0 O182 (by decide)) hZ182 hw163 hw3 (by decide) (by decide)) (g := (mkF m 215 #[vi il, vi ia, vi ib, vi ic, vi id, vi (0 : Int32), vi (0 : Int32), vi q7, vi q8, vi q9, vi q10, vr r_178, vr r_179, vr r_182, vi (1 : Int32)] [(.int q10), (.int q9), (.int q8), (.int q7), (.int (0 : Int32)), (.int (1 : Int32)), (.int (4 : Int32)), (.ref r_182)])) rfl (by rw [hml]; rfl) (argsL := [(.ref r_182), (.int (4 : Int32)), (.int (1 : Int32)), (.int (0 : Int32)), (.int q7), (.int q8), (.int q9), (.int q10)]) (rest := []) (lenOf pd_27 rfl) rfl (by show 2 * 0 + _ ≤ _; exact Nat.le_of_eq rfl) (hb hby at_215) (fun _ _ => ⟨rfl, e195, (by decide : 19 + 0 ≤ _), (by decide : 74 + 0 ≤ _)⟩)
      dsimp only [Pt.U, Pt.locs, Pt.cells, Pt.slots] at X196 l196 y196 z196 st196 hQ196
      subst l196 y196 z196
      obtain ⟨rfl, rfl, e196⟩ := hQ196
      try replace X196 := own_nil X196
      refine Go.by' st196 ?_
      show Go p.tables e below Pf (T196.setTop (mkF m 218 #[vi il, vi ia, vi ib, vi ic, vi id, vi (0 : Int32), vi (0 : Int32), vi q7, vi q8, vi q9, vi q10, vr r_178, vr r_179, vr r_182, vi (1 : Int32)] [(.int (1 : Int32))]))
      refine Go.by' (fun t k => (XS.ifNo X196.here hx rfl (hb hby at_218) rfl ((if0 _ _).trans (feq (by decide)).1) (XS.iconst X196.here hx rfl (hb hby at_221) (XS.goto X196.here hx rfl (pc0 := 222) (pc' := 226) rfl (hb hby at_222) (by decide) (by decide) k)))) ?_
      show Go p.tables e below Pf (T196.setTop (mkF m 226 #[vi il, vi ia, vi ib, vi ic, vi id, vi (0 : Int32), vi (0 : Int32), vi q7, vi q8, vi q9, vi q10, vr r_178, vr r_179, vr r_182, vi (1 : Int32)] [(.int (1 : Int32))]))
      rw [hPf]
      exact Go.retIS X196 hx hEL Sb182 e196 hh hret hlk (by simp) rfl (hb hby at_226) (by decide) (by decide) ⟨rfl, N182, (by rw [e196]; exact KC182)⟩
    · refine Go.castF (a := ((((il.toUInt32 >>> ((8 : Int32) &&& 31).toUInt32).toInt32) &&& (2147483647 : Int32)) % (3 : Int32))) (b := (1 : Int32)) (fun z' : Int32 => mkF m 52 #[vi il, vi ia, vi ib, vi ic, vi id, vi (0 : Int32), vi z', vi q7, vi q8, vi q9, vi q10, .unset, .unset, .unset, .unset] []) (hm) ?_
      show Go p.tables e below Pf (s₁.setTop (mkF m 52 #[vi il, vi ia, vi ib, vi ic, vi id, vi (0 : Int32), vi (1 : Int32), vi q7, vi q8, vi q9, vi q10, .unset, .unset, .unset, .unset] []))
      refine Go.by' (fun t k => (XS.iload X0.here hx rfl (hb hby at_52) rfl (XS.iload X0.here hx rfl (hb hby at_54) rfl (XS.iload X0.here hx rfl (hb hby at_56) rfl k)))) ?_
      obtain ⟨_, _, ⟨T197, L197, k197, n197⟩, -, X197, Si197, Gr197, ⟨Lc197, hQ197, l197, y197, z197, A197⟩, st197⟩ := callSS X0 hx (y := (⟨"com/example/slatewipe/slatewipe/TableQualifiedNamePinLaw", "make", "(ICC)Ljava/lang/String;"⟩ : MethodName)) hown (mvT hZ hw1) (mvT hZ hw2) (mvT hZ hw3) (mvT hZ hw4) (by decide) (own_backS (W := 0) (rmMk_0 l Z a0 hw [] vcs vfm G q7 q8 h0 n0 O0 ) Sb0 hw4 hw3 (by decide) (by decide) hEL all0) (g := (mkF m 58 #[vi il, vi ia, vi ib, vi ic, vi id, vi (0 : Int32), vi (1 : Int32), vi q7, vi q8, vi q9, vi q10, .unset, .unset, .unset, .unset] [(.int q8), (.int q7), (.int (0 : Int32))])) rfl (by rw [hml]; rfl) (argsL := [(.int (0 : Int32)), (.int q7), (.int q8)]) (rest := []) (lenOf pd_25 rfl) rfl (by show 2 * 0 + _ ≤ _; exact Nat.le_of_eq rfl) (hb hby at_58) (fun _ _ => ⟨rfl, e0, (by decide : 0 + 6 ≤ _), (by decide : 0 + 12 ≤ _)⟩)
      dsimp only [Pt.U, Pt.locs, Pt.cells, Pt.slots] at X197 l197 y197 z197 st197 hQ197 Si197 Gr197 A197
      subst l197 y197 z197
      obtain ⟨r_197, rb_197, kb_197, rfl, N197q, K197, f197_0, f197_1, f197_2, f197_3, f197_4⟩ := hQ197
      have N197 := Fr.app N0 N197q
      obtain ⟨lc197, X197, N197⟩ := own_pack X197 N197
      replace X197 := own_reb X197
      have Sb197 := Sb0.called Si197 (by rw [← e0]; exact Gr197) A197
      have hZ197 := Sb197.hZ
      have hO197 := Sb197.hO
      refine Go.by' (fun t k => st197.trans k) ?_
      have Sf_r_197 : Safe Z consts_1 s.vm h0 r_197 := Safe.new f197_1
      have g_r_197 : n0 ≤ r_197 := Nat.le_trans (own_le O0) f197_1
      have sz_r_197 : h0.size ≤ r_197 := Nat.le_trans KC0.1 f197_1
      have O197 := O0.keep K197 all0
      have KC197 : Keep h0 T197.heap [] := KC0.trans K197 all0
      show Go p.tables e below Pf (T197.setTop (mkF m 61 #[vi il, vi ia, vi ib, vi ic, vi id, vi (0 : Int32), vi (1 : Int32), vi q7, vi q8, vi q9, vi q10, .unset, .unset, .unset, .unset] [(.ref r_197)]))
      refine Go.by' (fun t k => (XS.astore X197.here hx rfl (hb hby at_61) rfl rfl (l' := #[vi il, vi ia, vi ib, vi ic, vi id, vi (0 : Int32), vi (1 : Int32), vi q7, vi q8, vi q9, vi q10, vr r_197, .unset, .unset, .unset]) rfl (XS.iload X197.here hx rfl (hb hby at_63) rfl (XS.iload X197.here hx rfl (hb hby at_65) rfl (XS.iload X197.here hx rfl (hb hby at_67) rfl k))))) ?_
      obtain ⟨_, _, ⟨T198, L198, k198, n198⟩, -, X198, ⟨Lc198, hQ198, l198, y198, z198⟩, st198⟩ := Jvm.LawKit.callS X197 hx (y := (⟨"com/example/slatewipe/slatewipe/TableQualifiedNamePinLaw", "make", "(ICC)Ljava/lang/String;"⟩ : MethodName)) hO197 (mvT hZ197 hw1) (mvT hZ197 hw2) (mvT hZ197 hw3) (mvT hZ197 hw4) (by decide) (backOf (W := 0) (rmMk_1 l Z a0 hw [] vcs vfm G q9 q10 T197.heap n0 O197 bd9.1 bd9.2) hZ197 hw4 hw3 (by decide) (by decide)) (g := (mkF m 69 #[vi il, vi ia, vi ib, vi ic, vi id, vi (0 : Int32), vi (1 : Int32), vi q7, vi q8, vi q9, vi q10, vr r_197, .unset, .unset, .unset] [(.int q10), (.int q9), (.int (1 : Int32))])) rfl (by rw [hml]; rfl) (argsL := [(.int (1 : Int32)), (.int q9), (.int q10)]) (rest := []) (lenOf pd_25 rfl) rfl (by show 2 * 0 + _ ≤ _; exact Nat.le_of_eq rfl) (hb hby at_69) (fun _ _ => ⟨rfl, rfl, (by decide : 6 + 3 ≤ _), (by decide : 12 + 6 ≤ _)⟩)
      dsimp only [Pt.U, Pt.locs, Pt.cells, Pt.slots] at X198 l198 y198 z198 st198 hQ198
      subst l198 y198 z198
      obtain ⟨r_198, rb_198, kb_198, rfl, N198q, K198, f198_0, f198_1, f198_2, f198_3, f198_4, f198_5⟩ := hQ198
      have N198 := Fr.app N197 N198q
      obtain ⟨lc198, X198, N198⟩ := own_pack X198 N198
      refine Go.by' st198 ?_
      have Sf_r_198 : Safe Z consts_1 T197.vm T197.heap r_198 := Safe.new f198_1
      have g_r_198 : n0 ≤ r_198 := Nat.le_trans (own_le O197) f198_1
      have sz_r_198 : h0.size ≤ r_198 := Nat.le_trans KC197.1 f198_1
      have Sf_rb_198 : Safe Z consts_1 T197.vm T197.heap rb_198 := Safe.new f198_5
      have g_rb_198 : n0 ≤ rb_198 := Nat.le_trans (own_le O197) f198_5
      have sz_rb_198 : h0.size ≤ rb_198 := Nat.le_trans KC197.1 f198_5
      have Sb198 := Sb197.keep K198 sf0
      have O198 := O197.keep K198 all0
      have KC198 : Keep h0 T198.heap [] := KC197.trans K198 all0
      show Go p.tables e below Pf (T198.setTop (mkF m 72 #[vi il, vi ia, vi ib, vi ic, vi id, vi (0 : Int32), vi (1 : Int32), vi q7, vi q8, vi q9, vi q10, vr r_197, .unset, .unset, .unset] [(.ref r_198)]))
      refine Go.by' (fun t k => (XS.astore X198.here hx rfl (hb hby at_72) rfl rfl (l' := #[vi il, vi ia, vi ib, vi ic, vi id, vi (0 : Int32), vi (1 : Int32), vi q7, vi q8, vi q9, vi q10, vr r_197, vr r_198, .unset, .unset]) rfl k)) ?_
      obtain ⟨T199, h199, X199, e199, E199, A199, D199, -, st199⟩ := newO X198 hx hZ197 hO197 hw27 hw28 hw29 rfl (g := (mkF m 74 #[vi il, vi ia, vi ib, vi ic, vi id, vi (0 : Int32), vi (1 : Int32), vi q7, vi q8, vi q9, vi q10, vr r_197, vr r_198, .unset, .unset] [])) rfl (hb hby at_74) (by decide) (by decide)
      obtain ⟨b199, g199⟩ : ∃ z, z = T198.heap.size := ⟨_, rfl⟩
      rw [← g199] at A199 D199 st199
      refine Go.by' st199 ?_
      have Sf_b199 : Safe Z consts_1 T197.vm T198.heap b199 := Safe.new (Nat.le_of_eq g199.symm)
      have g_b199 : n0 ≤ b199 := Nat.le_trans (own_le O198) (Nat.le_of_eq g199.symm)
      have sz_b199 : h0.size ≤ b199 := Nat.le_trans KC198.1 (Nat.le_of_eq g199.symm)
      have Sb199 := Sb198.ext E199
      have O199 := O198.ext E199
      have KC199 : Keep h0 h199 [] := KC198.ext E199
      have Fn199_40 : Fld Z h199 b199 "com/example/slatewipe/slatewipe/Table" "schema" "Ljava/lang/String;" Value.null := D199 (Or.inr hw40) (ty := (.object "java/lang/String")) (by decide)
      have Fn199_42 : Fld Z h199 b199 "com/example/slatewipe/slatewipe/Table" "name" "Ljava/lang/String;" Value.null := D199 (Or.inr hw42) (ty := (.object "java/lang/String")) (by decide)
      show Go p.tables e below Pf (T199.setTop (mkF m 77 #[vi il, vi ia, vi ib, vi ic, vi id, vi (0 : Int32), vi (1 : Int32), vi q7, vi q8, vi q9, vi q10, vr r_197, vr r_198, .unset, .unset] [(.ref b199)]))
      refine Go.by' (fun t k => (XS.dup X199.here hx rfl (hb hby at_77) rfl rfl (XS.aload X199.here hx rfl (hb hby at_78) rfl rfl (XS.aload X199.here hx rfl (hb hby at_80) rfl rfl k)))) ?_
      obtain ⟨_, _, ⟨T200, L200, k200, n200⟩, -, X200, ⟨Lc200, hQ200, l200, y200, z200⟩, st200⟩ := X199.specialBack hx (y := (⟨"com/example/slatewipe/slatewipe/Table", "<init>", "(Ljava/lang/String;Ljava/lang/String;)V"⟩ : MethodName)) rfl hO197 (mvT hZ197 hw30) (mvT hZ197 hw31) (mvT hZ197 hw32) (by decide) (backOf (W := 1) (rmTab l Z a0 hw [] vcs vfm G b199 r_197 r_198 h199 n0 O199 A199 Fn199_40 Fn199_42 g_b199) hZ197 hw32 hw29 (by decide) (by decide)) (g := (mkF m 82 #[vi il, vi ia, vi ib, vi ic, vi id, vi (0 : Int32), vi (1 : Int32), vi q7, vi q8, vi q9, vi q10, vr r_197, vr r_198, .unset, .unset] [(.ref r_198), (.ref r_197), (.ref b199), (.ref b199)])) rfl (by rw [hml]; rfl) (Steps.refl _) (a := b199) (argsL := [(.ref r_197), (.ref r_198)]) (rest := [(.ref b199)]) (lenOf pd_26 rfl) rfl (by show 2 * 0 + _ ≤ _; exact Nat.le_of_eq rfl) (hb hby at_82) (fun _ _ => ⟨rfl, e199, (by decide : 10 + 0 ≤ _), (by decide : 20 + 0 ≤ _)⟩)
      dsimp only [Pt.U, Pt.locs, Pt.cells, Pt.slots] at X200 l200 y200 z200 st200 hQ200
      subst l200 y200 z200
      obtain ⟨rfl, N200q, K200, f200_0, f200_1, f200_2⟩ := hQ200
      have N200 := Fr.app N198 N200q
      obtain ⟨lc200, X200, N200⟩ := own_pack X200 N200
      refine Go.by' (fun t k => st200.trans k) ?_
      have Sb200 := Sb199.keep K200 (sfS (Safe.ext E199 Sb198.ch Sf_b199) sf0)
      have O200 := O199.keep K200 (allS g_b199 all0)
      have KC200 : Keep h0 T200.heap [] := KC199.trans K200 (allS (Or.inr sz_b199) all0)
      have c202 := (((f197_4.keep K198 nin0).ext E199).keep K200 (ninS (Nat.ne_of_lt (Nat.lt_of_lt_of_le (Nat.lt_of_lt_of_le f197_4.lt K198.1) (Nat.le_of_eq g199.symm))) nin0))
      have c203 := ((f198_4.ext E199).keep K200 (ninS (Nat.ne_of_lt (Nat.lt_of_lt_of_le f198_4.lt (Nat.le_of_eq g199.symm))) nin0))
      have c204 := (((f197_0.keep K198).ext E199).keep K200)
      have c205 := (((f197_2.keep K198 nin0).ext E199).keep K200 (ninS (Nat.ne_of_lt (Nat.lt_of_lt_of_le (Nat.lt_of_lt_of_le f197_0.lt K198.1) (Nat.le_of_eq g199.symm))) nin0))
      have c206 := (((f197_3.keep K198 nin0).ext E199).keep K200 (ninS (Nat.ne_of_lt (Nat.lt_of_lt_of_le (Nat.lt_of_lt_of_le f197_0.lt K198.1) (Nat.le_of_eq g199.symm))) nin0))
      have c207 := ((f198_0.ext E199).keep K200)
      have c208 := ((f198_2.ext E199).keep K200 (ninS (Nat.ne_of_lt (Nat.lt_of_lt_of_le f198_0.lt (Nat.le_of_eq g199.symm))) nin0))
      have c209 := ((f198_3.ext E199).keep K200 (ninS (Nat.ne_of_lt (Nat.lt_of_lt_of_le f198_0.lt (Nat.le_of_eq g199.symm))) nin0))
      obtain ⟨cq201, kq201, q201a, q201b, q201c⟩ := isOf hZ197 rfl f200_0
      obtain ⟨_, _, ⟨T201, L201, k201, n201⟩, -, X201, Si201, Gr201, ⟨Lc201, hQ201, l201, y201, z201, A201⟩, st201⟩ := X200.virtualBackS hx (y := (⟨"com/example/slatewipe/slatewipe/Table", "qualifiedName", "()Ljava/lang/String;"⟩ : MethodName)) (z := (⟨"com/example/slatewipe/slatewipe/Table", "qualifiedName", "()Ljava/lang/String;"⟩ : MethodName)) hO197 (mvT hZ197 hw43) (mvT hZ197 hw44) (notFace_of_selects (args := #[]) (mvT hZ197 hw46)) (mvT hZ197 hw46) (mvT hZ197 hw45) (by decide) (own_backS (W := 0) (rmQN l Z a0 hw [] vcs vfm G b199 r_197 rb_197 kb_197 ((0 : Int32)) ([]) r_198 rb_198 kb_198 ((1 : Int32)) ([(Value.int (q9.toInt8.toInt32))]) T200.heap n0 O200 f200_0 f200_1 f200_2 c204 c205 c206 c202 (Or.inl rfl) c207 c208 c209 c203 (Or.inr (Or.inl rfl))) Sb200 hw47 hw29 (by decide) (by decide) hEL all0) q201a q201c (g := (mkF m 85 #[vi il, vi ia, vi ib, vi ic, vi id, vi (0 : Int32), vi (1 : Int32), vi q7, vi q8, vi q9, vi q10, vr r_197, vr r_198, .unset, .unset] [(.ref b199)])) rfl (by rw [hml]; rfl) (Steps.refl _) (argsL := []) (rest := []) (lenOf pd_21 rfl) rfl (by show 2 * 0 + _ ≤ _; exact Nat.le_of_eq rfl) (hb hby at_85) (fun _ _ => ⟨rfl, rfl, (by decide : 10 + 6 ≤ _), (by decide : 20 + 48 ≤ _)⟩)
      dsimp only [Pt.U, Pt.locs, Pt.cells, Pt.slots] at X201 l201 y201 z201 st201 hQ201 Si201 Gr201 A201
      subst l201 y201 z201
      obtain ⟨r_201, rb_201, kb_201, zr_201, vsr_201, rfl, N201q, K201, f201_0, f201_1, f201_2, f201_3, f201_4, f201_5, r201_0, r201_1⟩ := hQ201
      have N201 := Fr.app N200 N201q
      obtain ⟨lc201, X201, N201⟩ := own_pack X201 N201
      replace X201 := own_reb X201
      have Sb201 := Sb200.called Si201 Gr201 A201
      have hZ201 := Sb201.hZ
      have hO201 := Sb201.hO
      refine Go.by' (fun t k => st201.trans k) ?_
      have Sf_r_201 : Safe Z consts_1 T197.vm T200.heap r_201 := Safe.new f201_1
      have g_r_201 : n0 ≤ r_201 := Nat.le_trans (own_le O200) f201_1
      have sz_r_201 : h0.size ≤ r_201 := Nat.le_trans KC200.1 f201_1
      have Sf_rb_201 : Safe Z consts_1 T197.vm T200.heap rb_201 := Safe.new f201_5
      have g_rb_201 : n0 ≤ rb_201 := Nat.le_trans (own_le O200) f201_5
      have sz_rb_201 : h0.size ≤ rb_201 := Nat.le_trans KC200.1 f201_5
      have O201 := O200.keep K201 all0
      have KC201 : Keep h0 T201.heap [] := KC200.trans K201 all0
      obtain rfl : zr_201 = (2 : Int32) := r201_0.trans (by decide)
      obtain rfl : vsr_201 = [(Value.int (46 : Int32)), (Value.int (q9.toInt8.toInt32))] := r201_1.trans rfl
      show Go p.tables e below Pf (T201.setTop (mkF m 88 #[vi il, vi ia, vi ib, vi ic, vi id, vi (0 : Int32), vi (1 : Int32), vi q7, vi q8, vi q9, vi q10, vr r_197, vr r_198, .unset, .unset] [(.ref r_201)]))
      refine Go.by' (fun t k => (XS.astore X201.here hx rfl (hb hby at_88) rfl rfl (l' := #[vi il, vi ia, vi ib, vi ic, vi id, vi (0 : Int32), vi (1 : Int32), vi q7, vi q8, vi q9, vi q10, vr r_197, vr r_198, vr r_201, .unset]) rfl (XS.iload X201.here hx rfl (hb hby at_90) rfl (XS.iconst X201.here hx rfl (hb hby at_92) (XS.iadd X201.here hx rfl (hb hby at_93) rfl k))))) ?_
      show Go p.tables e below Pf (T201.setTop (mkF m 94 #[vi il, vi ia, vi ib, vi ic, vi id, vi (0 : Int32), vi (1 : Int32), vi q7, vi q8, vi q9, vi q10, vr r_197, vr r_198, vr r_201, .unset] [(.int ((0 : Int32) + (1 : Int32)))]))
      refine Go.castF (a := ((0 : Int32) + (1 : Int32))) (b := (1 : Int32)) (fun z' : Int32 => mkF m 94 #[vi il, vi ia, vi ib, vi ic, vi id, vi (0 : Int32), vi (1 : Int32), vi q7, vi q8, vi q9, vi q10, vr r_197, vr r_198, vr r_201, .unset] [(.int z')]) (by decide) ?_
      show Go p.tables e below Pf (T201.setTop (mkF m 94 #[vi il, vi ia, vi ib, vi ic, vi id, vi (0 : Int32), vi (1 : Int32), vi q7, vi q8, vi q9, vi q10, vr r_197, vr r_198, vr r_201, .unset] [(.int (1 : Int32))]))
      refine Go.by' (fun t k => (XS.iload X201.here hx rfl (hb hby at_94) rfl (XS.iadd X201.here hx rfl (hb hby at_96) rfl k))) ?_
      show Go p.tables e below Pf (T201.setTop (mkF m 97 #[vi il, vi ia, vi ib, vi ic, vi id, vi (0 : Int32), vi (1 : Int32), vi q7, vi q8, vi q9, vi q10, vr r_197, vr r_198, vr r_201, .unset] [(.int ((1 : Int32) + (1 : Int32)))]))
      refine Go.castF (a := ((1 : Int32) + (1 : Int32))) (b := (2 : Int32)) (fun z' : Int32 => mkF m 97 #[vi il, vi ia, vi ib, vi ic, vi id, vi (0 : Int32), vi (1 : Int32), vi q7, vi q8, vi q9, vi q10, vr r_197, vr r_198, vr r_201, .unset] [(.int z')]) (by decide) ?_
      show Go p.tables e below Pf (T201.setTop (mkF m 97 #[vi il, vi ia, vi ib, vi ic, vi id, vi (0 : Int32), vi (1 : Int32), vi q7, vi q8, vi q9, vi q10, vr r_197, vr r_198, vr r_201, .unset] [(.int (2 : Int32))]))
      refine Go.by' (fun t k => (XS.istore X201.here hx rfl (hb hby at_97) rfl (l' := #[vi il, vi ia, vi ib, vi ic, vi id, vi (0 : Int32), vi (1 : Int32), vi q7, vi q8, vi q9, vi q10, vr r_197, vr r_198, vr r_201, vi (2 : Int32)]) rfl (XS.aload X201.here hx rfl (hb hby at_99) rfl rfl (XS.ifnullNo X201.here hx rfl (hb hby at_101) rfl (XS.aload X201.here hx rfl (hb hby at_104) rfl rfl k))))) ?_
      obtain ⟨cq210, kq210, q210a, q210b, q210c⟩ := isOf hZ201 rfl f201_0
      obtain ⟨_, _, ⟨T210, L210, k210, n210⟩, -, X210, ⟨Lc210, hQ210, l210, y210, z210⟩, st210⟩ := X201.virtualBack hx (y := (⟨"java/lang/String", "length", "()I"⟩ : MethodName)) (z := (⟨"java/lang/String", "length", "()I"⟩ : MethodName)) hO201 (mvT hZ201 hw160) (mvT hZ201 hw77) (notFace_of_selects (args := #[]) (mvT hZ201 hw79)) (mvT hZ201 hw79) (mvT hZ201 hw78) (by decide) (backOf (W := 0) (rmLn l Z a0 hw [] vcs vfm G r_201 rb_201 kb_201 ((2 : Int32)) ([(Value.int (46 : Int32)), (Value.int (q9.toInt8.toInt32))]) T201.heap n0 O201 f201_0 f201_2 f201_3 f201_4) hZ201 hw80 hw7 (by decide) (by decide)) q210a q210c (g := (mkF m 106 #[vi il, vi ia, vi ib, vi ic, vi id, vi (0 : Int32), vi (1 : Int32), vi q7, vi q8, vi q9, vi q10, vr r_197, vr r_198, vr r_201, vi (2 : Int32)] [(.ref r_201)])) rfl (by rw [hml]; rfl) (Steps.refl _) (argsL := []) (rest := []) (lenOf pd_8 rfl) rfl (by show 2 * 0 + _ ≤ _; exact Nat.le_of_eq rfl) (hb hby at_106) (fun _ _ => ⟨rfl, rfl, (by decide : 16 + 0 ≤ _), (by decide : 68 + 0 ≤ _)⟩)
      dsimp only [Pt.U, Pt.locs, Pt.cells, Pt.slots] at X210 l210 y210 z210 st210 hQ210
      subst l210 y210 z210
      obtain ⟨rfl, rfl, e210⟩ := hQ210
      try replace X210 := own_nil X210
      refine Go.by' (fun t k => st210.trans k) ?_
      show Go p.tables e below Pf (T210.setTop (mkF m 109 #[vi il, vi ia, vi ib, vi ic, vi id, vi (0 : Int32), vi (1 : Int32), vi q7, vi q8, vi q9, vi q10, vr r_197, vr r_198, vr r_201, vi (2 : Int32)] [(.int (2 : Int32))]))
      refine Go.by' (fun t k => (XS.iload X210.here hx rfl (hb hby at_109) rfl (XS.icmpYes X210.here hx rfl (pc0 := 111) (pc' := 116) rfl (hb hby at_111) rfl (teq (by decide)).1 (by decide) (by decide) (XS.aload X210.here hx rfl (hb hby at_116) rfl rfl (XS.iconst X210.here hx rfl (hb hby at_118) (XS.iload X210.here hx rfl (hb hby at_119) rfl (XS.iload X210.here hx rfl (hb hby at_121) rfl (XS.iload X210.here hx rfl (hb hby at_123) rfl (XS.iload X210.here hx rfl (hb hby at_125) rfl k))))))))) ?_
      show Go p.tables e below Pf (T210.setTop (mkF m 127 #[vi il, vi ia, vi ib, vi ic, vi id, vi (0 : Int32), vi (1 : Int32), vi q7, vi q8, vi q9, vi q10, vr r_197, vr r_198, vr r_201, vi (2 : Int32)] [(.int q8), (.int q7), (.int (0 : Int32)), (.int (2 : Int32)), (.int (0 : Int32)), (.ref r_201)]))
      refine Go.by' (fun t k => (XS.iload X210.here hx rfl (hb hby at_127) rfl (XS.iload X210.here hx rfl (hb hby at_129) rfl k))) ?_
      obtain ⟨_, _, ⟨T211, L211, k211, n211⟩, -, X211, ⟨Lc211, hQ211, l211, y211, z211⟩, st211⟩ := Jvm.LawKit.callS X210 hx (y := (⟨"com/example/slatewipe/slatewipe/TableQualifiedNamePinLaw", "at", "(Ljava/lang/String;IIICCCC)Z"⟩ : MethodName)) hO201 (mvT hZ201 hw161) (mvT hZ201 hw162) (mvT hZ201 hw3) (mvT hZ201 hw163) (by decide) (backOf (W := 0) (rmAt_00 l Z a0 hw [] vcs vfm G r_201 ((2 : Int32)) q7 q8 q9 q10 rb_201 kb_201 ([(Value.int (46 : Int32)), (Value.int (q9.toInt8.toInt32))]) ((46 : Int32)) T201.heap n0 O201 f201_0 f201_2 f201_3 f201_4 (by decide) rfl (by decide)) hZ201 hw163 hw3 (by decide) (by decide)) (g := (mkF m 131 #[vi il, vi ia, vi ib, vi ic, vi id, vi (0 : Int32), vi (1 : Int32), vi q7, vi q8, vi q9, vi q10, vr r_197, vr r_198, vr r_201, vi (2 : Int32)] [(.int q10), (.int q9), (.int q8), (.int q7), (.int (0 : Int32)), (.int (2 : Int32)), (.int (0 : Int32)), (.ref r_201)])) rfl (by rw [hml]; rfl) (argsL := [(.ref r_201), (.int (0 : Int32)), (.int (2 : Int32)), (.int (0 : Int32)), (.int q7), (.int q8), (.int q9), (.int q10)]) (rest := []) (lenOf pd_27 rfl) rfl (by show 2 * 0 + _ ≤ _; exact Nat.le_of_eq rfl) (hb hby at_131) (fun _ _ => ⟨rfl, e210, (by decide : 16 + 0 ≤ _), (by decide : 68 + 0 ≤ _)⟩)
      dsimp only [Pt.U, Pt.locs, Pt.cells, Pt.slots] at X211 l211 y211 z211 st211 hQ211
      subst l211 y211 z211
      obtain ⟨rfl, rfl, e211⟩ := hQ211
      try replace X211 := own_nil X211
      refine Go.by' st211 ?_
      show Go p.tables e below Pf (T211.setTop (mkF m 134 #[vi il, vi ia, vi ib, vi ic, vi id, vi (0 : Int32), vi (1 : Int32), vi q7, vi q8, vi q9, vi q10, vr r_197, vr r_198, vr r_201, vi (2 : Int32)] [(.int (1 : Int32))]))
      refine Go.by' (fun t k => (XS.ifNo X211.here hx rfl (hb hby at_134) rfl ((if0 _ _).trans (feq (by decide)).1) (XS.aload X211.here hx rfl (hb hby at_137) rfl rfl (XS.iconst X211.here hx rfl (hb hby at_139) (XS.iload X211.here hx rfl (hb hby at_140) rfl (XS.iload X211.here hx rfl (hb hby at_142) rfl (XS.iload X211.here hx rfl (hb hby at_144) rfl (XS.iload X211.here hx rfl (hb hby at_146) rfl (XS.iload X211.here hx rfl (hb hby at_148) rfl k))))))))) ?_
      show Go p.tables e below Pf (T211.setTop (mkF m 150 #[vi il, vi ia, vi ib, vi ic, vi id, vi (0 : Int32), vi (1 : Int32), vi q7, vi q8, vi q9, vi q10, vr r_197, vr r_198, vr r_201, vi (2 : Int32)] [(.int q9), (.int q8), (.int q7), (.int (0 : Int32)), (.int (2 : Int32)), (.int (1 : Int32)), (.ref r_201)]))
      refine Go.by' (fun t k => (XS.iload X211.here hx rfl (hb hby at_150) rfl k)) ?_
      obtain ⟨_, _, ⟨T212, L212, k212, n212⟩, -, X212, ⟨Lc212, hQ212, l212, y212, z212⟩, st212⟩ := Jvm.LawKit.callS X211 hx (y := (⟨"com/example/slatewipe/slatewipe/TableQualifiedNamePinLaw", "at", "(Ljava/lang/String;IIICCCC)Z"⟩ : MethodName)) hO201 (mvT hZ201 hw161) (mvT hZ201 hw162) (mvT hZ201 hw3) (mvT hZ201 hw163) (by decide) (backOf (W := 0) (rmAt_01 l Z a0 hw [] vcs vfm G r_201 ((2 : Int32)) q7 q8 q9 q10 rb_201 kb_201 ([(Value.int (46 : Int32)), (Value.int (q9.toInt8.toInt32))]) ((q9.toInt8.toInt32)) T201.heap n0 O201 f201_0 f201_2 f201_3 f201_4 (by decide) rfl (own_u8 bd9)) hZ201 hw163 hw3 (by decide) (by decide)) (g := (mkF m 152 #[vi il, vi ia, vi ib, vi ic, vi id, vi (0 : Int32), vi (1 : Int32), vi q7, vi q8, vi q9, vi q10, vr r_197, vr r_198, vr r_201, vi (2 : Int32)] [(.int q10), (.int q9), (.int q8), (.int q7), (.int (0 : Int32)), (.int (2 : Int32)), (.int (1 : Int32)), (.ref r_201)])) rfl (by rw [hml]; rfl) (argsL := [(.ref r_201), (.int (1 : Int32)), (.int (2 : Int32)), (.int (0 : Int32)), (.int q7), (.int q8), (.int q9), (.int q10)]) (rest := []) (lenOf pd_27 rfl) rfl (by show 2 * 0 + _ ≤ _; exact Nat.le_of_eq rfl) (hb hby at_152) (fun _ _ => ⟨rfl, e211, (by decide : 16 + 0 ≤ _), (by decide : 68 + 0 ≤ _)⟩)
      dsimp only [Pt.U, Pt.locs, Pt.cells, Pt.slots] at X212 l212 y212 z212 st212 hQ212
      subst l212 y212 z212
      obtain ⟨rfl, rfl, e212⟩ := hQ212
      try replace X212 := own_nil X212
      refine Go.by' st212 ?_
      show Go p.tables e below Pf (T212.setTop (mkF m 155 #[vi il, vi ia, vi ib, vi ic, vi id, vi (0 : Int32), vi (1 : Int32), vi q7, vi q8, vi q9, vi q10, vr r_197, vr r_198, vr r_201, vi (2 : Int32)] [(.int (1 : Int32))]))
      refine Go.by' (fun t k => (XS.ifNo X212.here hx rfl (hb hby at_155) rfl ((if0 _ _).trans (feq (by decide)).1) (XS.aload X212.here hx rfl (hb hby at_158) rfl rfl (XS.iconst X212.here hx rfl (hb hby at_160) (XS.iload X212.here hx rfl (hb hby at_161) rfl (XS.iload X212.here hx rfl (hb hby at_163) rfl (XS.iload X212.here hx rfl (hb hby at_165) rfl (XS.iload X212.here hx rfl (hb hby at_167) rfl (XS.iload X212.here hx rfl (hb hby at_169) rfl k))))))))) ?_
      show Go p.tables e below Pf (T212.setTop (mkF m 171 #[vi il, vi ia, vi ib, vi ic, vi id, vi (0 : Int32), vi (1 : Int32), vi q7, vi q8, vi q9, vi q10, vr r_197, vr r_198, vr r_201, vi (2 : Int32)] [(.int q9), (.int q8), (.int q7), (.int (0 : Int32)), (.int (2 : Int32)), (.int (2 : Int32)), (.ref r_201)]))
      refine Go.by' (fun t k => (XS.iload X212.here hx rfl (hb hby at_171) rfl k)) ?_
      obtain ⟨_, _, ⟨T213, L213, k213, n213⟩, -, X213, ⟨Lc213, hQ213, l213, y213, z213⟩, st213⟩ := Jvm.LawKit.callS X212 hx (y := (⟨"com/example/slatewipe/slatewipe/TableQualifiedNamePinLaw", "at", "(Ljava/lang/String;IIICCCC)Z"⟩ : MethodName)) hO201 (mvT hZ201 hw161) (mvT hZ201 hw162) (mvT hZ201 hw3) (mvT hZ201 hw163) (by decide) (backOf (W := 0) (rmAT_2 l Z a0 hw [] vcs vfm G r_201 ((2 : Int32)) ((0 : Int32)) q7 q8 q9 q10 T201.heap n0 O201 (by decide)) hZ201 hw163 hw3 (by decide) (by decide)) (g := (mkF m 173 #[vi il, vi ia, vi ib, vi ic, vi id, vi (0 : Int32), vi (1 : Int32), vi q7, vi q8, vi q9, vi q10, vr r_197, vr r_198, vr r_201, vi (2 : Int32)] [(.int q10), (.int q9), (.int q8), (.int q7), (.int (0 : Int32)), (.int (2 : Int32)), (.int (2 : Int32)), (.ref r_201)])) rfl (by rw [hml]; rfl) (argsL := [(.ref r_201), (.int (2 : Int32)), (.int (2 : Int32)), (.int (0 : Int32)), (.int q7), (.int q8), (.int q9), (.int q10)]) (rest := []) (lenOf pd_27 rfl) rfl (by show 2 * 0 + _ ≤ _; exact Nat.le_of_eq rfl) (hb hby at_173) (fun _ _ => ⟨rfl, e212, (by decide : 16 + 0 ≤ _), (by decide : 68 + 0 ≤ _)⟩)
      dsimp only [Pt.U, Pt.locs, Pt.cells, Pt.slots] at X213 l213 y213 z213 st213 hQ213
      subst l213 y213 z213
      obtain ⟨rfl, rfl, e213⟩ := hQ213
      try replace X213 := own_nil X213
      refine Go.by' st213 ?_
      show Go p.tables e below Pf (T213.setTop (mkF m 176 #[vi il, vi ia, vi ib, vi ic, vi id, vi (0 : Int32), vi (1 : Int32), vi q7, vi q8, vi q9, vi q10, vr r_197, vr r_198, vr r_201, vi (2 : Int32)] [(.int (1 : Int32))]))
      refine Go.by' (fun t k => (XS.ifNo X213.here hx rfl (hb hby at_176) rfl ((if0 _ _).trans (feq (by decide)).1) (XS.aload X213.here hx rfl (hb hby at_179) rfl rfl (XS.iconst X213.here hx rfl (hb hby at_181) (XS.iload X213.here hx rfl (hb hby at_182) rfl (XS.iload X213.here hx rfl (hb hby at_184) rfl (XS.iload X213.here hx rfl (hb hby at_186) rfl (XS.iload X213.here hx rfl (hb hby at_188) rfl (XS.iload X213.here hx rfl (hb hby at_190) rfl k))))))))) ?_
      show Go p.tables e below Pf (T213.setTop (mkF m 192 #[vi il, vi ia, vi ib, vi ic, vi id, vi (0 : Int32), vi (1 : Int32), vi q7, vi q8, vi q9, vi q10, vr r_197, vr r_198, vr r_201, vi (2 : Int32)] [(.int q9), (.int q8), (.int q7), (.int (0 : Int32)), (.int (2 : Int32)), (.int (3 : Int32)), (.ref r_201)]))
      refine Go.by' (fun t k => (XS.iload X213.here hx rfl (hb hby at_192) rfl k)) ?_
      obtain ⟨_, _, ⟨T214, L214, k214, n214⟩, -, X214, ⟨Lc214, hQ214, l214, y214, z214⟩, st214⟩ := Jvm.LawKit.callS X213 hx (y := (⟨"com/example/slatewipe/slatewipe/TableQualifiedNamePinLaw", "at", "(Ljava/lang/String;IIICCCC)Z"⟩ : MethodName)) hO201 (mvT hZ201 hw161) (mvT hZ201 hw162) (mvT hZ201 hw3) (mvT hZ201 hw163) (by decide) (backOf (W := 0) (rmAT_3 l Z a0 hw [] vcs vfm G r_201 ((2 : Int32)) ((0 : Int32)) q7 q8 q9 q10 T201.heap n0 O201 (by decide)) hZ201 hw163 hw3 (by decide) (by decide)) (g := (mkF m 194 #[vi il, vi ia, vi ib, vi ic, vi id, vi (0 : Int32), vi (1 : Int32), vi q7, vi q8, vi q9, vi q10, vr r_197, vr r_198, vr r_201, vi (2 : Int32)] [(.int q10), (.int q9), (.int q8), (.int q7), (.int (0 : Int32)), (.int (2 : Int32)), (.int (3 : Int32)), (.ref r_201)])) rfl (by rw [hml]; rfl) (argsL := [(.ref r_201), (.int (3 : Int32)), (.int (2 : Int32)), (.int (0 : Int32)), (.int q7), (.int q8), (.int q9), (.int q10)]) (rest := []) (lenOf pd_27 rfl) rfl (by show 2 * 0 + _ ≤ _; exact Nat.le_of_eq rfl) (hb hby at_194) (fun _ _ => ⟨rfl, e213, (by decide : 16 + 0 ≤ _), (by decide : 68 + 0 ≤ _)⟩)
      dsimp only [Pt.U, Pt.locs, Pt.cells, Pt.slots] at X214 l214 y214 z214 st214 hQ214
      subst l214 y214 z214
      obtain ⟨rfl, rfl, e214⟩ := hQ214
      try replace X214 := own_nil X214
      refine Go.by' st214 ?_
      show Go p.tables e below Pf (T214.setTop (mkF m 197 #[vi il, vi ia, vi ib, vi ic, vi id, vi (0 : Int32), vi (1 : Int32), vi q7, vi q8, vi q9, vi q10, vr r_197, vr r_198, vr r_201, vi (2 : Int32)] [(.int (1 : Int32))]))
      refine Go.by' (fun t k => (XS.ifNo X214.here hx rfl (hb hby at_197) rfl ((if0 _ _).trans (feq (by decide)).1) (XS.aload X214.here hx rfl (hb hby at_200) rfl rfl (XS.iconst X214.here hx rfl (hb hby at_202) (XS.iload X214.here hx rfl (hb hby at_203) rfl (XS.iload X214.here hx rfl (hb hby at_205) rfl (XS.iload X214.here hx rfl (hb hby at_207) rfl (XS.iload X214.here hx rfl (hb hby at_209) rfl (XS.iload X214.here hx rfl (hb hby at_211) rfl k))))))))) ?_
      show Go p.tables e below Pf (T214.setTop (mkF m 213 #[vi il, vi ia, vi ib, vi ic, vi id, vi (0 : Int32), vi (1 : Int32), vi q7, vi q8, vi q9, vi q10, vr r_197, vr r_198, vr r_201, vi (2 : Int32)] [(.int q9), (.int q8), (.int q7), (.int (0 : Int32)), (.int (2 : Int32)), (.int (4 : Int32)), (.ref r_201)]))
      refine Go.by' (fun t k => (XS.iload X214.here hx rfl (hb hby at_213) rfl k)) ?_
      obtain ⟨_, _, ⟨T215, L215, k215, n215⟩, -, X215, ⟨Lc215, hQ215, l215, y215, z215⟩, st215⟩ := Jvm.LawKit.callS X214 hx (y := (⟨"com/example/slatewipe/slatewipe/TableQualifiedNamePinLaw", "at", "(Ljava/lang/String;IIICCCC)Z"⟩ : MethodName)) hO201 (mvT hZ201 hw161) (mvT hZ201 hw162) (mvT hZ201 hw3) (mvT hZ201 hw163) (by decide) (backOf (W := 0) (rmAT_4 l Z a0 hw [] vcs vfm G r_201 ((2 : Int32)) ((0 : Int32)) q7 q8 q9 q10 T201.heap n0 O201 (by decide)) hZ201 hw163 hw3 (by decide) (by decide)) (g := (mkF m 215 #[vi il, vi ia, vi ib, vi ic, vi id, vi (0 : Int32), vi (1 : Int32), vi q7, vi q8, vi q9, vi q10, vr r_197, vr r_198, vr r_201, vi (2 : Int32)] [(.int q10), (.int q9), (.int q8), (.int q7), (.int (0 : Int32)), (.int (2 : Int32)), (.int (4 : Int32)), (.ref r_201)])) rfl (by rw [hml]; rfl) (argsL := [(.ref r_201), (.int (4 : Int32)), (.int (2 : Int32)), (.int (0 : Int32)), (.int q7), (.int q8), (.int q9), (.int q10)]) (rest := []) (lenOf pd_27 rfl) rfl (by show 2 * 0 + _ ≤ _; exact Nat.le_of_eq rfl) (hb hby at_215) (fun _ _ => ⟨rfl, e214, (by decide : 16 + 0 ≤ _), (by decide : 68 + 0 ≤ _)⟩)
      dsimp only [Pt.U, Pt.locs, Pt.cells, Pt.slots] at X215 l215 y215 z215 st215 hQ215
      subst l215 y215 z215
      obtain ⟨rfl, rfl, e215⟩ := hQ215
      try replace X215 := own_nil X215
      refine Go.by' st215 ?_
      show Go p.tables e below Pf (T215.setTop (mkF m 218 #[vi il, vi ia, vi ib, vi ic, vi id, vi (0 : Int32), vi (1 : Int32), vi q7, vi q8, vi q9, vi q10, vr r_197, vr r_198, vr r_201, vi (2 : Int32)] [(.int (1 : Int32))]))
      refine Go.by' (fun t k => (XS.ifNo X215.here hx rfl (hb hby at_218) rfl ((if0 _ _).trans (feq (by decide)).1) (XS.iconst X215.here hx rfl (hb hby at_221) (XS.goto X215.here hx rfl (pc0 := 222) (pc' := 226) rfl (hb hby at_222) (by decide) (by decide) k)))) ?_
      show Go p.tables e below Pf (T215.setTop (mkF m 226 #[vi il, vi ia, vi ib, vi ic, vi id, vi (0 : Int32), vi (1 : Int32), vi q7, vi q8, vi q9, vi q10, vr r_197, vr r_198, vr r_201, vi (2 : Int32)] [(.int (1 : Int32))]))
      rw [hPf]
      exact Go.retIS X215 hx hEL Sb201 e215 hh hret hlk (by simp) rfl (hb hby at_226) (by decide) (by decide) ⟨rfl, N201, (by rw [e215]; exact KC201)⟩
    · refine Go.castF (a := ((((il.toUInt32 >>> ((8 : Int32) &&& 31).toUInt32).toInt32) &&& (2147483647 : Int32)) % (3 : Int32))) (b := (2 : Int32)) (fun z' : Int32 => mkF m 52 #[vi il, vi ia, vi ib, vi ic, vi id, vi (0 : Int32), vi z', vi q7, vi q8, vi q9, vi q10, .unset, .unset, .unset, .unset] []) (hm) ?_
      show Go p.tables e below Pf (s₁.setTop (mkF m 52 #[vi il, vi ia, vi ib, vi ic, vi id, vi (0 : Int32), vi (2 : Int32), vi q7, vi q8, vi q9, vi q10, .unset, .unset, .unset, .unset] []))
      refine Go.by' (fun t k => (XS.iload X0.here hx rfl (hb hby at_52) rfl (XS.iload X0.here hx rfl (hb hby at_54) rfl (XS.iload X0.here hx rfl (hb hby at_56) rfl k)))) ?_
      obtain ⟨_, _, ⟨T216, L216, k216, n216⟩, -, X216, Si216, Gr216, ⟨Lc216, hQ216, l216, y216, z216, A216⟩, st216⟩ := callSS X0 hx (y := (⟨"com/example/slatewipe/slatewipe/TableQualifiedNamePinLaw", "make", "(ICC)Ljava/lang/String;"⟩ : MethodName)) hown (mvT hZ hw1) (mvT hZ hw2) (mvT hZ hw3) (mvT hZ hw4) (by decide) (own_backS (W := 0) (rmMk_0 l Z a0 hw [] vcs vfm G q7 q8 h0 n0 O0 ) Sb0 hw4 hw3 (by decide) (by decide) hEL all0) (g := (mkF m 58 #[vi il, vi ia, vi ib, vi ic, vi id, vi (0 : Int32), vi (2 : Int32), vi q7, vi q8, vi q9, vi q10, .unset, .unset, .unset, .unset] [(.int q8), (.int q7), (.int (0 : Int32))])) rfl (by rw [hml]; rfl) (argsL := [(.int (0 : Int32)), (.int q7), (.int q8)]) (rest := []) (lenOf pd_25 rfl) rfl (by show 2 * 0 + _ ≤ _; exact Nat.le_of_eq rfl) (hb hby at_58) (fun _ _ => ⟨rfl, e0, (by decide : 0 + 6 ≤ _), (by decide : 0 + 12 ≤ _)⟩)
      dsimp only [Pt.U, Pt.locs, Pt.cells, Pt.slots] at X216 l216 y216 z216 st216 hQ216 Si216 Gr216 A216
      subst l216 y216 z216
      obtain ⟨r_216, rb_216, kb_216, rfl, N216q, K216, f216_0, f216_1, f216_2, f216_3, f216_4⟩ := hQ216
      have N216 := Fr.app N0 N216q
      obtain ⟨lc216, X216, N216⟩ := own_pack X216 N216
      replace X216 := own_reb X216
      have Sb216 := Sb0.called Si216 (by rw [← e0]; exact Gr216) A216
      have hZ216 := Sb216.hZ
      have hO216 := Sb216.hO
      refine Go.by' (fun t k => st216.trans k) ?_
      have Sf_r_216 : Safe Z consts_1 s.vm h0 r_216 := Safe.new f216_1
      have g_r_216 : n0 ≤ r_216 := Nat.le_trans (own_le O0) f216_1
      have sz_r_216 : h0.size ≤ r_216 := Nat.le_trans KC0.1 f216_1
      have O216 := O0.keep K216 all0
      have KC216 : Keep h0 T216.heap [] := KC0.trans K216 all0
      show Go p.tables e below Pf (T216.setTop (mkF m 61 #[vi il, vi ia, vi ib, vi ic, vi id, vi (0 : Int32), vi (2 : Int32), vi q7, vi q8, vi q9, vi q10, .unset, .unset, .unset, .unset] [(.ref r_216)]))
      refine Go.by' (fun t k => (XS.astore X216.here hx rfl (hb hby at_61) rfl rfl (l' := #[vi il, vi ia, vi ib, vi ic, vi id, vi (0 : Int32), vi (2 : Int32), vi q7, vi q8, vi q9, vi q10, vr r_216, .unset, .unset, .unset]) rfl (XS.iload X216.here hx rfl (hb hby at_63) rfl (XS.iload X216.here hx rfl (hb hby at_65) rfl (XS.iload X216.here hx rfl (hb hby at_67) rfl k))))) ?_
      obtain ⟨_, _, ⟨T217, L217, k217, n217⟩, -, X217, ⟨Lc217, hQ217, l217, y217, z217⟩, st217⟩ := Jvm.LawKit.callS X216 hx (y := (⟨"com/example/slatewipe/slatewipe/TableQualifiedNamePinLaw", "make", "(ICC)Ljava/lang/String;"⟩ : MethodName)) hO216 (mvT hZ216 hw1) (mvT hZ216 hw2) (mvT hZ216 hw3) (mvT hZ216 hw4) (by decide) (backOf (W := 0) (rmMk_2 l Z a0 hw [] vcs vfm G q9 q10 T216.heap n0 O216 bd9.1 bd9.2 bd10.1 bd10.2) hZ216 hw4 hw3 (by decide) (by decide)) (g := (mkF m 69 #[vi il, vi ia, vi ib, vi ic, vi id, vi (0 : Int32), vi (2 : Int32), vi q7, vi q8, vi q9, vi q10, vr r_216, .unset, .unset, .unset] [(.int q10), (.int q9), (.int (2 : Int32))])) rfl (by rw [hml]; rfl) (argsL := [(.int (2 : Int32)), (.int q9), (.int q10)]) (rest := []) (lenOf pd_25 rfl) rfl (by show 2 * 0 + _ ≤ _; exact Nat.le_of_eq rfl) (hb hby at_69) (fun _ _ => ⟨rfl, rfl, (by decide : 6 + 3 ≤ _), (by decide : 12 + 8 ≤ _)⟩)
      dsimp only [Pt.U, Pt.locs, Pt.cells, Pt.slots] at X217 l217 y217 z217 st217 hQ217
      subst l217 y217 z217
      obtain ⟨r_217, rb_217, kb_217, rfl, N217q, K217, f217_0, f217_1, f217_2, f217_3, f217_4, f217_5⟩ := hQ217
      have N217 := Fr.app N216 N217q
      obtain ⟨lc217, X217, N217⟩ := own_pack X217 N217
      refine Go.by' st217 ?_
      have Sf_r_217 : Safe Z consts_1 T216.vm T216.heap r_217 := Safe.new f217_1
      have g_r_217 : n0 ≤ r_217 := Nat.le_trans (own_le O216) f217_1
      have sz_r_217 : h0.size ≤ r_217 := Nat.le_trans KC216.1 f217_1
      have Sf_rb_217 : Safe Z consts_1 T216.vm T216.heap rb_217 := Safe.new f217_5
      have g_rb_217 : n0 ≤ rb_217 := Nat.le_trans (own_le O216) f217_5
      have sz_rb_217 : h0.size ≤ rb_217 := Nat.le_trans KC216.1 f217_5
      have Sb217 := Sb216.keep K217 sf0
      have O217 := O216.keep K217 all0
      have KC217 : Keep h0 T217.heap [] := KC216.trans K217 all0
      show Go p.tables e below Pf (T217.setTop (mkF m 72 #[vi il, vi ia, vi ib, vi ic, vi id, vi (0 : Int32), vi (2 : Int32), vi q7, vi q8, vi q9, vi q10, vr r_216, .unset, .unset, .unset] [(.ref r_217)]))
      refine Go.by' (fun t k => (XS.astore X217.here hx rfl (hb hby at_72) rfl rfl (l' := #[vi il, vi ia, vi ib, vi ic, vi id, vi (0 : Int32), vi (2 : Int32), vi q7, vi q8, vi q9, vi q10, vr r_216, vr r_217, .unset, .unset]) rfl k)) ?_
      obtain ⟨T218, h218, X218, e218, E218, A218, D218, -, st218⟩ := newO X217 hx hZ216 hO216 hw27 hw28 hw29 rfl (g := (mkF m 74 #[vi il, vi ia, vi ib, vi ic, vi id, vi (0 : Int32), vi (2 : Int32), vi q7, vi q8, vi q9, vi q10, vr r_216, vr r_217, .unset, .unset] [])) rfl (hb hby at_74) (by decide) (by decide)
      obtain ⟨b218, g218⟩ : ∃ z, z = T217.heap.size := ⟨_, rfl⟩
      rw [← g218] at A218 D218 st218
      refine Go.by' st218 ?_
      have Sf_b218 : Safe Z consts_1 T216.vm T217.heap b218 := Safe.new (Nat.le_of_eq g218.symm)
      have g_b218 : n0 ≤ b218 := Nat.le_trans (own_le O217) (Nat.le_of_eq g218.symm)
      have sz_b218 : h0.size ≤ b218 := Nat.le_trans KC217.1 (Nat.le_of_eq g218.symm)
      have Sb218 := Sb217.ext E218
      have O218 := O217.ext E218
      have KC218 : Keep h0 h218 [] := KC217.ext E218
      have Fn218_40 : Fld Z h218 b218 "com/example/slatewipe/slatewipe/Table" "schema" "Ljava/lang/String;" Value.null := D218 (Or.inr hw40) (ty := (.object "java/lang/String")) (by decide)
      have Fn218_42 : Fld Z h218 b218 "com/example/slatewipe/slatewipe/Table" "name" "Ljava/lang/String;" Value.null := D218 (Or.inr hw42) (ty := (.object "java/lang/String")) (by decide)
      show Go p.tables e below Pf (T218.setTop (mkF m 77 #[vi il, vi ia, vi ib, vi ic, vi id, vi (0 : Int32), vi (2 : Int32), vi q7, vi q8, vi q9, vi q10, vr r_216, vr r_217, .unset, .unset] [(.ref b218)]))
      refine Go.by' (fun t k => (XS.dup X218.here hx rfl (hb hby at_77) rfl rfl (XS.aload X218.here hx rfl (hb hby at_78) rfl rfl (XS.aload X218.here hx rfl (hb hby at_80) rfl rfl k)))) ?_
      obtain ⟨_, _, ⟨T219, L219, k219, n219⟩, -, X219, ⟨Lc219, hQ219, l219, y219, z219⟩, st219⟩ := X218.specialBack hx (y := (⟨"com/example/slatewipe/slatewipe/Table", "<init>", "(Ljava/lang/String;Ljava/lang/String;)V"⟩ : MethodName)) rfl hO216 (mvT hZ216 hw30) (mvT hZ216 hw31) (mvT hZ216 hw32) (by decide) (backOf (W := 1) (rmTab l Z a0 hw [] vcs vfm G b218 r_216 r_217 h218 n0 O218 A218 Fn218_40 Fn218_42 g_b218) hZ216 hw32 hw29 (by decide) (by decide)) (g := (mkF m 82 #[vi il, vi ia, vi ib, vi ic, vi id, vi (0 : Int32), vi (2 : Int32), vi q7, vi q8, vi q9, vi q10, vr r_216, vr r_217, .unset, .unset] [(.ref r_217), (.ref r_216), (.ref b218), (.ref b218)])) rfl (by rw [hml]; rfl) (Steps.refl _) (a := b218) (argsL := [(.ref r_216), (.ref r_217)]) (rest := [(.ref b218)]) (lenOf pd_26 rfl) rfl (by show 2 * 0 + _ ≤ _; exact Nat.le_of_eq rfl) (hb hby at_82) (fun _ _ => ⟨rfl, e218, (by decide : 10 + 0 ≤ _), (by decide : 22 + 0 ≤ _)⟩)
      dsimp only [Pt.U, Pt.locs, Pt.cells, Pt.slots] at X219 l219 y219 z219 st219 hQ219
      subst l219 y219 z219
      obtain ⟨rfl, N219q, K219, f219_0, f219_1, f219_2⟩ := hQ219
      have N219 := Fr.app N217 N219q
      obtain ⟨lc219, X219, N219⟩ := own_pack X219 N219
      refine Go.by' (fun t k => st219.trans k) ?_
      have Sb219 := Sb218.keep K219 (sfS (Safe.ext E218 Sb217.ch Sf_b218) sf0)
      have O219 := O218.keep K219 (allS g_b218 all0)
      have KC219 : Keep h0 T219.heap [] := KC218.trans K219 (allS (Or.inr sz_b218) all0)
      have c221 := (((f216_4.keep K217 nin0).ext E218).keep K219 (ninS (Nat.ne_of_lt (Nat.lt_of_lt_of_le (Nat.lt_of_lt_of_le f216_4.lt K217.1) (Nat.le_of_eq g218.symm))) nin0))
      have c222 := ((f217_4.ext E218).keep K219 (ninS (Nat.ne_of_lt (Nat.lt_of_lt_of_le f217_4.lt (Nat.le_of_eq g218.symm))) nin0))
      have c223 := (((f216_0.keep K217).ext E218).keep K219)
      have c224 := (((f216_2.keep K217 nin0).ext E218).keep K219 (ninS (Nat.ne_of_lt (Nat.lt_of_lt_of_le (Nat.lt_of_lt_of_le f216_0.lt K217.1) (Nat.le_of_eq g218.symm))) nin0))
      have c225 := (((f216_3.keep K217 nin0).ext E218).keep K219 (ninS (Nat.ne_of_lt (Nat.lt_of_lt_of_le (Nat.lt_of_lt_of_le f216_0.lt K217.1) (Nat.le_of_eq g218.symm))) nin0))
      have c226 := ((f217_0.ext E218).keep K219)
      have c227 := ((f217_2.ext E218).keep K219 (ninS (Nat.ne_of_lt (Nat.lt_of_lt_of_le f217_0.lt (Nat.le_of_eq g218.symm))) nin0))
      have c228 := ((f217_3.ext E218).keep K219 (ninS (Nat.ne_of_lt (Nat.lt_of_lt_of_le f217_0.lt (Nat.le_of_eq g218.symm))) nin0))
      obtain ⟨cq220, kq220, q220a, q220b, q220c⟩ := isOf hZ216 rfl f219_0
      obtain ⟨_, _, ⟨T220, L220, k220, n220⟩, -, X220, Si220, Gr220, ⟨Lc220, hQ220, l220, y220, z220, A220⟩, st220⟩ := X219.virtualBackS hx (y := (⟨"com/example/slatewipe/slatewipe/Table", "qualifiedName", "()Ljava/lang/String;"⟩ : MethodName)) (z := (⟨"com/example/slatewipe/slatewipe/Table", "qualifiedName", "()Ljava/lang/String;"⟩ : MethodName)) hO216 (mvT hZ216 hw43) (mvT hZ216 hw44) (notFace_of_selects (args := #[]) (mvT hZ216 hw46)) (mvT hZ216 hw46) (mvT hZ216 hw45) (by decide) (own_backS (W := 0) (rmQN l Z a0 hw [] vcs vfm G b218 r_216 rb_216 kb_216 ((0 : Int32)) ([]) r_217 rb_217 kb_217 ((2 : Int32)) ([(Value.int (q9.toInt8.toInt32)), (Value.int (q10.toInt8.toInt32))]) T219.heap n0 O219 f219_0 f219_1 f219_2 c223 c224 c225 c221 (Or.inl rfl) c226 c227 c228 c222 (Or.inr (Or.inr rfl))) Sb219 hw47 hw29 (by decide) (by decide) hEL all0) q220a q220c (g := (mkF m 85 #[vi il, vi ia, vi ib, vi ic, vi id, vi (0 : Int32), vi (2 : Int32), vi q7, vi q8, vi q9, vi q10, vr r_216, vr r_217, .unset, .unset] [(.ref b218)])) rfl (by rw [hml]; rfl) (Steps.refl _) (argsL := []) (rest := []) (lenOf pd_21 rfl) rfl (by show 2 * 0 + _ ≤ _; exact Nat.le_of_eq rfl) (hb hby at_85) (fun _ _ => ⟨rfl, rfl, (by decide : 10 + 6 ≤ _), (by decide : 22 + 48 ≤ _)⟩)
      dsimp only [Pt.U, Pt.locs, Pt.cells, Pt.slots] at X220 l220 y220 z220 st220 hQ220 Si220 Gr220 A220
      subst l220 y220 z220
      obtain ⟨r_220, rb_220, kb_220, zr_220, vsr_220, rfl, N220q, K220, f220_0, f220_1, f220_2, f220_3, f220_4, f220_5, r220_0, r220_1⟩ := hQ220
      have N220 := Fr.app N219 N220q
      obtain ⟨lc220, X220, N220⟩ := own_pack X220 N220
      replace X220 := own_reb X220
      have Sb220 := Sb219.called Si220 Gr220 A220
      have hZ220 := Sb220.hZ
      have hO220 := Sb220.hO
      refine Go.by' (fun t k => st220.trans k) ?_
      have Sf_r_220 : Safe Z consts_1 T216.vm T219.heap r_220 := Safe.new f220_1
      have g_r_220 : n0 ≤ r_220 := Nat.le_trans (own_le O219) f220_1
      have sz_r_220 : h0.size ≤ r_220 := Nat.le_trans KC219.1 f220_1
      have Sf_rb_220 : Safe Z consts_1 T216.vm T219.heap rb_220 := Safe.new f220_5
      have g_rb_220 : n0 ≤ rb_220 := Nat.le_trans (own_le O219) f220_5
      have sz_rb_220 : h0.size ≤ rb_220 := Nat.le_trans KC219.1 f220_5
      have O220 := O219.keep K220 all0
      have KC220 : Keep h0 T220.heap [] := KC219.trans K220 all0
      obtain rfl : zr_220 = (3 : Int32) := r220_0.trans (by decide)
      obtain rfl : vsr_220 = [(Value.int (46 : Int32)), (Value.int (q9.toInt8.toInt32)), (Value.int (q10.toInt8.toInt32))] := r220_1.trans rfl
      show Go p.tables e below Pf (T220.setTop (mkF m 88 #[vi il, vi ia, vi ib, vi ic, vi id, vi (0 : Int32), vi (2 : Int32), vi q7, vi q8, vi q9, vi q10, vr r_216, vr r_217, .unset, .unset] [(.ref r_220)]))
      refine Go.by' (fun t k => (XS.astore X220.here hx rfl (hb hby at_88) rfl rfl (l' := #[vi il, vi ia, vi ib, vi ic, vi id, vi (0 : Int32), vi (2 : Int32), vi q7, vi q8, vi q9, vi q10, vr r_216, vr r_217, vr r_220, .unset]) rfl (XS.iload X220.here hx rfl (hb hby at_90) rfl (XS.iconst X220.here hx rfl (hb hby at_92) (XS.iadd X220.here hx rfl (hb hby at_93) rfl k))))) ?_
      show Go p.tables e below Pf (T220.setTop (mkF m 94 #[vi il, vi ia, vi ib, vi ic, vi id, vi (0 : Int32), vi (2 : Int32), vi q7, vi q8, vi q9, vi q10, vr r_216, vr r_217, vr r_220, .unset] [(.int ((0 : Int32) + (1 : Int32)))]))
      refine Go.castF (a := ((0 : Int32) + (1 : Int32))) (b := (1 : Int32)) (fun z' : Int32 => mkF m 94 #[vi il, vi ia, vi ib, vi ic, vi id, vi (0 : Int32), vi (2 : Int32), vi q7, vi q8, vi q9, vi q10, vr r_216, vr r_217, vr r_220, .unset] [(.int z')]) (by decide) ?_
      show Go p.tables e below Pf (T220.setTop (mkF m 94 #[vi il, vi ia, vi ib, vi ic, vi id, vi (0 : Int32), vi (2 : Int32), vi q7, vi q8, vi q9, vi q10, vr r_216, vr r_217, vr r_220, .unset] [(.int (1 : Int32))]))
      refine Go.by' (fun t k => (XS.iload X220.here hx rfl (hb hby at_94) rfl (XS.iadd X220.here hx rfl (hb hby at_96) rfl k))) ?_
      show Go p.tables e below Pf (T220.setTop (mkF m 97 #[vi il, vi ia, vi ib, vi ic, vi id, vi (0 : Int32), vi (2 : Int32), vi q7, vi q8, vi q9, vi q10, vr r_216, vr r_217, vr r_220, .unset] [(.int ((1 : Int32) + (2 : Int32)))]))
      refine Go.castF (a := ((1 : Int32) + (2 : Int32))) (b := (3 : Int32)) (fun z' : Int32 => mkF m 97 #[vi il, vi ia, vi ib, vi ic, vi id, vi (0 : Int32), vi (2 : Int32), vi q7, vi q8, vi q9, vi q10, vr r_216, vr r_217, vr r_220, .unset] [(.int z')]) (by decide) ?_
      show Go p.tables e below Pf (T220.setTop (mkF m 97 #[vi il, vi ia, vi ib, vi ic, vi id, vi (0 : Int32), vi (2 : Int32), vi q7, vi q8, vi q9, vi q10, vr r_216, vr r_217, vr r_220, .unset] [(.int (3 : Int32))]))
      refine Go.by' (fun t k => (XS.istore X220.here hx rfl (hb hby at_97) rfl (l' := #[vi il, vi ia, vi ib, vi ic, vi id, vi (0 : Int32), vi (2 : Int32), vi q7, vi q8, vi q9, vi q10, vr r_216, vr r_217, vr r_220, vi (3 : Int32)]) rfl (XS.aload X220.here hx rfl (hb hby at_99) rfl rfl (XS.ifnullNo X220.here hx rfl (hb hby at_101) rfl (XS.aload X220.here hx rfl (hb hby at_104) rfl rfl k))))) ?_
      obtain ⟨cq229, kq229, q229a, q229b, q229c⟩ := isOf hZ220 rfl f220_0
      obtain ⟨_, _, ⟨T229, L229, k229, n229⟩, -, X229, ⟨Lc229, hQ229, l229, y229, z229⟩, st229⟩ := X220.virtualBack hx (y := (⟨"java/lang/String", "length", "()I"⟩ : MethodName)) (z := (⟨"java/lang/String", "length", "()I"⟩ : MethodName)) hO220 (mvT hZ220 hw160) (mvT hZ220 hw77) (notFace_of_selects (args := #[]) (mvT hZ220 hw79)) (mvT hZ220 hw79) (mvT hZ220 hw78) (by decide) (backOf (W := 0) (rmLn l Z a0 hw [] vcs vfm G r_220 rb_220 kb_220 ((3 : Int32)) ([(Value.int (46 : Int32)), (Value.int (q9.toInt8.toInt32)), (Value.int (q10.toInt8.toInt32))]) T220.heap n0 O220 f220_0 f220_2 f220_3 f220_4) hZ220 hw80 hw7 (by decide) (by decide)) q229a q229c (g := (mkF m 106 #[vi il, vi ia, vi ib, vi ic, vi id, vi (0 : Int32), vi (2 : Int32), vi q7, vi q8, vi q9, vi q10, vr r_216, vr r_217, vr r_220, vi (3 : Int32)] [(.ref r_220)])) rfl (by rw [hml]; rfl) (Steps.refl _) (argsL := []) (rest := []) (lenOf pd_8 rfl) rfl (by show 2 * 0 + _ ≤ _; exact Nat.le_of_eq rfl) (hb hby at_106) (fun _ _ => ⟨rfl, rfl, (by decide : 16 + 0 ≤ _), (by decide : 70 + 0 ≤ _)⟩)
      dsimp only [Pt.U, Pt.locs, Pt.cells, Pt.slots] at X229 l229 y229 z229 st229 hQ229
      subst l229 y229 z229
      obtain ⟨rfl, rfl, e229⟩ := hQ229
      try replace X229 := own_nil X229
      refine Go.by' (fun t k => st229.trans k) ?_
      show Go p.tables e below Pf (T229.setTop (mkF m 109 #[vi il, vi ia, vi ib, vi ic, vi id, vi (0 : Int32), vi (2 : Int32), vi q7, vi q8, vi q9, vi q10, vr r_216, vr r_217, vr r_220, vi (3 : Int32)] [(.int (3 : Int32))]))
      refine Go.by' (fun t k => (XS.iload X229.here hx rfl (hb hby at_109) rfl (XS.icmpYes X229.here hx rfl (pc0 := 111) (pc' := 116) rfl (hb hby at_111) rfl (teq (by decide)).1 (by decide) (by decide) (XS.aload X229.here hx rfl (hb hby at_116) rfl rfl (XS.iconst X229.here hx rfl (hb hby at_118) (XS.iload X229.here hx rfl (hb hby at_119) rfl (XS.iload X229.here hx rfl (hb hby at_121) rfl (XS.iload X229.here hx rfl (hb hby at_123) rfl (XS.iload X229.here hx rfl (hb hby at_125) rfl k))))))))) ?_
      show Go p.tables e below Pf (T229.setTop (mkF m 127 #[vi il, vi ia, vi ib, vi ic, vi id, vi (0 : Int32), vi (2 : Int32), vi q7, vi q8, vi q9, vi q10, vr r_216, vr r_217, vr r_220, vi (3 : Int32)] [(.int q8), (.int q7), (.int (0 : Int32)), (.int (3 : Int32)), (.int (0 : Int32)), (.ref r_220)]))
      refine Go.by' (fun t k => (XS.iload X229.here hx rfl (hb hby at_127) rfl (XS.iload X229.here hx rfl (hb hby at_129) rfl k))) ?_
      obtain ⟨_, _, ⟨T230, L230, k230, n230⟩, -, X230, ⟨Lc230, hQ230, l230, y230, z230⟩, st230⟩ := Jvm.LawKit.callS X229 hx (y := (⟨"com/example/slatewipe/slatewipe/TableQualifiedNamePinLaw", "at", "(Ljava/lang/String;IIICCCC)Z"⟩ : MethodName)) hO220 (mvT hZ220 hw161) (mvT hZ220 hw162) (mvT hZ220 hw3) (mvT hZ220 hw163) (by decide) (backOf (W := 0) (rmAt_00 l Z a0 hw [] vcs vfm G r_220 ((3 : Int32)) q7 q8 q9 q10 rb_220 kb_220 ([(Value.int (46 : Int32)), (Value.int (q9.toInt8.toInt32)), (Value.int (q10.toInt8.toInt32))]) ((46 : Int32)) T220.heap n0 O220 f220_0 f220_2 f220_3 f220_4 (by decide) rfl (by decide)) hZ220 hw163 hw3 (by decide) (by decide)) (g := (mkF m 131 #[vi il, vi ia, vi ib, vi ic, vi id, vi (0 : Int32), vi (2 : Int32), vi q7, vi q8, vi q9, vi q10, vr r_216, vr r_217, vr r_220, vi (3 : Int32)] [(.int q10), (.int q9), (.int q8), (.int q7), (.int (0 : Int32)), (.int (3 : Int32)), (.int (0 : Int32)), (.ref r_220)])) rfl (by rw [hml]; rfl) (argsL := [(.ref r_220), (.int (0 : Int32)), (.int (3 : Int32)), (.int (0 : Int32)), (.int q7), (.int q8), (.int q9), (.int q10)]) (rest := []) (lenOf pd_27 rfl) rfl (by show 2 * 0 + _ ≤ _; exact Nat.le_of_eq rfl) (hb hby at_131) (fun _ _ => ⟨rfl, e229, (by decide : 16 + 0 ≤ _), (by decide : 70 + 0 ≤ _)⟩)
      dsimp only [Pt.U, Pt.locs, Pt.cells, Pt.slots] at X230 l230 y230 z230 st230 hQ230
      subst l230 y230 z230
      obtain ⟨rfl, rfl, e230⟩ := hQ230
      try replace X230 := own_nil X230
      refine Go.by' st230 ?_
      show Go p.tables e below Pf (T230.setTop (mkF m 134 #[vi il, vi ia, vi ib, vi ic, vi id, vi (0 : Int32), vi (2 : Int32), vi q7, vi q8, vi q9, vi q10, vr r_216, vr r_217, vr r_220, vi (3 : Int32)] [(.int (1 : Int32))]))
      refine Go.by' (fun t k => (XS.ifNo X230.here hx rfl (hb hby at_134) rfl ((if0 _ _).trans (feq (by decide)).1) (XS.aload X230.here hx rfl (hb hby at_137) rfl rfl (XS.iconst X230.here hx rfl (hb hby at_139) (XS.iload X230.here hx rfl (hb hby at_140) rfl (XS.iload X230.here hx rfl (hb hby at_142) rfl (XS.iload X230.here hx rfl (hb hby at_144) rfl (XS.iload X230.here hx rfl (hb hby at_146) rfl (XS.iload X230.here hx rfl (hb hby at_148) rfl k))))))))) ?_
      show Go p.tables e below Pf (T230.setTop (mkF m 150 #[vi il, vi ia, vi ib, vi ic, vi id, vi (0 : Int32), vi (2 : Int32), vi q7, vi q8, vi q9, vi q10, vr r_216, vr r_217, vr r_220, vi (3 : Int32)] [(.int q9), (.int q8), (.int q7), (.int (0 : Int32)), (.int (3 : Int32)), (.int (1 : Int32)), (.ref r_220)]))
      refine Go.by' (fun t k => (XS.iload X230.here hx rfl (hb hby at_150) rfl k)) ?_
      obtain ⟨_, _, ⟨T231, L231, k231, n231⟩, -, X231, ⟨Lc231, hQ231, l231, y231, z231⟩, st231⟩ := Jvm.LawKit.callS X230 hx (y := (⟨"com/example/slatewipe/slatewipe/TableQualifiedNamePinLaw", "at", "(Ljava/lang/String;IIICCCC)Z"⟩ : MethodName)) hO220 (mvT hZ220 hw161) (mvT hZ220 hw162) (mvT hZ220 hw3) (mvT hZ220 hw163) (by decide) (backOf (W := 0) (rmAt_01 l Z a0 hw [] vcs vfm G r_220 ((3 : Int32)) q7 q8 q9 q10 rb_220 kb_220 ([(Value.int (46 : Int32)), (Value.int (q9.toInt8.toInt32)), (Value.int (q10.toInt8.toInt32))]) ((q9.toInt8.toInt32)) T220.heap n0 O220 f220_0 f220_2 f220_3 f220_4 (by decide) rfl (own_u8 bd9)) hZ220 hw163 hw3 (by decide) (by decide)) (g := (mkF m 152 #[vi il, vi ia, vi ib, vi ic, vi id, vi (0 : Int32), vi (2 : Int32), vi q7, vi q8, vi q9, vi q10, vr r_216, vr r_217, vr r_220, vi (3 : Int32)] [(.int q10), (.int q9), (.int q8), (.int q7), (.int (0 : Int32)), (.int (3 : Int32)), (.int (1 : Int32)), (.ref r_220)])) rfl (by rw [hml]; rfl) (argsL := [(.ref r_220), (.int (1 : Int32)), (.int (3 : Int32)), (.int (0 : Int32)), (.int q7), (.int q8), (.int q9), (.int q10)]) (rest := []) (lenOf pd_27 rfl) rfl (by show 2 * 0 + _ ≤ _; exact Nat.le_of_eq rfl) (hb hby at_152) (fun _ _ => ⟨rfl, e230, (by decide : 16 + 0 ≤ _), (by decide : 70 + 0 ≤ _)⟩)
      dsimp only [Pt.U, Pt.locs, Pt.cells, Pt.slots] at X231 l231 y231 z231 st231 hQ231
      subst l231 y231 z231
      obtain ⟨rfl, rfl, e231⟩ := hQ231
      try replace X231 := own_nil X231
      refine Go.by' st231 ?_
      show Go p.tables e below Pf (T231.setTop (mkF m 155 #[vi il, vi ia, vi ib, vi ic, vi id, vi (0 : Int32), vi (2 : Int32), vi q7, vi q8, vi q9, vi q10, vr r_216, vr r_217, vr r_220, vi (3 : Int32)] [(.int (1 : Int32))]))
      refine Go.by' (fun t k => (XS.ifNo X231.here hx rfl (hb hby at_155) rfl ((if0 _ _).trans (feq (by decide)).1) (XS.aload X231.here hx rfl (hb hby at_158) rfl rfl (XS.iconst X231.here hx rfl (hb hby at_160) (XS.iload X231.here hx rfl (hb hby at_161) rfl (XS.iload X231.here hx rfl (hb hby at_163) rfl (XS.iload X231.here hx rfl (hb hby at_165) rfl (XS.iload X231.here hx rfl (hb hby at_167) rfl (XS.iload X231.here hx rfl (hb hby at_169) rfl k))))))))) ?_
      show Go p.tables e below Pf (T231.setTop (mkF m 171 #[vi il, vi ia, vi ib, vi ic, vi id, vi (0 : Int32), vi (2 : Int32), vi q7, vi q8, vi q9, vi q10, vr r_216, vr r_217, vr r_220, vi (3 : Int32)] [(.int q9), (.int q8), (.int q7), (.int (0 : Int32)), (.int (3 : Int32)), (.int (2 : Int32)), (.ref r_220)]))
      refine Go.by' (fun t k => (XS.iload X231.here hx rfl (hb hby at_171) rfl k)) ?_
      obtain ⟨_, _, ⟨T232, L232, k232, n232⟩, -, X232, ⟨Lc232, hQ232, l232, y232, z232⟩, st232⟩ := Jvm.LawKit.callS X231 hx (y := (⟨"com/example/slatewipe/slatewipe/TableQualifiedNamePinLaw", "at", "(Ljava/lang/String;IIICCCC)Z"⟩ : MethodName)) hO220 (mvT hZ220 hw161) (mvT hZ220 hw162) (mvT hZ220 hw3) (mvT hZ220 hw163) (by decide) (backOf (W := 0) (rmAt_02 l Z a0 hw [] vcs vfm G r_220 ((3 : Int32)) q7 q8 q9 q10 rb_220 kb_220 ([(Value.int (46 : Int32)), (Value.int (q9.toInt8.toInt32)), (Value.int (q10.toInt8.toInt32))]) ((q10.toInt8.toInt32)) T220.heap n0 O220 f220_0 f220_2 f220_3 f220_4 (by decide) rfl (own_u8 bd10)) hZ220 hw163 hw3 (by decide) (by decide)) (g := (mkF m 173 #[vi il, vi ia, vi ib, vi ic, vi id, vi (0 : Int32), vi (2 : Int32), vi q7, vi q8, vi q9, vi q10, vr r_216, vr r_217, vr r_220, vi (3 : Int32)] [(.int q10), (.int q9), (.int q8), (.int q7), (.int (0 : Int32)), (.int (3 : Int32)), (.int (2 : Int32)), (.ref r_220)])) rfl (by rw [hml]; rfl) (argsL := [(.ref r_220), (.int (2 : Int32)), (.int (3 : Int32)), (.int (0 : Int32)), (.int q7), (.int q8), (.int q9), (.int q10)]) (rest := []) (lenOf pd_27 rfl) rfl (by show 2 * 0 + _ ≤ _; exact Nat.le_of_eq rfl) (hb hby at_173) (fun _ _ => ⟨rfl, e231, (by decide : 16 + 0 ≤ _), (by decide : 70 + 0 ≤ _)⟩)
      dsimp only [Pt.U, Pt.locs, Pt.cells, Pt.slots] at X232 l232 y232 z232 st232 hQ232
      subst l232 y232 z232
      obtain ⟨rfl, rfl, e232⟩ := hQ232
      try replace X232 := own_nil X232
      refine Go.by' st232 ?_
      show Go p.tables e below Pf (T232.setTop (mkF m 176 #[vi il, vi ia, vi ib, vi ic, vi id, vi (0 : Int32), vi (2 : Int32), vi q7, vi q8, vi q9, vi q10, vr r_216, vr r_217, vr r_220, vi (3 : Int32)] [(.int (1 : Int32))]))
      refine Go.by' (fun t k => (XS.ifNo X232.here hx rfl (hb hby at_176) rfl ((if0 _ _).trans (feq (by decide)).1) (XS.aload X232.here hx rfl (hb hby at_179) rfl rfl (XS.iconst X232.here hx rfl (hb hby at_181) (XS.iload X232.here hx rfl (hb hby at_182) rfl (XS.iload X232.here hx rfl (hb hby at_184) rfl (XS.iload X232.here hx rfl (hb hby at_186) rfl (XS.iload X232.here hx rfl (hb hby at_188) rfl (XS.iload X232.here hx rfl (hb hby at_190) rfl k))))))))) ?_
      show Go p.tables e below Pf (T232.setTop (mkF m 192 #[vi il, vi ia, vi ib, vi ic, vi id, vi (0 : Int32), vi (2 : Int32), vi q7, vi q8, vi q9, vi q10, vr r_216, vr r_217, vr r_220, vi (3 : Int32)] [(.int q9), (.int q8), (.int q7), (.int (0 : Int32)), (.int (3 : Int32)), (.int (3 : Int32)), (.ref r_220)]))
      refine Go.by' (fun t k => (XS.iload X232.here hx rfl (hb hby at_192) rfl k)) ?_
      obtain ⟨_, _, ⟨T233, L233, k233, n233⟩, -, X233, ⟨Lc233, hQ233, l233, y233, z233⟩, st233⟩ := Jvm.LawKit.callS X232 hx (y := (⟨"com/example/slatewipe/slatewipe/TableQualifiedNamePinLaw", "at", "(Ljava/lang/String;IIICCCC)Z"⟩ : MethodName)) hO220 (mvT hZ220 hw161) (mvT hZ220 hw162) (mvT hZ220 hw3) (mvT hZ220 hw163) (by decide) (backOf (W := 0) (rmAT_3 l Z a0 hw [] vcs vfm G r_220 ((3 : Int32)) ((0 : Int32)) q7 q8 q9 q10 T220.heap n0 O220 (by decide)) hZ220 hw163 hw3 (by decide) (by decide)) (g := (mkF m 194 #[vi il, vi ia, vi ib, vi ic, vi id, vi (0 : Int32), vi (2 : Int32), vi q7, vi q8, vi q9, vi q10, vr r_216, vr r_217, vr r_220, vi (3 : Int32)] [(.int q10), (.int q9), (.int q8), (.int q7), (.int (0 : Int32)), (.int (3 : Int32)), (.int (3 : Int32)), (.ref r_220)])) rfl (by rw [hml]; rfl) (argsL := [(.ref r_220), (.int (3 : Int32)), (.int (3 : Int32)), (.int (0 : Int32)), (.int q7), (.int q8), (.int q9), (.int q10)]) (rest := []) (lenOf pd_27 rfl) rfl (by show 2 * 0 + _ ≤ _; exact Nat.le_of_eq rfl) (hb hby at_194) (fun _ _ => ⟨rfl, e232, (by decide : 16 + 0 ≤ _), (by decide : 70 + 0 ≤ _)⟩)
      dsimp only [Pt.U, Pt.locs, Pt.cells, Pt.slots] at X233 l233 y233 z233 st233 hQ233
      subst l233 y233 z233
      obtain ⟨rfl, rfl, e233⟩ := hQ233
      try replace X233 := own_nil X233
      refine Go.by' st233 ?_
      show Go p.tables e below Pf (T233.setTop (mkF m 197 #[vi il, vi ia, vi ib, vi ic, vi id, vi (0 : Int32), vi (2 : Int32), vi q7, vi q8, vi q9, vi q10, vr r_216, vr r_217, vr r_220, vi (3 : Int32)] [(.int (1 : Int32))]))
      refine Go.by' (fun t k => (XS.ifNo X233.here hx rfl (hb hby at_197) rfl ((if0 _ _).trans (feq (by decide)).1) (XS.aload X233.here hx rfl (hb hby at_200) rfl rfl (XS.iconst X233.here hx rfl (hb hby at_202) (XS.iload X233.here hx rfl (hb hby at_203) rfl (XS.iload X233.here hx rfl (hb hby at_205) rfl (XS.iload X233.here hx rfl (hb hby at_207) rfl (XS.iload X233.here hx rfl (hb hby at_209) rfl (XS.iload X233.here hx rfl (hb hby at_211) rfl k))))))))) ?_
      show Go p.tables e below Pf (T233.setTop (mkF m 213 #[vi il, vi ia, vi ib, vi ic, vi id, vi (0 : Int32), vi (2 : Int32), vi q7, vi q8, vi q9, vi q10, vr r_216, vr r_217, vr r_220, vi (3 : Int32)] [(.int q9), (.int q8), (.int q7), (.int (0 : Int32)), (.int (3 : Int32)), (.int (4 : Int32)), (.ref r_220)]))
      refine Go.by' (fun t k => (XS.iload X233.here hx rfl (hb hby at_213) rfl k)) ?_
      obtain ⟨_, _, ⟨T234, L234, k234, n234⟩, -, X234, ⟨Lc234, hQ234, l234, y234, z234⟩, st234⟩ := Jvm.LawKit.callS X233 hx (y := (⟨"com/example/slatewipe/slatewipe/TableQualifiedNamePinLaw", "at", "(Ljava/lang/String;IIICCCC)Z"⟩ : MethodName)) hO220 (mvT hZ220 hw161) (mvT hZ220 hw162) (mvT hZ220 hw3) (mvT hZ220 hw163) (by decide) (backOf (W := 0) (rmAT_4 l Z a0 hw [] vcs vfm G r_220 ((3 : Int32)) ((0 : Int32)) q7 q8 q9 q10 T220.heap n0 O220 (by decide)) hZ220 hw163 hw3 (by decide) (by decide)) (g := (mkF m 215 #[vi il, vi ia, vi ib, vi ic, vi id, vi (0 : Int32), vi (2 : Int32), vi q7, vi q8, vi q9, vi q10, vr r_216, vr r_217, vr r_220, vi (3 : Int32)] [(.int q10), (.int q9), (.int q8), (.int q7), (.int (0 : Int32)), (.int (3 : Int32)), (.int (4 : Int32)), (.ref r_220)])) rfl (by rw [hml]; rfl) (argsL := [(.ref r_220), (.int (4 : Int32)), (.int (3 : Int32)), (.int (0 : Int32)), (.int q7), (.int q8), (.int q9), (.int q10)]) (rest := []) (lenOf pd_27 rfl) rfl (by show 2 * 0 + _ ≤ _; exact Nat.le_of_eq rfl) (hb hby at_215) (fun _ _ => ⟨rfl, e233, (by decide : 16 + 0 ≤ _), (by decide : 70 + 0 ≤ _)⟩)
      dsimp only [Pt.U, Pt.locs, Pt.cells, Pt.slots] at X234 l234 y234 z234 st234 hQ234
      subst l234 y234 z234
      obtain ⟨rfl, rfl, e234⟩ := hQ234
      try replace X234 := own_nil X234
      refine Go.by' st234 ?_
      show Go p.tables e below Pf (T234.setTop (mkF m 218 #[vi il, vi ia, vi ib, vi ic, vi id, vi (0 : Int32), vi (2 : Int32), vi q7, vi q8, vi q9, vi q10, vr r_216, vr r_217, vr r_220, vi (3 : Int32)] [(.int (1 : Int32))]))
      refine Go.by' (fun t k => (XS.ifNo X234.here hx rfl (hb hby at_218) rfl ((if0 _ _).trans (feq (by decide)).1) (XS.iconst X234.here hx rfl (hb hby at_221) (XS.goto X234.here hx rfl (pc0 := 222) (pc' := 226) rfl (hb hby at_222) (by decide) (by decide) k)))) ?_
      show Go p.tables e below Pf (T234.setTop (mkF m 226 #[vi il, vi ia, vi ib, vi ic, vi id, vi (0 : Int32), vi (2 : Int32), vi q7, vi q8, vi q9, vi q10, vr r_216, vr r_217, vr r_220, vi (3 : Int32)] [(.int (1 : Int32))]))
      rw [hPf]
      exact Go.retIS X234 hx hEL Sb220 e234 hh hret hlk (by simp) rfl (hb hby at_226) (by decide) (by decide) ⟨rfl, N220, (by rw [e234]; exact KC220)⟩
  · refine Go.castF (a := ((il &&& (2147483647 : Int32)) % (3 : Int32))) (b := (1 : Int32)) (fun z' : Int32 => mkF m 52 #[vi il, vi ia, vi ib, vi ic, vi id, vi z', vi ((((il.toUInt32 >>> ((8 : Int32) &&& 31).toUInt32).toInt32) &&& (2147483647 : Int32)) % (3 : Int32)), vi q7, vi q8, vi q9, vi q10, .unset, .unset, .unset, .unset] []) (hk) ?_
    show Go p.tables e below Pf (s₁.setTop (mkF m 52 #[vi il, vi ia, vi ib, vi ic, vi id, vi (1 : Int32), vi ((((il.toUInt32 >>> ((8 : Int32) &&& 31).toUInt32).toInt32) &&& (2147483647 : Int32)) % (3 : Int32)), vi q7, vi q8, vi q9, vi q10, .unset, .unset, .unset, .unset] []))
    rcases own_k3 _ with hm | hm | hm
    · refine Go.castF (a := ((((il.toUInt32 >>> ((8 : Int32) &&& 31).toUInt32).toInt32) &&& (2147483647 : Int32)) % (3 : Int32))) (b := (0 : Int32)) (fun z' : Int32 => mkF m 52 #[vi il, vi ia, vi ib, vi ic, vi id, vi (1 : Int32), vi z', vi q7, vi q8, vi q9, vi q10, .unset, .unset, .unset, .unset] []) (hm) ?_
      show Go p.tables e below Pf (s₁.setTop (mkF m 52 #[vi il, vi ia, vi ib, vi ic, vi id, vi (1 : Int32), vi (0 : Int32), vi q7, vi q8, vi q9, vi q10, .unset, .unset, .unset, .unset] []))
      refine Go.by' (fun t k => (XS.iload X0.here hx rfl (hb hby at_52) rfl (XS.iload X0.here hx rfl (hb hby at_54) rfl (XS.iload X0.here hx rfl (hb hby at_56) rfl k)))) ?_
      obtain ⟨_, _, ⟨T235, L235, k235, n235⟩, -, X235, ⟨Lc235, hQ235, l235, y235, z235⟩, st235⟩ := Jvm.LawKit.callS X0 hx (y := (⟨"com/example/slatewipe/slatewipe/TableQualifiedNamePinLaw", "make", "(ICC)Ljava/lang/String;"⟩ : MethodName)) hown (mvT hZ hw1) (mvT hZ hw2) (mvT hZ hw3) (mvT hZ hw4) (by decide) (backOf (W := 0) (rmMk_1 l Z a0 hw [] vcs vfm G q7 q8 h0 n0 O0 bd7.1 bd7.2) hZ hw4 hw3 (by decide) (by decide)) (g := (mkF m 58 #[vi il, vi ia, vi ib, vi ic, vi id, vi (1 : Int32), vi (0 : Int32), vi q7, vi q8, vi q9, vi q10, .unset, .unset, .unset, .unset] [(.int q8), (.int q7), (.int (1 : Int32))])) rfl (by rw [hml]; rfl) (argsL := [(.int (1 : Int32)), (.int q7), (.int q8)]) (rest := []) (lenOf pd_25 rfl) rfl (by show 2 * 0 + _ ≤ _; exact Nat.le_of_eq rfl) (hb hby at_58) (fun _ _ => ⟨rfl, e0, (by decide : 0 + 3 ≤ _), (by decide : 0 + 6 ≤ _)⟩)
      dsimp only [Pt.U, Pt.locs, Pt.cells, Pt.slots] at X235 l235 y235 z235 st235 hQ235
      subst l235 y235 z235
      obtain ⟨r_235, rb_235, kb_235, rfl, N235q, K235, f235_0, f235_1, f235_2, f235_3, f235_4, f235_5⟩ := hQ235
      have N235 := Fr.app N0 N235q
      obtain ⟨lc235, X235, N235⟩ := own_pack X235 N235
      refine Go.by' st235 ?_
      have Sf_r_235 : Safe Z consts_1 s.vm h0 r_235 := Safe.new f235_1
      have g_r_235 : n0 ≤ r_235 := Nat.le_trans (own_le O0) f235_1
      have sz_r_235 : h0.size ≤ r_235 := Nat.le_trans KC0.1 f235_1
      have Sf_rb_235 : Safe Z consts_1 s.vm h0 rb_235 := Safe.new f235_5
      have g_rb_235 : n0 ≤ rb_235 := Nat.le_trans (own_le O0) f235_5
      have sz_rb_235 : h0.size ≤ rb_235 := Nat.le_trans KC0.1 f235_5
      have Sb235 := Sb0.keep K235 sf0
      have O235 := O0.keep K235 all0
      have KC235 : Keep h0 T235.heap [] := KC0.trans K235 all0
      show Go p.tables e below Pf (T235.setTop (mkF m 61 #[vi il, vi ia, vi ib, vi ic, vi id, vi (1 : Int32), vi (0 : Int32), vi q7, vi q8, vi q9, vi q10, .unset, .unset, .unset, .unset] [(.ref r_235)]))
      refine Go.by' (fun t k => (XS.astore X235.here hx rfl (hb hby at_61) rfl rfl (l' := #[vi il, vi ia, vi ib, vi ic, vi id, vi (1 : Int32), vi (0 : Int32), vi q7, vi q8, vi q9, vi q10, vr r_235, .unset, .unset, .unset]) rfl (XS.iload X235.here hx rfl (hb hby at_63) rfl (XS.iload X235.here hx rfl (hb hby at_65) rfl (XS.iload X235.here hx rfl (hb hby at_67) rfl k))))) ?_
      obtain ⟨_, _, ⟨T236, L236, k236, n236⟩, -, X236, Si236, Gr236, ⟨Lc236, hQ236, l236, y236, z236, A236⟩, st236⟩ := callSS X235 hx (y := (⟨"com/example/slatewipe/slatewipe/TableQualifiedNamePinLaw", "make", "(ICC)Ljava/lang/String;"⟩ : MethodName)) hown (mvT hZ hw1) (mvT hZ hw2) (mvT hZ hw3) (mvT hZ hw4) (by decide) (own_backS (W := 0) (rmMk_0 l Z a0 hw [] vcs vfm G q9 q10 T235.heap n0 O235 ) Sb235 hw4 hw3 (by decide) (by decide) hEL all0) (g := (mkF m 69 #[vi il, vi ia, vi ib, vi ic, vi id, vi (1 : Int32), vi (0 : Int32), vi q7, vi q8, vi q9, vi q10, vr r_235, .unset, .unset, .unset] [(.int q10), (.int q9), (.int (0 : Int32))])) rfl (by rw [hml]; rfl) (argsL := [(.int (0 : Int32)), (.int q9), (.int q10)]) (rest := []) (lenOf pd_25 rfl) rfl (by show 2 * 0 + _ ≤ _; exact Nat.le_of_eq rfl) (hb hby at_69) (fun _ _ => ⟨rfl, rfl, (by decide : 3 + 6 ≤ _), (by decide : 6 + 12 ≤ _)⟩)
      dsimp only [Pt.U, Pt.locs, Pt.cells, Pt.slots] at X236 l236 y236 z236 st236 hQ236 Si236 Gr236 A236
      subst l236 y236 z236
      obtain ⟨r_236, rb_236, kb_236, rfl, N236q, K236, f236_0, f236_1, f236_2, f236_3, f236_4⟩ := hQ236
      have N236 := Fr.app N235 N236q
      obtain ⟨lc236, X236, N236⟩ := own_pack X236 N236
      replace X236 := own_reb X236
      have Sb236 := Sb235.called Si236 Gr236 A236
      have hZ236 := Sb236.hZ
      have hO236 := Sb236.hO
      refine Go.by' (fun t k => st236.trans k) ?_
      have Sf_r_236 : Safe Z consts_1 s.vm T235.heap r_236 := Safe.new f236_1
      have g_r_236 : n0 ≤ r_236 := Nat.le_trans (own_le O235) f236_1
      have sz_r_236 : h0.size ≤ r_236 := Nat.le_trans KC235.1 f236_1
      have O236 := O235.keep K236 all0
      have KC236 : Keep h0 T236.heap [] := KC235.trans K236 all0
      show Go p.tables e below Pf (T236.setTop (mkF m 72 #[vi il, vi ia, vi ib, vi ic, vi id, vi (1 : Int32), vi (0 : Int32), vi q7, vi q8, vi q9, vi q10, vr r_235, .unset, .unset, .unset] [(.ref r_236)]))
      refine Go.by' (fun t k => (XS.astore X236.here hx rfl (hb hby at_72) rfl rfl (l' := #[vi il, vi ia, vi ib, vi ic, vi id, vi (1 : Int32), vi (0 : Int32), vi q7, vi q8, vi q9, vi q10, vr r_235, vr r_236, .unset, .unset]) rfl k)) ?_
      obtain ⟨T237, h237, X237, e237, E237, A237, D237, -, st237⟩ := newO X236 hx hZ236 hO236 hw27 hw28 hw29 rfl (g := (mkF m 74 #[vi il, vi ia, vi ib, vi ic, vi id, vi (1 : Int32), vi (0 : Int32), vi q7, vi q8, vi q9, vi q10, vr r_235, vr r_236, .unset, .unset] [])) rfl (hb hby at_74) (by decide) (by decide)
      obtain ⟨b237, g237⟩ : ∃ z, z = T236.heap.size := ⟨_, rfl⟩
      rw [← g237] at A237 D237 st237
      refine Go.by' st237 ?_
      have Sf_b237 : Safe Z consts_1 T236.vm T236.heap b237 := Safe.new (Nat.le_of_eq g237.symm)
      have g_b237 : n0 ≤ b237 := Nat.le_trans (own_le O236) (Nat.le_of_eq g237.symm)
      have sz_b237 : h0.size ≤ b237 := Nat.le_trans KC236.1 (Nat.le_of_eq g237.symm)
      have Sb237 := Sb236.ext E237
      have O237 := O236.ext E237
      have KC237 : Keep h0 h237 [] := KC236.ext E237
      have Fn237_40 : Fld Z h237 b237 "com/example/slatewipe/slatewipe/Table" "schema" "Ljava/lang/String;" Value.null := D237 (Or.inr hw40) (ty := (.object "java/lang/String")) (by decide)
      have Fn237_42 : Fld Z h237 b237 "com/example/slatewipe/slatewipe/Table" "name" "Ljava/lang/String;" Value.null := D237 (Or.inr hw42) (ty := (.object "java/lang/String")) (by decide)
      show Go p.tables e below Pf (T237.setTop (mkF m 77 #[vi il, vi ia, vi ib, vi ic, vi id, vi (1 : Int32), vi (0 : Int32), vi q7, vi q8, vi q9, vi q10, vr r_235, vr r_236, .unset, .unset] [(.ref b237)]))
      refine Go.by' (fun t k => (XS.dup X237.here hx rfl (hb hby at_77) rfl rfl (XS.aload X237.here hx rfl (hb hby at_78) rfl rfl (XS.aload X237.here hx rfl (hb hby at_80) rfl rfl k)))) ?_
      obtain ⟨_, _, ⟨T238, L238, k238, n238⟩, -, X238, ⟨Lc238, hQ238, l238, y238, z238⟩, st238⟩ := X237.specialBack hx (y := (⟨"com/example/slatewipe/slatewipe/Table", "<init>", "(Ljava/lang/String;Ljava/lang/String;)V"⟩ : MethodName)) rfl hO236 (mvT hZ236 hw30) (mvT hZ236 hw31) (mvT hZ236 hw32) (by decide) (backOf (W := 1) (rmTab l Z a0 hw [] vcs vfm G b237 r_235 r_236 h237 n0 O237 A237 Fn237_40 Fn237_42 g_b237) hZ236 hw32 hw29 (by decide) (by decide)) (g := (mkF m 82 #[vi il, vi ia, vi ib, vi ic, vi id, vi (1 : Int32), vi (0 : Int32), vi q7, vi q8, vi q9, vi q10, vr r_235, vr r_236, .unset, .unset] [(.ref r_236), (.ref r_235), (.ref b237), (.ref b237)])) rfl (by rw [hml]; rfl) (Steps.refl _) (a := b237) (argsL := [(.ref r_235), (.ref r_236)]) (rest := [(.ref b237)]) (lenOf pd_26 rfl) rfl (by show 2 * 0 + _ ≤ _; exact Nat.le_of_eq rfl) (hb hby at_82) (fun _ _ => ⟨rfl, e237, (by decide : 10 + 0 ≤ _), (by decide : 20 + 0 ≤ _)⟩)
      dsimp only [Pt.U, Pt.locs, Pt.cells, Pt.slots] at X238 l238 y238 z238 st238 hQ238
      subst l238 y238 z238
      obtain ⟨rfl, N238q, K238, f238_0, f238_1, f238_2⟩ := hQ238
      have N238 := Fr.app N236 N238q
      obtain ⟨lc238, X238, N238⟩ := own_pack X238 N238
      refine Go.by' (fun t k => st238.trans k) ?_
      have Sb238 := Sb237.keep K238 (sfS (Safe.ext E237 Sb236.ch Sf_b237) sf0)
      have O238 := O237.keep K238 (allS g_b237 all0)
      have KC238 : Keep h0 T238.heap [] := KC237.trans K238 (allS (Or.inr sz_b237) all0)
      have c240 := (((f235_4.keep K236 nin0).ext E237).keep K238 (ninS (Nat.ne_of_lt (Nat.lt_of_lt_of_le (Nat.lt_of_lt_of_le f235_4.lt K236.1) (Nat.le_of_eq g237.symm))) nin0))
      have c241 := ((f236_4.ext E237).keep K238 (ninS (Nat.ne_of_lt (Nat.lt_of_lt_of_le f236_4.lt (Nat.le_of_eq g237.symm))) nin0))
      have c242 := (((f235_0.keep K236).ext E237).keep K238)
      have c243 := (((f235_2.keep K236 nin0).ext E237).keep K238 (ninS (Nat.ne_of_lt (Nat.lt_of_lt_of_le (Nat.lt_of_lt_of_le f235_0.lt K236.1) (Nat.le_of_eq g237.symm))) nin0))
      have c244 := (((f235_3.keep K236 nin0).ext E237).keep K238 (ninS (Nat.ne_of_lt (Nat.lt_of_lt_of_le (Nat.lt_of_lt_of_le f235_0.lt K236.1) (Nat.le_of_eq g237.symm))) nin0))
      have c245 := ((f236_0.ext E237).keep K238)
      have c246 := ((f236_2.ext E237).keep K238 (ninS (Nat.ne_of_lt (Nat.lt_of_lt_of_le f236_0.lt (Nat.le_of_eq g237.symm))) nin0))
      have c247 := ((f236_3.ext E237).keep K238 (ninS (Nat.ne_of_lt (Nat.lt_of_lt_of_le f236_0.lt (Nat.le_of_eq g237.symm))) nin0))
      obtain ⟨cq239, kq239, q239a, q239b, q239c⟩ := isOf hZ236 rfl f238_0
      obtain ⟨_, _, ⟨T239, L239, k239, n239⟩, -, X239, Si239, Gr239, ⟨Lc239, hQ239, l239, y239, z239, A239⟩, st239⟩ := X238.virtualBackS hx (y := (⟨"com/example/slatewipe/slatewipe/Table", "qualifiedName", "()Ljava/lang/String;"⟩ : MethodName)) (z := (⟨"com/example/slatewipe/slatewipe/Table", "qualifiedName", "()Ljava/lang/String;"⟩ : MethodName)) hO236 (mvT hZ236 hw43) (mvT hZ236 hw44) (notFace_of_selects (args := #[]) (mvT hZ236 hw46)) (mvT hZ236 hw46) (mvT hZ236 hw45) (by decide) (own_backS (W := 0) (rmQN l Z a0 hw [] vcs vfm G b237 r_235 rb_235 kb_235 ((1 : Int32)) ([(Value.int (q7.toInt8.toInt32))]) r_236 rb_236 kb_236 ((0 : Int32)) ([]) T238.heap n0 O238 f238_0 f238_1 f238_2 c242 c243 c244 c240 (Or.inr (Or.inl rfl)) c245 c246 c247 c241 (Or.inl rfl)) Sb238 hw47 hw29 (by decide) (by decide) hEL all0) q239a q239c (g := (mkF m 85 #[vi il, vi ia, vi ib, vi ic, vi id, vi (1 : Int32), vi (0 : Int32), vi q7, vi q8, vi q9, vi q10, vr r_235, vr r_236, .unset, .unset] [(.ref b237)])) rfl (by rw [hml]; rfl) (Steps.refl _) (argsL := []) (rest := []) (lenOf pd_21 rfl) rfl (by show 2 * 0 + _ ≤ _; exact Nat.le_of_eq rfl) (hb hby at_85) (fun _ _ => ⟨rfl, rfl, (by decide : 10 + 6 ≤ _), (by decide : 20 + 48 ≤ _)⟩)
      dsimp only [Pt.U, Pt.locs, Pt.cells, Pt.slots] at X239 l239 y239 z239 st239 hQ239 Si239 Gr239 A239
      subst l239 y239 z239
      obtain ⟨r_239, rb_239, kb_239, zr_239, vsr_239, rfl, N239q, K239, f239_0, f239_1, f239_2, f239_3, f239_4, f239_5, r239_0, r239_1⟩ := hQ239
      have N239 := Fr.app N238 N239q
      obtain ⟨lc239, X239, N239⟩ := own_pack X239 N239
      replace X239 := own_reb X239
      have Sb239 := Sb238.called Si239 Gr239 A239
      have hZ239 := Sb239.hZ
      have hO239 := Sb239.hO
      refine Go.by' (fun t k => st239.trans k) ?_
      have Sf_r_239 : Safe Z consts_1 T236.vm T238.heap r_239 := Safe.new f239_1
      have g_r_239 : n0 ≤ r_239 := Nat.le_trans (own_le O238) f239_1
      have sz_r_239 : h0.size ≤ r_239 := Nat.le_trans KC238.1 f239_1
      have Sf_rb_239 : Safe Z consts_1 T236.vm T238.heap rb_239 := Safe.new f239_5
      have g_rb_239 : n0 ≤ rb_239 := Nat.le_trans (own_le O238) f239_5
      have sz_rb_239 : h0.size ≤ rb_239 := Nat.le_trans KC238.1 f239_5
      have O239 := O238.keep K239 all0
      have KC239 : Keep h0 T239.heap [] := KC238.trans K239 all0
      obtain rfl : zr_239 = (2 : Int32) := r239_0.trans (by decide)
      obtain rfl : vsr_239 = [(Value.int (q7.toInt8.toInt32)), (Value.int (46 : Int32))] := r239_1.trans rfl
      show Go p.tables e below Pf (T239.setTop (mkF m 88 #[vi il, vi ia, vi ib, vi ic, vi id, vi (1 : Int32), vi (0 : Int32), vi q7, vi q8, vi q9, vi q10, vr r_235, vr r_236, .unset, .unset] [(.ref r_239)]))
      refine Go.by' (fun t k => (XS.astore X239.here hx rfl (hb hby at_88) rfl rfl (l' := #[vi il, vi ia, vi ib, vi ic, vi id, vi (1 : Int32), vi (0 : Int32), vi q7, vi q8, vi q9, vi q10, vr r_235, vr r_236, vr r_239, .unset]) rfl (XS.iload X239.here hx rfl (hb hby at_90) rfl (XS.iconst X239.here hx rfl (hb hby at_92) (XS.iadd X239.here hx rfl (hb hby at_93) rfl k))))) ?_
      show Go p.tables e below Pf (T239.setTop (mkF m 94 #[vi il, vi ia, vi ib, vi ic, vi id, vi (1 : Int32), vi (0 : Int32), vi q7, vi q8, vi q9, vi q10, vr r_235, vr r_236, vr r_239, .unset] [(.int ((1 : Int32) + (1 : Int32)))]))
      refine Go.castF (a := ((1 : Int32) + (1 : Int32))) (b := (2 : Int32)) (fun z' : Int32 => mkF m 94 #[vi il, vi ia, vi ib, vi ic, vi id, vi (1 : Int32), vi (0 : Int32), vi q7, vi q8, vi q9, vi q10, vr r_235, vr r_236, vr r_239, .unset] [(.int z')]) (by decide) ?_
      show Go p.tables e below Pf (T239.setTop (mkF m 94 #[vi il, vi ia, vi ib, vi ic, vi id, vi (1 : Int32), vi (0 : Int32), vi q7, vi q8, vi q9, vi q10, vr r_235, vr r_236, vr r_239, .unset] [(.int (2 : Int32))]))
      refine Go.by' (fun t k => (XS.iload X239.here hx rfl (hb hby at_94) rfl (XS.iadd X239.here hx rfl (hb hby at_96) rfl k))) ?_
      show Go p.tables e below Pf (T239.setTop (mkF m 97 #[vi il, vi ia, vi ib, vi ic, vi id, vi (1 : Int32), vi (0 : Int32), vi q7, vi q8, vi q9, vi q10, vr r_235, vr r_236, vr r_239, .unset] [(.int ((2 : Int32) + (0 : Int32)))]))
      refine Go.castF (a := ((2 : Int32) + (0 : Int32))) (b := (2 : Int32)) (fun z' : Int32 => mkF m 97 #[vi il, vi ia, vi ib, vi ic, vi id, vi (1 : Int32), vi (0 : Int32), vi q7, vi q8, vi q9, vi q10, vr r_235, vr r_236, vr r_239, .unset] [(.int z')]) (by decide) ?_
      show Go p.tables e below Pf (T239.setTop (mkF m 97 #[vi il, vi ia, vi ib, vi ic, vi id, vi (1 : Int32), vi (0 : Int32), vi q7, vi q8, vi q9, vi q10, vr r_235, vr r_236, vr r_239, .unset] [(.int (2 : Int32))]))
      refine Go.by' (fun t k => (XS.istore X239.here hx rfl (hb hby at_97) rfl (l' := #[vi il, vi ia, vi ib, vi ic, vi id, vi (1 : Int32), vi (0 : Int32), vi q7, vi q8, vi q9, vi q10, vr r_235, vr r_236, vr r_239, vi (2 : Int32)]) rfl (XS.aload X239.here hx rfl (hb hby at_99) rfl rfl (XS.ifnullNo X239.here hx rfl (hb hby at_101) rfl (XS.aload X239.here hx rfl (hb hby at_104) rfl rfl k))))) ?_
      obtain ⟨cq248, kq248, q248a, q248b, q248c⟩ := isOf hZ239 rfl f239_0
      obtain ⟨_, _, ⟨T248, L248, k248, n248⟩, -, X248, ⟨Lc248, hQ248, l248, y248, z248⟩, st248⟩ := X239.virtualBack hx (y := (⟨"java/lang/String", "length", "()I"⟩ : MethodName)) (z := (⟨"java/lang/String", "length", "()I"⟩ : MethodName)) hO239 (mvT hZ239 hw160) (mvT hZ239 hw77) (notFace_of_selects (args := #[]) (mvT hZ239 hw79)) (mvT hZ239 hw79) (mvT hZ239 hw78) (by decide) (backOf (W := 0) (rmLn l Z a0 hw [] vcs vfm G r_239 rb_239 kb_239 ((2 : Int32)) ([(Value.int (q7.toInt8.toInt32)), (Value.int (46 : Int32))]) T239.heap n0 O239 f239_0 f239_2 f239_3 f239_4) hZ239 hw80 hw7 (by decide) (by decide)) q248a q248c (g := (mkF m 106 #[vi il, vi ia, vi ib, vi ic, vi id, vi (1 : Int32), vi (0 : Int32), vi q7, vi q8, vi q9, vi q10, vr r_235, vr r_236, vr r_239, vi (2 : Int32)] [(.ref r_239)])) rfl (by rw [hml]; rfl) (Steps.refl _) (argsL := []) (rest := []) (lenOf pd_8 rfl) rfl (by show 2 * 0 + _ ≤ _; exact Nat.le_of_eq rfl) (hb hby at_106) (fun _ _ => ⟨rfl, rfl, (by decide : 16 + 0 ≤ _), (by decide : 68 + 0 ≤ _)⟩)
      dsimp only [Pt.U, Pt.locs, Pt.cells, Pt.slots] at X248 l248 y248 z248 st248 hQ248
      subst l248 y248 z248
      obtain ⟨rfl, rfl, e248⟩ := hQ248
      try replace X248 := own_nil X248
      refine Go.by' (fun t k => st248.trans k) ?_
      show Go p.tables e below Pf (T248.setTop (mkF m 109 #[vi il, vi ia, vi ib, vi ic, vi id, vi (1 : Int32), vi (0 : Int32), vi q7, vi q8, vi q9, vi q10, vr r_235, vr r_236, vr r_239, vi (2 : Int32)] [(.int (2 : Int32))]))
      refine Go.by' (fun t k => (XS.iload X248.here hx rfl (hb hby at_109) rfl (XS.icmpYes X248.here hx rfl (pc0 := 111) (pc' := 116) rfl (hb hby at_111) rfl (teq (by decide)).1 (by decide) (by decide) (XS.aload X248.here hx rfl (hb hby at_116) rfl rfl (XS.iconst X248.here hx rfl (hb hby at_118) (XS.iload X248.here hx rfl (hb hby at_119) rfl (XS.iload X248.here hx rfl (hb hby at_121) rfl (XS.iload X248.here hx rfl (hb hby at_123) rfl (XS.iload X248.here hx rfl (hb hby at_125) rfl k))))))))) ?_
      show Go p.tables e below Pf (T248.setTop (mkF m 127 #[vi il, vi ia, vi ib, vi ic, vi id, vi (1 : Int32), vi (0 : Int32), vi q7, vi q8, vi q9, vi q10, vr r_235, vr r_236, vr r_239, vi (2 : Int32)] [(.int q8), (.int q7), (.int (1 : Int32)), (.int (2 : Int32)), (.int (0 : Int32)), (.ref r_239)]))
      refine Go.by' (fun t k => (XS.iload X248.here hx rfl (hb hby at_127) rfl (XS.iload X248.here hx rfl (hb hby at_129) rfl k))) ?_
      obtain ⟨_, _, ⟨T249, L249, k249, n249⟩, -, X249, ⟨Lc249, hQ249, l249, y249, z249⟩, st249⟩ := Jvm.LawKit.callS X248 hx (y := (⟨"com/example/slatewipe/slatewipe/TableQualifiedNamePinLaw", "at", "(Ljava/lang/String;IIICCCC)Z"⟩ : MethodName)) hO239 (mvT hZ239 hw161) (mvT hZ239 hw162) (mvT hZ239 hw3) (mvT hZ239 hw163) (by decide) (backOf (W := 0) (rmAt_10 l Z a0 hw [] vcs vfm G r_239 ((2 : Int32)) q7 q8 q9 q10 rb_239 kb_239 ([(Value.int (q7.toInt8.toInt32)), (Value.int (46 : Int32))]) ((q7.toInt8.toInt32)) T239.heap n0 O239 f239_0 f239_2 f239_3 f239_4 (by decide) rfl (own_u8 bd7)) hZ239 hw163 hw3 (by decide) (by decide)) (g := (mkF m 131 #[vi il, vi ia, vi ib, vi ic, vi id, vi (1 : Int32), vi (0 : Int32), vi q7, vi q8, vi q9, vi q10, vr r_235, vr r_236, vr r_239, vi (2 : Int32)] [(.int q10), (.int q9), (.int q8), (.int q7), (.int (1 : Int32)), (.int (2 : Int32)), (.int (0 : Int32)), (.ref r_239)])) rfl (by rw [hml]; rfl) (argsL := [(.ref r_239), (.int (0 : Int32)), (.int (2 : Int32)), (.int (1 : Int32)), (.int q7), (.int q8), (.int q9), (.int q10)]) (rest := []) (lenOf pd_27 rfl) rfl (by show 2 * 0 + _ ≤ _; exact Nat.le_of_eq rfl) (hb hby at_131) (fun _ _ => ⟨rfl, e248, (by decide : 16 + 0 ≤ _), (by decide : 68 + 0 ≤ _)⟩)
      dsimp only [Pt.U, Pt.locs, Pt.cells, Pt.slots] at X249 l249 y249 z249 st249 hQ249
      subst l249 y249 z249
      obtain ⟨rfl, rfl, e249⟩ := hQ249
      try replace X249 := own_nil X249
      refine Go.by' st249 ?_
      show Go p.tables e below Pf (T249.setTop (mkF m 134 #[vi il, vi ia, vi ib, vi ic, vi id, vi (1 : Int32), vi (0 : Int32), vi q7, vi q8, vi q9, vi q10, vr r_235, vr r_236, vr r_239, vi (2 : Int32)] [(.int (1 : Int32))]))
      refine Go.by' (fun t k => (XS.ifNo X249.here hx rfl (hb hby at_134) rfl ((if0 _ _).trans (feq (by decide)).1) (XS.aload X249.here hx rfl (hb hby at_137) rfl rfl (XS.iconst X249.here hx rfl (hb hby at_139) (XS.iload X249.here hx rfl (hb hby at_140) rfl (XS.iload X249.here hx rfl (hb hby at_142) rfl (XS.iload X249.here hx rfl (hb hby at_144) rfl (XS.iload X249.here hx rfl (hb hby at_146) rfl (XS.iload X249.here hx rfl (hb hby at_148) rfl k))))))))) ?_
      show Go p.tables e below Pf (T249.setTop (mkF m 150 #[vi il, vi ia, vi ib, vi ic, vi id, vi (1 : Int32), vi (0 : Int32), vi q7, vi q8, vi q9, vi q10, vr r_235, vr r_236, vr r_239, vi (2 : Int32)] [(.int q9), (.int q8), (.int q7), (.int (1 : Int32)), (.int (2 : Int32)), (.int (1 : Int32)), (.ref r_239)]))
      refine Go.by' (fun t k => (XS.iload X249.here hx rfl (hb hby at_150) rfl k)) ?_
      obtain ⟨_, _, ⟨T250, L250, k250, n250⟩, -, X250, ⟨Lc250, hQ250, l250, y250, z250⟩, st250⟩ := Jvm.LawKit.callS X249 hx (y := (⟨"com/example/slatewipe/slatewipe/TableQualifiedNamePinLaw", "at", "(Ljava/lang/String;IIICCCC)Z"⟩ : MethodName)) hO239 (mvT hZ239 hw161) (mvT hZ239 hw162) (mvT hZ239 hw3) (mvT hZ239 hw163) (by decide) (backOf (W := 0) (rmAt_11 l Z a0 hw [] vcs vfm G r_239 ((2 : Int32)) q7 q8 q9 q10 rb_239 kb_239 ([(Value.int (q7.toInt8.toInt32)), (Value.int (46 : Int32))]) ((46 : Int32)) T239.heap n0 O239 f239_0 f239_2 f239_3 f239_4 (by decide) rfl (by decide)) hZ239 hw163 hw3 (by decide) (by decide)) (g := (mkF m 152 #[vi il, vi ia, vi ib, vi ic, vi id, vi (1 : Int32), vi (0 : Int32), vi q7, vi q8, vi q9, vi q10, vr r_235, vr r_236, vr r_239, vi (2 : Int32)] [(.int q10), (.int q9), (.int q8), (.int q7), (.int (1 : Int32)), (.int (2 : Int32)), (.int (1 : Int32)), (.ref r_239)])) rfl (by rw [hml]; rfl) (argsL := [(.ref r_239), (.int (1 : Int32)), (.int (2 : Int32)), (.int (1 : Int32)), (.int q7), (.int q8), (.int q9), (.int q10)]) (rest := []) (lenOf pd_27 rfl) rfl (by show 2 * 0 + _ ≤ _; exact Nat.le_of_eq rfl) (hb hby at_152) (fun _ _ => ⟨rfl, e249, (by decide : 16 + 0 ≤ _), (by decide : 68 + 0 ≤ _)⟩)
      dsimp only [Pt.U, Pt.locs, Pt.cells, Pt.slots] at X250 l250 y250 z250 st250 hQ250
      subst l250 y250 z250
      obtain ⟨rfl, rfl, e250⟩ := hQ250
      try replace X250 := own_nil X250
      refine Go.by' st250 ?_
      show Go p.tables e below Pf (T250.setTop (mkF m 155 #[vi il, vi ia, vi ib, vi ic, vi id, vi (1 : Int32), vi (0 : Int32), vi q7, vi q8, vi q9, vi q10, vr r_235, vr r_236, vr r_239, vi (2 : Int32)] [(.int (1 : Int32))]))
      refine Go.by' (fun t k => (XS.ifNo X250.here hx rfl (hb hby at_155) rfl ((if0 _ _).trans (feq (by decide)).1) (XS.aload X250.here hx rfl (hb hby at_158) rfl rfl (XS.iconst X250.here hx rfl (hb hby at_160) (XS.iload X250.here hx rfl (hb hby at_161) rfl (XS.iload X250.here hx rfl (hb hby at_163) rfl (XS.iload X250.here hx rfl (hb hby at_165) rfl (XS.iload X250.here hx rfl (hb hby at_167) rfl (XS.iload X250.here hx rfl (hb hby at_169) rfl k))))))))) ?_
      show Go p.tables e below Pf (T250.setTop (mkF m 171 #[vi il, vi ia, vi ib, vi ic, vi id, vi (1 : Int32), vi (0 : Int32), vi q7, vi q8, vi q9, vi q10, vr r_235, vr r_236, vr r_239, vi (2 : Int32)] [(.int q9), (.int q8), (.int q7), (.int (1 : Int32)), (.int (2 : Int32)), (.int (2 : Int32)), (.ref r_239)]))
      refine Go.by' (fun t k => (XS.iload X250.here hx rfl (hb hby at_171) rfl k)) ?_
      obtain ⟨_, _, ⟨T251, L251, k251, n251⟩, -, X251, ⟨Lc251, hQ251, l251, y251, z251⟩, st251⟩ := Jvm.LawKit.callS X250 hx (y := (⟨"com/example/slatewipe/slatewipe/TableQualifiedNamePinLaw", "at", "(Ljava/lang/String;IIICCCC)Z"⟩ : MethodName)) hO239 (mvT hZ239 hw161) (mvT hZ239 hw162) (mvT hZ239 hw3) (mvT hZ239 hw163) (by decide) (backOf (W := 0) (rmAT_2 l Z a0 hw [] vcs vfm G r_239 ((2 : Int32)) ((1 : Int32)) q7 q8 q9 q10 T239.heap n0 O239 (by decide)) hZ239 hw163 hw3 (by decide) (by decide)) (g := (mkF m 173 #[vi il, vi ia, vi ib, vi ic, vi id, vi (1 : Int32), vi (0 : Int32), vi q7, vi q8, vi q9, vi q10, vr r_235, vr r_236, vr r_239, vi (2 : Int32)] [(.int q10), (.int q9), (.int q8), (.int q7), (.int (1 : Int32)), (.int (2 : Int32)), (.int (2 : Int32)), (.ref r_239)])) rfl (by rw [hml]; rfl) (argsL := [(.ref r_239), (.int (2 : Int32)), (.int (2 : Int32)), (.int (1 : Int32)), (.int q7), (.int q8), (.int q9), (.int q10)]) (rest := []) (lenOf pd_27 rfl) rfl (by show 2 * 0 + _ ≤ _; exact Nat.le_of_eq rfl) (hb hby at_173) (fun _ _ => ⟨rfl, e250, (by decide : 16 + 0 ≤ _), (by decide : 68 + 0 ≤ _)⟩)
      dsimp only [Pt.U, Pt.locs, Pt.cells, Pt.slots] at X251 l251 y251 z251 st251 hQ251
      subst l251 y251 z251
      obtain ⟨rfl, rfl, e251⟩ := hQ251
      try replace X251 := own_nil X251
      refine Go.by' st251 ?_
      show Go p.tables e below Pf (T251.setTop (mkF m 176 #[vi il, vi ia, vi ib, vi ic, vi id, vi (1 : Int32), vi (0 : Int32), vi q7, vi q8, vi q9, vi q10, vr r_235, vr r_236, vr r_239, vi (2 : Int32)] [(.int (1 : Int32))]))
      refine Go.by' (fun t k => (XS.ifNo X251.here hx rfl (hb hby at_176) rfl ((if0 _ _).trans (feq (by decide)).1) (XS.aload X251.here hx rfl (hb hby at_179) rfl rfl (XS.iconst X251.here hx rfl (hb hby at_181) (XS.iload X251.here hx rfl (hb hby at_182) rfl (XS.iload X251.here hx rfl (hb hby at_184) rfl (XS.iload X251.here hx rfl (hb hby at_186) rfl (XS.iload X251.here hx rfl (hb hby at_188) rfl (XS.iload X251.here hx rfl (hb hby at_190) rfl k))))))))) ?_
      show Go p.tables e below Pf (T251.setTop (mkF m 192 #[vi il, vi ia, vi ib, vi ic, vi id, vi (1 : Int32), vi (0 : Int32), vi q7, vi q8, vi q9, vi q10, vr r_235, vr r_236, vr r_239, vi (2 : Int32)] [(.int q9), (.int q8), (.int q7), (.int (1 : Int32)), (.int (2 : Int32)), (.int (3 : Int32)), (.ref r_239)]))
      refine Go.by' (fun t k => (XS.iload X251.here hx rfl (hb hby at_192) rfl k)) ?_
      obtain ⟨_, _, ⟨T252, L252, k252, n252⟩, -, X252, ⟨Lc252, hQ252, l252, y252, z252⟩, st252⟩ := Jvm.LawKit.callS X251 hx (y := (⟨"com/example/slatewipe/slatewipe/TableQualifiedNamePinLaw", "at", "(Ljava/lang/String;IIICCCC)Z"⟩ : MethodName)) hO239 (mvT hZ239 hw161) (mvT hZ239 hw162) (mvT hZ239 hw3) (mvT hZ239 hw163) (by decide) (backOf (W := 0) (rmAT_3 l Z a0 hw [] vcs vfm G r_239 ((2 : Int32)) ((1 : Int32)) q7 q8 q9 q10 T239.heap n0 O239 (by decide)) hZ239 hw163 hw3 (by decide) (by decide)) (g := (mkF m 194 #[vi il, vi ia, vi ib, vi ic, vi id, vi (1 : Int32), vi (0 : Int32), vi q7, vi q8, vi q9, vi q10, vr r_235, vr r_236, vr r_239, vi (2 : Int32)] [(.int q10), (.int q9), (.int q8), (.int q7), (.int (1 : Int32)), (.int (2 : Int32)), (.int (3 : Int32)), (.ref r_239)])) rfl (by rw [hml]; rfl) (argsL := [(.ref r_239), (.int (3 : Int32)), (.int (2 : Int32)), (.int (1 : Int32)), (.int q7), (.int q8), (.int q9), (.int q10)]) (rest := []) (lenOf pd_27 rfl) rfl (by show 2 * 0 + _ ≤ _; exact Nat.le_of_eq rfl) (hb hby at_194) (fun _ _ => ⟨rfl, e251, (by decide : 16 + 0 ≤ _), (by decide : 68 + 0 ≤ _)⟩)
      dsimp only [Pt.U, Pt.locs, Pt.cells, Pt.slots] at X252 l252 y252 z252 st252 hQ252
      subst l252 y252 z252
      obtain ⟨rfl, rfl, e252⟩ := hQ252
      try replace X252 := own_nil X252
      refine Go.by' st252 ?_
      show Go p.tables e below Pf (T252.setTop (mkF m 197 #[vi il, vi ia, vi ib, vi ic, vi id, vi (1 : Int32), vi (0 : Int32), vi q7, vi q8, vi q9, vi q10, vr r_235, vr r_236, vr r_239, vi (2 : Int32)] [(.int (1 : Int32))]))
      refine Go.by' (fun t k => (XS.ifNo X252.here hx rfl (hb hby at_197) rfl ((if0 _ _).trans (feq (by decide)).1) (XS.aload X252.here hx rfl (hb hby at_200) rfl rfl (XS.iconst X252.here hx rfl (hb hby at_202) (XS.iload X252.here hx rfl (hb hby at_203) rfl (XS.iload X252.here hx rfl (hb hby at_205) rfl (XS.iload X252.here hx rfl (hb hby at_207) rfl (XS.iload X252.here hx rfl (hb hby at_209) rfl (XS.iload X252.here hx rfl (hb hby at_211) rfl k))))))))) ?_
      show Go p.tables e below Pf (T252.setTop (mkF m 213 #[vi il, vi ia, vi ib, vi ic, vi id, vi (1 : Int32), vi (0 : Int32), vi q7, vi q8, vi q9, vi q10, vr r_235, vr r_236, vr r_239, vi (2 : Int32)] [(.int q9), (.int q8), (.int q7), (.int (1 : Int32)), (.int (2 : Int32)), (.int (4 : Int32)), (.ref r_239)]))
      refine Go.by' (fun t k => (XS.iload X252.here hx rfl (hb hby at_213) rfl k)) ?_
      obtain ⟨_, _, ⟨T253, L253, k253, n253⟩, -, X253, ⟨Lc253, hQ253, l253, y253, z253⟩, st253⟩ := Jvm.LawKit.callS X252 hx (y := (⟨"com/example/slatewipe/slatewipe/TableQualifiedNamePinLaw", "at", "(Ljava/lang/String;IIICCCC)Z"⟩ : MethodName)) hO239 (mvT hZ239 hw161) (mvT hZ239 hw162) (mvT hZ239 hw3) (mvT hZ239 hw163) (by decide) (backOf (W := 0) (rmAT_4 l Z a0 hw [] vcs vfm G r_239 ((2 : Int32)) ((1 : Int32)) q7 q8 q9 q10 T239.heap n0 O239 (by decide)) hZ239 hw163 hw3 (by decide) (by decide)) (g := (mkF m 215 #[vi il, vi ia, vi ib, vi ic, vi id, vi (1 : Int32), vi (0 : Int32), vi q7, vi q8, vi q9, vi q10, vr r_235, vr r_236, vr r_239, vi (2 : Int32)] [(.int q10), (.int q9), (.int q8), (.int q7), (.int (1 : Int32)), (.int (2 : Int32)), (.int (4 : Int32)), (.ref r_239)])) rfl (by rw [hml]; rfl) (argsL := [(.ref r_239), (.int (4 : Int32)), (.int (2 : Int32)), (.int (1 : Int32)), (.int q7), (.int q8), (.int q9), (.int q10)]) (rest := []) (lenOf pd_27 rfl) rfl (by show 2 * 0 + _ ≤ _; exact Nat.le_of_eq rfl) (hb hby at_215) (fun _ _ => ⟨rfl, e252, (by decide : 16 + 0 ≤ _), (by decide : 68 + 0 ≤ _)⟩)
      dsimp only [Pt.U, Pt.locs, Pt.cells, Pt.slots] at X253 l253 y253 z253 st253 hQ253
      subst l253 y253 z253
      obtain ⟨rfl, rfl, e253⟩ := hQ253
      try replace X253 := own_nil X253
      refine Go.by' st253 ?_
      show Go p.tables e below Pf (T253.setTop (mkF m 218 #[vi il, vi ia, vi ib, vi ic, vi id, vi (1 : Int32), vi (0 : Int32), vi q7, vi q8, vi q9, vi q10, vr r_235, vr r_236, vr r_239, vi (2 : Int32)] [(.int (1 : Int32))]))
      refine Go.by' (fun t k => (XS.ifNo X253.here hx rfl (hb hby at_218) rfl ((if0 _ _).trans (feq (by decide)).1) (XS.iconst X253.here hx rfl (hb hby at_221) (XS.goto X253.here hx rfl (pc0 := 222) (pc' := 226) rfl (hb hby at_222) (by decide) (by decide) k)))) ?_
      show Go p.tables e below Pf (T253.setTop (mkF m 226 #[vi il, vi ia, vi ib, vi ic, vi id, vi (1 : Int32), vi (0 : Int32), vi q7, vi q8, vi q9, vi q10, vr r_235, vr r_236, vr r_239, vi (2 : Int32)] [(.int (1 : Int32))]))
      rw [hPf]
      exact Go.retIS X253 hx hEL Sb239 e253 hh hret hlk (by simp) rfl (hb hby at_226) (by decide) (by decide) ⟨rfl, N239, (by rw [e253]; exact KC239)⟩
    · refine Go.castF (a := ((((il.toUInt32 >>> ((8 : Int32) &&& 31).toUInt32).toInt32) &&& (2147483647 : Int32)) % (3 : Int32))) (b := (1 : Int32)) (fun z' : Int32 => mkF m 52 #[vi il, vi ia, vi ib, vi ic, vi id, vi (1 : Int32), vi z', vi q7, vi q8, vi q9, vi q10, .unset, .unset, .unset, .unset] []) (hm) ?_
      show Go p.tables e below Pf (s₁.setTop (mkF m 52 #[vi il, vi ia, vi ib, vi ic, vi id, vi (1 : Int32), vi (1 : Int32), vi q7, vi q8, vi q9, vi q10, .unset, .unset, .unset, .unset] []))
      refine Go.by' (fun t k => (XS.iload X0.here hx rfl (hb hby at_52) rfl (XS.iload X0.here hx rfl (hb hby at_54) rfl (XS.iload X0.here hx rfl (hb hby at_56) rfl k)))) ?_
      obtain ⟨_, _, ⟨T254, L254, k254, n254⟩, -, X254, ⟨Lc254, hQ254, l254, y254, z254⟩, st254⟩ := Jvm.LawKit.callS X0 hx (y := (⟨"com/example/slatewipe/slatewipe/TableQualifiedNamePinLaw", "make", "(ICC)Ljava/lang/String;"⟩ : MethodName)) hown (mvT hZ hw1) (mvT hZ hw2) (mvT hZ hw3) (mvT hZ hw4) (by decide) (backOf (W := 0) (rmMk_1 l Z a0 hw [] vcs vfm G q7 q8 h0 n0 O0 bd7.1 bd7.2) hZ hw4 hw3 (by decide) (by decide)) (g := (mkF m 58 #[vi il, vi ia, vi ib, vi ic, vi id, vi (1 : Int32), vi (1 : Int32), vi q7, vi q8, vi q9, vi q10, .unset, .unset, .unset, .unset] [(.int q8), (.int q7), (.int (1 : Int32))])) rfl (by rw [hml]; rfl) (argsL := [(.int (1 : Int32)), (.int q7), (.int q8)]) (rest := []) (lenOf pd_25 rfl) rfl (by show 2 * 0 + _ ≤ _; exact Nat.le_of_eq rfl) (hb hby at_58) (fun _ _ => ⟨rfl, e0, (by decide : 0 + 3 ≤ _), (by decide : 0 + 6 ≤ _)⟩)
      dsimp only [Pt.U, Pt.locs, Pt.cells, Pt.slots] at X254 l254 y254 z254 st254 hQ254
      subst l254 y254 z254
      obtain ⟨r_254, rb_254, kb_254, rfl, N254q, K254, f254_0, f254_1, f254_2, f254_3, f254_4, f254_5⟩ := hQ254
      have N254 := Fr.app N0 N254q
      obtain ⟨lc254, X254, N254⟩ := own_pack X254 N254
      refine Go.by' st254 ?_
      have Sf_r_254 : Safe Z consts_1 s.vm h0 r_254 := Safe.new f254_1
      have g_r_254 : n0 ≤ r_254 := Nat.le_trans (own_le O0) f254_1
      have sz_r_254 : h0.size ≤ r_254 := Nat.le_trans KC0.1 f254_1
      have Sf_rb_254 : Safe Z consts_1 s.vm h0 rb_254 := Safe.new f254_5
      have g_rb_254 : n0 ≤ rb_254 := Nat.le_trans (own_le O0) f254_5
      have sz_rb_254 : h0.size ≤ rb_254 := Nat.le_trans KC0.1 f254_5
      have Sb254 := Sb0.keep K254 sf0
      have O254 := O0.keep K254 all0
      have KC254 : Keep h0 T254.heap [] := KC0.trans K254 all0
      show Go p.tables e below Pf (T254.setTop (mkF m 61 #[vi il, vi ia, vi ib, vi ic, vi id, vi (1 : Int32), vi (1 : Int32), vi q7, vi q8, vi q9, vi q10, .unset, .unset, .unset, .unset] [(.ref r_254)]))
      refine Go.by' (fun t k => (XS.astore X254.here hx rfl (hb hby at_61) rfl rfl (l' := #[vi il, vi ia, vi ib, vi ic, vi id, vi (1 : Int32), vi (1 : Int32), vi q7, vi q8, vi q9, vi q10, vr r_254, .unset, .unset, .unset]) rfl (XS.iload X254.here hx rfl (hb hby at_63) rfl (XS.iload X254.here hx rfl (hb hby at_65) rfl (XS.iload X254.here hx rfl (hb hby at_67) rfl k))))) ?_
      obtain ⟨_, _, ⟨T255, L255, k255, n255⟩, -, X255, ⟨Lc255, hQ255, l255, y255, z255⟩, st255⟩ := Jvm.LawKit.callS X254 hx (y := (⟨"com/example/slatewipe/slatewipe/TableQualifiedNamePinLaw", "make", "(ICC)Ljava/lang/String;"⟩ : MethodName)) hown (mvT hZ hw1) (mvT hZ hw2) (mvT hZ hw3) (mvT hZ hw4) (by decide) (backOf (W := 0) (rmMk_1 l Z a0 hw [] vcs vfm G q9 q10 T254.heap n0 O254 bd9.1 bd9.2) hZ hw4 hw3 (by decide) (by decide)) (g := (mkF m 69 #[vi il, vi ia, vi ib, vi ic, vi id, vi (1 : Int32), vi (1 : Int32), vi q7, vi q8, vi q9, vi q10, vr r_254, .unset, .unset, .unset] [(.int q10), (.int q9), (.int (1 : Int32))])) rfl (by rw [hml]; rfl) (argsL := [(.int (1 : Int32)), (.int q9), (.int q10)]) (rest := []) (lenOf pd_25 rfl) rfl (by show 2 * 0 + _ ≤ _; exact Nat.le_of_eq rfl) (hb hby at_69) (fun _ _ => ⟨rfl, rfl, (by decide : 3 + 3 ≤ _), (by decide : 6 + 6 ≤ _)⟩)
      dsimp only [Pt.U, Pt.locs, Pt.cells, Pt.slots] at X255 l255 y255 z255 st255 hQ255
      subst l255 y255 z255
      obtain ⟨r_255, rb_255, kb_255, rfl, N255q, K255, f255_0, f255_1, f255_2, f255_3, f255_4, f255_5⟩ := hQ255
      have N255 := Fr.app N254 N255q
      obtain ⟨lc255, X255, N255⟩ := own_pack X255 N255
      refine Go.by' st255 ?_
      have Sf_r_255 : Safe Z consts_1 s.vm T254.heap r_255 := Safe.new f255_1
      have g_r_255 : n0 ≤ r_255 := Nat.le_trans (own_le O254) f255_1
      have sz_r_255 : h0.size ≤ r_255 := Nat.le_trans KC254.1 f255_1
      have Sf_rb_255 : Safe Z consts_1 s.vm T254.heap rb_255 := Safe.new f255_5
      have g_rb_255 : n0 ≤ rb_255 := Nat.le_trans (own_le O254) f255_5
      have sz_rb_255 : h0.size ≤ rb_255 := Nat.le_trans KC254.1 f255_5
      have Sb255 := Sb254.keep K255 sf0
      have O255 := O254.keep K255 all0
      have KC255 : Keep h0 T255.heap [] := KC254.trans K255 all0
      show Go p.tables e below Pf (T255.setTop (mkF m 72 #[vi il, vi ia, vi ib, vi ic, vi id, vi (1 : Int32), vi (1 : Int32), vi q7, vi q8, vi q9, vi q10, vr r_254, .unset, .unset, .unset] [(.ref r_255)]))
      refine Go.by' (fun t k => (XS.astore X255.here hx rfl (hb hby at_72) rfl rfl (l' := #[vi il, vi ia, vi ib, vi ic, vi id, vi (1 : Int32), vi (1 : Int32), vi q7, vi q8, vi q9, vi q10, vr r_254, vr r_255, .unset, .unset]) rfl k)) ?_
      obtain ⟨T256, h256, X256, e256, E256, A256, D256, -, st256⟩ := newO X255 hx hZ hown hw27 hw28 hw29 rfl (g := (mkF m 74 #[vi il, vi ia, vi ib, vi ic, vi id, vi (1 : Int32), vi (1 : Int32), vi q7, vi q8, vi q9, vi q10, vr r_254, vr r_255, .unset, .unset] [])) rfl (hb hby at_74) (by decide) (by decide)
      obtain ⟨b256, g256⟩ : ∃ z, z = T255.heap.size := ⟨_, rfl⟩
      rw [← g256] at A256 D256 st256
      refine Go.by' st256 ?_
      have Sf_b256 : Safe Z consts_1 s.vm T255.heap b256 := Safe.new (Nat.le_of_eq g256.symm)
      have g_b256 : n0 ≤ b256 := Nat.le_trans (own_le O255) (Nat.le_of_eq g256.symm)
      have sz_b256 : h0.size ≤ b256 := Nat.le_trans KC255.1 (Nat.le_of_eq g256.symm)
      have Sb256 := Sb255.ext E256
      have O256 := O255.ext E256
      have KC256 : Keep h0 h256 [] := KC255.ext E256
      have Fn256_40 : Fld Z h256 b256 "com/example/slatewipe/slatewipe/Table" "schema" "Ljava/lang/String;" Value.null := D256 (Or.inr hw40) (ty := (.object "java/lang/String")) (by decide)
      have Fn256_42 : Fld Z h256 b256 "com/example/slatewipe/slatewipe/Table" "name" "Ljava/lang/String;" Value.null := D256 (Or.inr hw42) (ty := (.object "java/lang/String")) (by decide)
      show Go p.tables e below Pf (T256.setTop (mkF m 77 #[vi il, vi ia, vi ib, vi ic, vi id, vi (1 : Int32), vi (1 : Int32), vi q7, vi q8, vi q9, vi q10, vr r_254, vr r_255, .unset, .unset] [(.ref b256)]))
      refine Go.by' (fun t k => (XS.dup X256.here hx rfl (hb hby at_77) rfl rfl (XS.aload X256.here hx rfl (hb hby at_78) rfl rfl (XS.aload X256.here hx rfl (hb hby at_80) rfl rfl k)))) ?_
      obtain ⟨_, _, ⟨T257, L257, k257, n257⟩, -, X257, ⟨Lc257, hQ257, l257, y257, z257⟩, st257⟩ := X256.specialBack hx (y := (⟨"com/example/slatewipe/slatewipe/Table", "<init>", "(Ljava/lang/String;Ljava/lang/String;)V"⟩ : MethodName)) rfl hown (mvT hZ hw30) (mvT hZ hw31) (mvT hZ hw32) (by decide) (backOf (W := 1) (rmTab l Z a0 hw [] vcs vfm G b256 r_254 r_255 h256 n0 O256 A256 Fn256_40 Fn256_42 g_b256) hZ hw32 hw29 (by decide) (by decide)) (g := (mkF m 82 #[vi il, vi ia, vi ib, vi ic, vi id, vi (1 : Int32), vi (1 : Int32), vi q7, vi q8, vi q9, vi q10, vr r_254, vr r_255, .unset, .unset] [(.ref r_255), (.ref r_254), (.ref b256), (.ref b256)])) rfl (by rw [hml]; rfl) (Steps.refl _) (a := b256) (argsL := [(.ref r_254), (.ref r_255)]) (rest := [(.ref b256)]) (lenOf pd_26 rfl) rfl (by show 2 * 0 + _ ≤ _; exact Nat.le_of_eq rfl) (hb hby at_82) (fun _ _ => ⟨rfl, e256, (by decide : 7 + 0 ≤ _), (by decide : 14 + 0 ≤ _)⟩)
      dsimp only [Pt.U, Pt.locs, Pt.cells, Pt.slots] at X257 l257 y257 z257 st257 hQ257
      subst l257 y257 z257
      obtain ⟨rfl, N257q, K257, f257_0, f257_1, f257_2⟩ := hQ257
      have N257 := Fr.app N255 N257q
      obtain ⟨lc257, X257, N257⟩ := own_pack X257 N257
      refine Go.by' (fun t k => st257.trans k) ?_
      have Sb257 := Sb256.keep K257 (sfS (Safe.ext E256 Sb255.ch Sf_b256) sf0)
      have O257 := O256.keep K257 (allS g_b256 all0)
      have KC257 : Keep h0 T257.heap [] := KC256.trans K257 (allS (Or.inr sz_b256) all0)
      have c259 := (((f254_4.keep K255 nin0).ext E256).keep K257 (ninS (Nat.ne_of_lt (Nat.lt_of_lt_of_le (Nat.lt_of_lt_of_le f254_4.lt K255.1) (Nat.le_of_eq g256.symm))) nin0))
      have c260 := ((f255_4.ext E256).keep K257 (ninS (Nat.ne_of_lt (Nat.lt_of_lt_of_le f255_4.lt (Nat.le_of_eq g256.symm))) nin0))
      have c261 := (((f254_0.keep K255).ext E256).keep K257)
      have c262 := (((f254_2.keep K255 nin0).ext E256).keep K257 (ninS (Nat.ne_of_lt (Nat.lt_of_lt_of_le (Nat.lt_of_lt_of_le f254_0.lt K255.1) (Nat.le_of_eq g256.symm))) nin0))
      have c263 := (((f254_3.keep K255 nin0).ext E256).keep K257 (ninS (Nat.ne_of_lt (Nat.lt_of_lt_of_le (Nat.lt_of_lt_of_le f254_0.lt K255.1) (Nat.le_of_eq g256.symm))) nin0))
      have c264 := ((f255_0.ext E256).keep K257)
      have c265 := ((f255_2.ext E256).keep K257 (ninS (Nat.ne_of_lt (Nat.lt_of_lt_of_le f255_0.lt (Nat.le_of_eq g256.symm))) nin0))
      have c266 := ((f255_3.ext E256).keep K257 (ninS (Nat.ne_of_lt (Nat.lt_of_lt_of_le f255_0.lt (Nat.le_of_eq g256.symm))) nin0))
      obtain ⟨cq258, kq258, q258a, q258b, q258c⟩ := isOf hZ rfl f257_0
      obtain ⟨_, _, ⟨T258, L258, k258, n258⟩, -, X258, Si258, Gr258, ⟨Lc258, hQ258, l258, y258, z258, A258⟩, st258⟩ := X257.virtualBackS hx (y := (⟨"com/example/slatewipe/slatewipe/Table", "qualifiedName", "()Ljava/lang/String;"⟩ : MethodName)) (z := (⟨"com/example/slatewipe/slatewipe/Table", "qualifiedName", "()Ljava/lang/String;"⟩ : MethodName)) hown (mvT hZ hw43) (mvT hZ hw44) (notFace_of_selects (args := #[]) (mvT hZ hw46)) (mvT hZ hw46) (mvT hZ hw45) (by decide) (own_backS (W := 0) (rmQN l Z a0 hw [] vcs vfm G b256 r_254 rb_254 kb_254 ((1 : Int32)) ([(Value.int (q7.toInt8.toInt32))]) r_255 rb_255 kb_255 ((1 : Int32)) ([(Value.int (q9.toInt8.toInt32))]) T257.heap n0 O257 f257_0 f257_1 f257_2 c261 c262 c263 c259 (Or.inr (Or.inl rfl)) c264 c265 c266 c260 (Or.inr (Or.inl rfl))) Sb257 hw47 hw29 (by decide) (by decide) hEL all0) q258a q258c (g := (mkF m 85 #[vi il, vi ia, vi ib, vi ic, vi id, vi (1 : Int32), vi (1 : Int32), vi q7, vi q8, vi q9, vi q10, vr r_254, vr r_255, .unset, .unset] [(.ref b256)])) rfl (by rw [hml]; rfl) (Steps.refl _) (argsL := []) (rest := []) (lenOf pd_21 rfl) rfl (by show 2 * 0 + _ ≤ _; exact Nat.le_of_eq rfl) (hb hby at_85) (fun _ _ => ⟨rfl, rfl, (by decide : 7 + 6 ≤ _), (by decide : 14 + 48 ≤ _)⟩)
      dsimp only [Pt.U, Pt.locs, Pt.cells, Pt.slots] at X258 l258 y258 z258 st258 hQ258 Si258 Gr258 A258
      subst l258 y258 z258
      obtain ⟨r_258, rb_258, kb_258, zr_258, vsr_258, rfl, N258q, K258, f258_0, f258_1, f258_2, f258_3, f258_4, f258_5, r258_0, r258_1⟩ := hQ258
      have N258 := Fr.app N257 N258q
      obtain ⟨lc258, X258, N258⟩ := own_pack X258 N258
      replace X258 := own_reb X258
      have Sb258 := Sb257.called Si258 Gr258 A258
      have hZ258 := Sb258.hZ
      have hO258 := Sb258.hO
      refine Go.by' (fun t k => st258.trans k) ?_
      have Sf_r_258 : Safe Z consts_1 s.vm T257.heap r_258 := Safe.new f258_1
      have g_r_258 : n0 ≤ r_258 := Nat.le_trans (own_le O257) f258_1
      have sz_r_258 : h0.size ≤ r_258 := Nat.le_trans KC257.1 f258_1
      have Sf_rb_258 : Safe Z consts_1 s.vm T257.heap rb_258 := Safe.new f258_5
      have g_rb_258 : n0 ≤ rb_258 := Nat.le_trans (own_le O257) f258_5
      have sz_rb_258 : h0.size ≤ rb_258 := Nat.le_trans KC257.1 f258_5
      have O258 := O257.keep K258 all0
      have KC258 : Keep h0 T258.heap [] := KC257.trans K258 all0
      obtain rfl : zr_258 = (3 : Int32) := r258_0.trans (by decide)
      obtain rfl : vsr_258 = [(Value.int (q7.toInt8.toInt32)), (Value.int (46 : Int32)), (Value.int (q9.toInt8.toInt32))] := r258_1.trans rfl
      show Go p.tables e below Pf (T258.setTop (mkF m 88 #[vi il, vi ia, vi ib, vi ic, vi id, vi (1 : Int32), vi (1 : Int32), vi q7, vi q8, vi q9, vi q10, vr r_254, vr r_255, .unset, .unset] [(.ref r_258)]))
      refine Go.by' (fun t k => (XS.astore X258.here hx rfl (hb hby at_88) rfl rfl (l' := #[vi il, vi ia, vi ib, vi ic, vi id, vi (1 : Int32), vi (1 : Int32), vi q7, vi q8, vi q9, vi q10, vr r_254, vr r_255, vr r_258, .unset]) rfl (XS.iload X258.here hx rfl (hb hby at_90) rfl (XS.iconst X258.here hx rfl (hb hby at_92) (XS.iadd X258.here hx rfl (hb hby at_93) rfl k))))) ?_
      show Go p.tables e below Pf (T258.setTop (mkF m 94 #[vi il, vi ia, vi ib, vi ic, vi id, vi (1 : Int32), vi (1 : Int32), vi q7, vi q8, vi q9, vi q10, vr r_254, vr r_255, vr r_258, .unset] [(.int ((1 : Int32) + (1 : Int32)))]))
      refine Go.castF (a := ((1 : Int32) + (1 : Int32))) (b := (2 : Int32)) (fun z' : Int32 => mkF m 94 #[vi il, vi ia, vi ib, vi ic, vi id, vi (1 : Int32), vi (1 : Int32), vi q7, vi q8, vi q9, vi q10, vr r_254, vr r_255, vr r_258, .unset] [(.int z')]) (by decide) ?_
      show Go p.tables e below Pf (T258.setTop (mkF m 94 #[vi il, vi ia, vi ib, vi ic, vi id, vi (1 : Int32), vi (1 : Int32), vi q7, vi q8, vi q9, vi q10, vr r_254, vr r_255, vr r_258, .unset] [(.int (2 : Int32))]))
      refine Go.by' (fun t k => (XS.iload X258.here hx rfl (hb hby at_94) rfl (XS.iadd X258.here hx rfl (hb hby at_96) rfl k))) ?_
      show Go p.tables e below Pf (T258.setTop (mkF m 97 #[vi il, vi ia, vi ib, vi ic, vi id, vi (1 : Int32), vi (1 : Int32), vi q7, vi q8, vi q9, vi q10, vr r_254, vr r_255, vr r_258, .unset] [(.int ((2 : Int32) + (1 : Int32)))]))
      refine Go.castF (a := ((2 : Int32) + (1 : Int32))) (b := (3 : Int32)) (fun z' : Int32 => mkF m 97 #[vi il, vi ia, vi ib, vi ic, vi id, vi (1 : Int32), vi (1 : Int32), vi q7, vi q8, vi q9, vi q10, vr r_254, vr r_255, vr r_258, .unset] [(.int z')]) (by decide) ?_
      show Go p.tables e below Pf (T258.setTop (mkF m 97 #[vi il, vi ia, vi ib, vi ic, vi id, vi (1 : Int32), vi (1 : Int32), vi q7, vi q8, vi q9, vi q10, vr r_254, vr r_255, vr r_258, .unset] [(.int (3 : Int32))]))
      refine Go.by' (fun t k => (XS.istore X258.here hx rfl (hb hby at_97) rfl (l' := #[vi il, vi ia, vi ib, vi ic, vi id, vi (1 : Int32), vi (1 : Int32), vi q7, vi q8, vi q9, vi q10, vr r_254, vr r_255, vr r_258, vi (3 : Int32)]) rfl (XS.aload X258.here hx rfl (hb hby at_99) rfl rfl (XS.ifnullNo X258.here hx rfl (hb hby at_101) rfl (XS.aload X258.here hx rfl (hb hby at_104) rfl rfl k))))) ?_
      obtain ⟨cq267, kq267, q267a, q267b, q267c⟩ := isOf hZ258 rfl f258_0
      obtain ⟨_, _, ⟨T267, L267, k267, n267⟩, -, X267, ⟨Lc267, hQ267, l267, y267, z267⟩, st267⟩ := X258.virtualBack hx (y := (⟨"java/lang/String", "length", "()I"⟩ : MethodName)) (z := (⟨"java/lang/String", "length", "()I"⟩ : MethodName)) hO258 (mvT hZ258 hw160) (mvT hZ258 hw77) (notFace_of_selects (args := #[]) (mvT hZ258 hw79)) (mvT hZ258 hw79) (mvT hZ258 hw78) (by decide) (backOf (W := 0) (rmLn l Z a0 hw [] vcs vfm G r_258 rb_258 kb_258 ((3 : Int32)) ([(Value.int (q7.toInt8.toInt32)), (Value.int (46 : Int32)), (Value.int (q9.toInt8.toInt32))]) T258.heap n0 O258 f258_0 f258_2 f258_3 f258_4) hZ258 hw80 hw7 (by decide) (by decide)) q267a q267c (g := (mkF m 106 #[vi il, vi ia, vi ib, vi ic, vi id, vi (1 : Int32), vi (1 : Int32), vi q7, vi q8, vi q9, vi q10, vr r_254, vr r_255, vr r_258, vi (3 : Int32)] [(.ref r_258)])) rfl (by rw [hml]; rfl) (Steps.refl _) (argsL := []) (rest := []) (lenOf pd_8 rfl) rfl (by show 2 * 0 + _ ≤ _; exact Nat.le_of_eq rfl) (hb hby at_106) (fun _ _ => ⟨rfl, rfl, (by decide : 13 + 0 ≤ _), (by decide : 62 + 0 ≤ _)⟩)
      dsimp only [Pt.U, Pt.locs, Pt.cells, Pt.slots] at X267 l267 y267 z267 st267 hQ267
      subst l267 y267 z267
      obtain ⟨rfl, rfl, e267⟩ := hQ267
      try replace X267 := own_nil X267
      refine Go.by' (fun t k => st267.trans k) ?_
      show Go p.tables e below Pf (T267.setTop (mkF m 109 #[vi il, vi ia, vi ib, vi ic, vi id, vi (1 : Int32), vi (1 : Int32), vi q7, vi q8, vi q9, vi q10, vr r_254, vr r_255, vr r_258, vi (3 : Int32)] [(.int (3 : Int32))]))
      refine Go.by' (fun t k => (XS.iload X267.here hx rfl (hb hby at_109) rfl (XS.icmpYes X267.here hx rfl (pc0 := 111) (pc' := 116) rfl (hb hby at_111) rfl (teq (by decide)).1 (by decide) (by decide) (XS.aload X267.here hx rfl (hb hby at_116) rfl rfl (XS.iconst X267.here hx rfl (hb hby at_118) (XS.iload X267.here hx rfl (hb hby at_119) rfl (XS.iload X267.here hx rfl (hb hby at_121) rfl (XS.iload X267.here hx rfl (hb hby at_123) rfl (XS.iload X267.here hx rfl (hb hby at_125) rfl k))))))))) ?_
      show Go p.tables e below Pf (T267.setTop (mkF m 127 #[vi il, vi ia, vi ib, vi ic, vi id, vi (1 : Int32), vi (1 : Int32), vi q7, vi q8, vi q9, vi q10, vr r_254, vr r_255, vr r_258, vi (3 : Int32)] [(.int q8), (.int q7), (.int (1 : Int32)), (.int (3 : Int32)), (.int (0 : Int32)), (.ref r_258)]))
      refine Go.by' (fun t k => (XS.iload X267.here hx rfl (hb hby at_127) rfl (XS.iload X267.here hx rfl (hb hby at_129) rfl k))) ?_
      obtain ⟨_, _, ⟨T268, L268, k268, n268⟩, -, X268, ⟨Lc268, hQ268, l268, y268, z268⟩, st268⟩ := Jvm.LawKit.callS X267 hx (y := (⟨"com/example/slatewipe/slatewipe/TableQualifiedNamePinLaw", "at", "(Ljava/lang/String;IIICCCC)Z"⟩ : MethodName)) hO258 (mvT hZ258 hw161) (mvT hZ258 hw162) (mvT hZ258 hw3) (mvT hZ258 hw163) (by decide) (backOf (W := 0) (rmAt_10 l Z a0 hw [] vcs vfm G r_258 ((3 : Int32)) q7 q8 q9 q10 rb_258 kb_258 ([(Value.int (q7.toInt8.toInt32)), (Value.int (46 : Int32)), (Value.int (q9.toInt8.toInt32))]) ((q7.toInt8.toInt32)) T258.heap n0 O258 f258_0 f258_2 f258_3 f258_4 (by decide) rfl (own_u8 bd7)) hZ258 hw163 hw3 (by decide) (by decide)) (g := (mkF m 131 #[vi il, vi ia, vi ib, vi ic, vi id, vi (1 : Int32), vi (1 : Int32), vi q7, vi q8, vi q9, vi q10, vr r_254, vr r_255, vr r_258, vi (3 : Int32)] [(.int q10), (.int q9), (.int q8), (.int q7), (.int (1 : Int32)), (.int (3 : Int32)), (.int (0 : Int32)), (.ref r_258)])) rfl (by rw [hml]; rfl) (argsL := [(.ref r_258), (.int (0 : Int32)), (.int (3 : Int32)), (.int (1 : Int32)), (.int q7), (.int q8), (.int q9), (.int q10)]) (rest := []) (lenOf pd_27 rfl) rfl (by show 2 * 0 + _ ≤ _; exact Nat.le_of_eq rfl) (hb hby at_131) (fun _ _ => ⟨rfl, e267, (by decide : 13 + 0 ≤ _), (by decide : 62 + 0 ≤ _)⟩)
      dsimp only [Pt.U, Pt.locs, Pt.cells, Pt.slots] at X268 l268 y268 z268 st268 hQ268
      subst l268 y268 z268
      obtain ⟨rfl, rfl, e268⟩ := hQ268
      try replace X268 := own_nil X268
      refine Go.by' st268 ?_
      show Go p.tables e below Pf (T268.setTop (mkF m 134 #[vi il, vi ia, vi ib, vi ic, vi id, vi (1 : Int32), vi (1 : Int32), vi q7, vi q8, vi q9, vi q10, vr r_254, vr r_255, vr r_258, vi (3 : Int32)] [(.int (1 : Int32))]))
      refine Go.by' (fun t k => (XS.ifNo X268.here hx rfl (hb hby at_134) rfl ((if0 _ _).trans (feq (by decide)).1) (XS.aload X268.here hx rfl (hb hby at_137) rfl rfl (XS.iconst X268.here hx rfl (hb hby at_139) (XS.iload X268.here hx rfl (hb hby at_140) rfl (XS.iload X268.here hx rfl (hb hby at_142) rfl (XS.iload X268.here hx rfl (hb hby at_144) rfl (XS.iload X268.here hx rfl (hb hby at_146) rfl (XS.iload X268.here hx rfl (hb hby at_148) rfl k))))))))) ?_
      show Go p.tables e below Pf (T268.setTop (mkF m 150 #[vi il, vi ia, vi ib, vi ic, vi id, vi (1 : Int32), vi (1 : Int32), vi q7, vi q8, vi q9, vi q10, vr r_254, vr r_255, vr r_258, vi (3 : Int32)] [(.int q9), (.int q8), (.int q7), (.int (1 : Int32)), (.int (3 : Int32)), (.int (1 : Int32)), (.ref r_258)]))
      refine Go.by' (fun t k => (XS.iload X268.here hx rfl (hb hby at_150) rfl k)) ?_
      obtain ⟨_, _, ⟨T269, L269, k269, n269⟩, -, X269, ⟨Lc269, hQ269, l269, y269, z269⟩, st269⟩ := Jvm.LawKit.callS X268 hx (y := (⟨"com/example/slatewipe/slatewipe/TableQualifiedNamePinLaw", "at", "(Ljava/lang/String;IIICCCC)Z"⟩ : MethodName)) hO258 (mvT hZ258 hw161) (mvT hZ258 hw162) (mvT hZ258 hw3) (mvT hZ258 hw163) (by decide) (backOf (W := 0) (rmAt_11 l Z a0 hw [] vcs vfm G r_258 ((3 : Int32)) q7 q8 q9 q10 rb_258 kb_258 ([(Value.int (q7.toInt8.toInt32)), (Value.int (46 : Int32)), (Value.int (q9.toInt8.toInt32))]) ((46 : Int32)) T258.heap n0 O258 f258_0 f258_2 f258_3 f258_4 (by decide) rfl (by decide)) hZ258 hw163 hw3 (by decide) (by decide)) (g := (mkF m 152 #[vi il, vi ia, vi ib, vi ic, vi id, vi (1 : Int32), vi (1 : Int32), vi q7, vi q8, vi q9, vi q10, vr r_254, vr r_255, vr r_258, vi (3 : Int32)] [(.int q10), (.int q9), (.int q8), (.int q7), (.int (1 : Int32)), (.int (3 : Int32)), (.int (1 : Int32)), (.ref r_258)])) rfl (by rw [hml]; rfl) (argsL := [(.ref r_258), (.int (1 : Int32)), (.int (3 : Int32)), (.int (1 : Int32)), (.int q7), (.int q8), (.int q9), (.int q10)]) (rest := []) (lenOf pd_27 rfl) rfl (by show 2 * 0 + _ ≤ _; exact Nat.le_of_eq rfl) (hb hby at_152) (fun _ _ => ⟨rfl, e268, (by decide : 13 + 0 ≤ _), (by decide : 62 + 0 ≤ _)⟩)
      dsimp only [Pt.U, Pt.locs, Pt.cells, Pt.slots] at X269 l269 y269 z269 st269 hQ269
      subst l269 y269 z269
      obtain ⟨rfl, rfl, e269⟩ := hQ269
      try replace X269 := own_nil X269
      refine Go.by' st269 ?_
      show Go p.tables e below Pf (T269.setTop (mkF m 155 #[vi il, vi ia, vi ib, vi ic, vi id, vi (1 : Int32), vi (1 : Int32), vi q7, vi q8, vi q9, vi q10, vr r_254, vr r_255, vr r_258, vi (3 : Int32)] [(.int (1 : Int32))]))
      refine Go.by' (fun t k => (XS.ifNo X269.here hx rfl (hb hby at_155) rfl ((if0 _ _).trans (feq (by decide)).1) (XS.aload X269.here hx rfl (hb hby at_158) rfl rfl (XS.iconst X269.here hx rfl (hb hby at_160) (XS.iload X269.here hx rfl (hb hby at_161) rfl (XS.iload X269.here hx rfl (hb hby at_163) rfl (XS.iload X269.here hx rfl (hb hby at_165) rfl (XS.iload X269.here hx rfl (hb hby at_167) rfl (XS.iload X269.here hx rfl (hb hby at_169) rfl k))))))))) ?_
      show Go p.tables e below Pf (T269.setTop (mkF m 171 #[vi il, vi ia, vi ib, vi ic, vi id, vi (1 : Int32), vi (1 : Int32), vi q7, vi q8, vi q9, vi q10, vr r_254, vr r_255, vr r_258, vi (3 : Int32)] [(.int q9), (.int q8), (.int q7), (.int (1 : Int32)), (.int (3 : Int32)), (.int (2 : Int32)), (.ref r_258)]))
      refine Go.by' (fun t k => (XS.iload X269.here hx rfl (hb hby at_171) rfl k)) ?_
      obtain ⟨_, _, ⟨T270, L270, k270, n270⟩, -, X270, ⟨Lc270, hQ270, l270, y270, z270⟩, st270⟩ := Jvm.LawKit.callS X269 hx (y := (⟨"com/example/slatewipe/slatewipe/TableQualifiedNamePinLaw", "at", "(Ljava/lang/String;IIICCCC)Z"⟩ : MethodName)) hO258 (mvT hZ258 hw161) (mvT hZ258 hw162) (mvT hZ258 hw3) (mvT hZ258 hw163) (by decide) (backOf (W := 0) (rmAt_12 l Z a0 hw [] vcs vfm G r_258 ((3 : Int32)) q7 q8 q9 q10 rb_258 kb_258 ([(Value.int (q7.toInt8.toInt32)), (Value.int (46 : Int32)), (Value.int (q9.toInt8.toInt32))]) ((q9.toInt8.toInt32)) T258.heap n0 O258 f258_0 f258_2 f258_3 f258_4 (by decide) rfl (own_u8 bd9)) hZ258 hw163 hw3 (by decide) (by decide)) (g := (mkF m 173 #[vi il, vi ia, vi ib, vi ic, vi id, vi (1 : Int32), vi (1 : Int32), vi q7, vi q8, vi q9, vi q10, vr r_254, vr r_255, vr r_258, vi (3 : Int32)] [(.int q10), (.int q9), (.int q8), (.int q7), (.int (1 : Int32)), (.int (3 : Int32)), (.int (2 : Int32)), (.ref r_258)])) rfl (by rw [hml]; rfl) (argsL := [(.ref r_258), (.int (2 : Int32)), (.int (3 : Int32)), (.int (1 : Int32)), (.int q7), (.int q8), (.int q9), (.int q10)]) (rest := []) (lenOf pd_27 rfl) rfl (by show 2 * 0 + _ ≤ _; exact Nat.le_of_eq rfl) (hb hby at_173) (fun _ _ => ⟨rfl, e269, (by decide : 13 + 0 ≤ _), (by decide : 62 + 0 ≤ _)⟩)
      dsimp only [Pt.U, Pt.locs, Pt.cells, Pt.slots] at X270 l270 y270 z270 st270 hQ270
      subst l270 y270 z270
      obtain ⟨rfl, rfl, e270⟩ := hQ270
      try replace X270 := own_nil X270
      refine Go.by' st270 ?_
      show Go p.tables e below Pf (T270.setTop (mkF m 176 #[vi il, vi ia, vi ib, vi ic, vi id, vi (1 : Int32), vi (1 : Int32), vi q7, vi q8, vi q9, vi q10, vr r_254, vr r_255, vr r_258, vi (3 : Int32)] [(.int (1 : Int32))]))
      refine Go.by' (fun t k => (XS.ifNo X270.here hx rfl (hb hby at_176) rfl ((if0 _ _).trans (feq (by decide)).1) (XS.aload X270.here hx rfl (hb hby at_179) rfl rfl (XS.iconst X270.here hx rfl (hb hby at_181) (XS.iload X270.here hx rfl (hb hby at_182) rfl (XS.iload X270.here hx rfl (hb hby at_184) rfl (XS.iload X270.here hx rfl (hb hby at_186) rfl (XS.iload X270.here hx rfl (hb hby at_188) rfl (XS.iload X270.here hx rfl (hb hby at_190) rfl k))))))))) ?_
      show Go p.tables e below Pf (T270.setTop (mkF m 192 #[vi il, vi ia, vi ib, vi ic, vi id, vi (1 : Int32), vi (1 : Int32), vi q7, vi q8, vi q9, vi q10, vr r_254, vr r_255, vr r_258, vi (3 : Int32)] [(.int q9), (.int q8), (.int q7), (.int (1 : Int32)), (.int (3 : Int32)), (.int (3 : Int32)), (.ref r_258)]))
      refine Go.by' (fun t k => (XS.iload X270.here hx rfl (hb hby at_192) rfl k)) ?_
      obtain ⟨_, _, ⟨T271, L271, k271, n271⟩, -, X271, ⟨Lc271, hQ271, l271, y271, z271⟩, st271⟩ := Jvm.LawKit.callS X270 hx (y := (⟨"com/example/slatewipe/slatewipe/TableQualifiedNamePinLaw", "at", "(Ljava/lang/String;IIICCCC)Z"⟩ : MethodName)) hO258 (mvT hZ258 hw161) (mvT hZ258 hw162) (mvT hZ258 hw3) (mvT hZ258 hw163) (by decide) (backOf (W := 0) (rmAT_3 l Z a0 hw [] vcs vfm G r_258 ((3 : Int32)) ((1 : Int32)) q7 q8 q9 q10 T258.heap n0 O258 (by decide)) hZ258 hw163 hw3 (by decide) (by decide)) (g := (mkF m 194 #[vi il, vi ia, vi ib, vi ic, vi id, vi (1 : Int32), vi (1 : Int32), vi q7, vi q8, vi q9, vi q10, vr r_254, vr r_255, vr r_258, vi (3 : Int32)] [(.int q10), (.int q9), (.int q8), (.int q7), (.int (1 : Int32)), (.int (3 : Int32)), (.int (3 : Int32)), (.ref r_258)])) rfl (by rw [hml]; rfl) (argsL := [(.ref r_258), (.int (3 : Int32)), (.int (3 : Int32)), (.int (1 : Int32)), (.int q7), (.int q8), (.int q9), (.int q10)]) (rest := []) (lenOf pd_27 rfl) rfl (by show 2 * 0 + _ ≤ _; exact Nat.le_of_eq rfl) (hb hby at_194) (fun _ _ => ⟨rfl, e270, (by decide : 13 + 0 ≤ _), (by decide : 62 + 0 ≤ _)⟩)
      dsimp only [Pt.U, Pt.locs, Pt.cells, Pt.slots] at X271 l271 y271 z271 st271 hQ271
      subst l271 y271 z271
      obtain ⟨rfl, rfl, e271⟩ := hQ271
      try replace X271 := own_nil X271
      refine Go.by' st271 ?_
      show Go p.tables e below Pf (T271.setTop (mkF m 197 #[vi il, vi ia, vi ib, vi ic, vi id, vi (1 : Int32), vi (1 : Int32), vi q7, vi q8, vi q9, vi q10, vr r_254, vr r_255, vr r_258, vi (3 : Int32)] [(.int (1 : Int32))]))
      refine Go.by' (fun t k => (XS.ifNo X271.here hx rfl (hb hby at_197) rfl ((if0 _ _).trans (feq (by decide)).1) (XS.aload X271.here hx rfl (hb hby at_200) rfl rfl (XS.iconst X271.here hx rfl (hb hby at_202) (XS.iload X271.here hx rfl (hb hby at_203) rfl (XS.iload X271.here hx rfl (hb hby at_205) rfl (XS.iload X271.here hx rfl (hb hby at_207) rfl (XS.iload X271.here hx rfl (hb hby at_209) rfl (XS.iload X271.here hx rfl (hb hby at_211) rfl k))))))))) ?_
      show Go p.tables e below Pf (T271.setTop (mkF m 213 #[vi il, vi ia, vi ib, vi ic, vi id, vi (1 : Int32), vi (1 : Int32), vi q7, vi q8, vi q9, vi q10, vr r_254, vr r_255, vr r_258, vi (3 : Int32)] [(.int q9), (.int q8), (.int q7), (.int (1 : Int32)), (.int (3 : Int32)), (.int (4 : Int32)), (.ref r_258)]))
      refine Go.by' (fun t k => (XS.iload X271.here hx rfl (hb hby at_213) rfl k)) ?_
      obtain ⟨_, _, ⟨T272, L272, k272, n272⟩, -, X272, ⟨Lc272, hQ272, l272, y272, z272⟩, st272⟩ := Jvm.LawKit.callS X271 hx (y := (⟨"com/example/slatewipe/slatewipe/TableQualifiedNamePinLaw", "at", "(Ljava/lang/String;IIICCCC)Z"⟩ : MethodName)) hO258 (mvT hZ258 hw161) (mvT hZ258 hw162) (mvT hZ258 hw3) (mvT hZ258 hw163) (by decide) (backOf (W := 0) (rmAT_4 l Z a0 hw [] vcs vfm G r_258 ((3 : Int32)) ((1 : Int32)) q7 q8 q9 q10 T258.heap n0 O258 (by decide)) hZ258 hw163 hw3 (by decide) (by decide)) (g := (mkF m 215 #[vi il, vi ia, vi ib, vi ic, vi id, vi (1 : Int32), vi (1 : Int32), vi q7, vi q8, vi q9, vi q10, vr r_254, vr r_255, vr r_258, vi (3 : Int32)] [(.int q10), (.int q9), (.int q8), (.int q7), (.int (1 : Int32)), (.int (3 : Int32)), (.int (4 : Int32)), (.ref r_258)])) rfl (by rw [hml]; rfl) (argsL := [(.ref r_258), (.int (4 : Int32)), (.int (3 : Int32)), (.int (1 : Int32)), (.int q7), (.int q8), (.int q9), (.int q10)]) (rest := []) (lenOf pd_27 rfl) rfl (by show 2 * 0 + _ ≤ _; exact Nat.le_of_eq rfl) (hb hby at_215) (fun _ _ => ⟨rfl, e271, (by decide : 13 + 0 ≤ _), (by decide : 62 + 0 ≤ _)⟩)
      dsimp only [Pt.U, Pt.locs, Pt.cells, Pt.slots] at X272 l272 y272 z272 st272 hQ272
      subst l272 y272 z272
      obtain ⟨rfl, rfl, e272⟩ := hQ272
      try replace X272 := own_nil X272
      refine Go.by' st272 ?_
      show Go p.tables e below Pf (T272.setTop (mkF m 218 #[vi il, vi ia, vi ib, vi ic, vi id, vi (1 : Int32), vi (1 : Int32), vi q7, vi q8, vi q9, vi q10, vr r_254, vr r_255, vr r_258, vi (3 : Int32)] [(.int (1 : Int32))]))
      refine Go.by' (fun t k => (XS.ifNo X272.here hx rfl (hb hby at_218) rfl ((if0 _ _).trans (feq (by decide)).1) (XS.iconst X272.here hx rfl (hb hby at_221) (XS.goto X272.here hx rfl (pc0 := 222) (pc' := 226) rfl (hb hby at_222) (by decide) (by decide) k)))) ?_
      show Go p.tables e below Pf (T272.setTop (mkF m 226 #[vi il, vi ia, vi ib, vi ic, vi id, vi (1 : Int32), vi (1 : Int32), vi q7, vi q8, vi q9, vi q10, vr r_254, vr r_255, vr r_258, vi (3 : Int32)] [(.int (1 : Int32))]))
      rw [hPf]
      exact Go.retIS X272 hx hEL Sb258 e272 hh hret hlk (by simp) rfl (hb hby at_226) (by decide) (by decide) ⟨rfl, N258, (by rw [e272]; exact KC258)⟩
    · refine Go.castF (a := ((((il.toUInt32 >>> ((8 : Int32) &&& 31).toUInt32).toInt32) &&& (2147483647 : Int32)) % (3 : Int32))) (b := (2 : Int32)) (fun z' : Int32 => mkF m 52 #[vi il, vi ia, vi ib, vi ic, vi id, vi (1 : Int32), vi z', vi q7, vi q8, vi q9, vi q10, .unset, .unset, .unset, .unset] []) (hm) ?_
      show Go p.tables e below Pf (s₁.setTop (mkF m 52 #[vi il, vi ia, vi ib, vi ic, vi id, vi (1 : Int32), vi (2 : Int32), vi q7, vi q8, vi q9, vi q10, .unset, .unset, .unset, .unset] []))
      refine Go.by' (fun t k => (XS.iload X0.here hx rfl (hb hby at_52) rfl (XS.iload X0.here hx rfl (hb hby at_54) rfl (XS.iload X0.here hx rfl (hb hby at_56) rfl k)))) ?_
      obtain ⟨_, _, ⟨T273, L273, k273, n273⟩, -, X273, ⟨Lc273, hQ273, l273, y273, z273⟩, st273⟩ := Jvm.LawKit.callS X0 hx (y := (⟨"com/example/slatewipe/slatewipe/TableQualifiedNamePinLaw", "make", "(ICC)Ljava/lang/String;"⟩ : MethodName)) hown (mvT hZ hw1) (mvT hZ hw2) (mvT hZ hw3) (mvT hZ hw4) (by decide) (backOf (W := 0) (rmMk_1 l Z a0 hw [] vcs vfm G q7 q8 h0 n0 O0 bd7.1 bd7.2) hZ hw4 hw3 (by decide) (by decide)) (g := (mkF m 58 #[vi il, vi ia, vi ib, vi ic, vi id, vi (1 : Int32), vi (2 : Int32), vi q7, vi q8, vi q9, vi q10, .unset, .unset, .unset, .unset] [(.int q8), (.int q7), (.int (1 : Int32))])) rfl (by rw [hml]; rfl) (argsL := [(.int (1 : Int32)), (.int q7), (.int q8)]) (rest := []) (lenOf pd_25 rfl) rfl (by show 2 * 0 + _ ≤ _; exact Nat.le_of_eq rfl) (hb hby at_58) (fun _ _ => ⟨rfl, e0, (by decide : 0 + 3 ≤ _), (by decide : 0 + 6 ≤ _)⟩)
      dsimp only [Pt.U, Pt.locs, Pt.cells, Pt.slots] at X273 l273 y273 z273 st273 hQ273
      subst l273 y273 z273
      obtain ⟨r_273, rb_273, kb_273, rfl, N273q, K273, f273_0, f273_1, f273_2, f273_3, f273_4, f273_5⟩ := hQ273
      have N273 := Fr.app N0 N273q
      obtain ⟨lc273, X273, N273⟩ := own_pack X273 N273
      refine Go.by' st273 ?_
      have Sf_r_273 : Safe Z consts_1 s.vm h0 r_273 := Safe.new f273_1
      have g_r_273 : n0 ≤ r_273 := Nat.le_trans (own_le O0) f273_1
      have sz_r_273 : h0.size ≤ r_273 := Nat.le_trans KC0.1 f273_1
      have Sf_rb_273 : Safe Z consts_1 s.vm h0 rb_273 := Safe.new f273_5
      have g_rb_273 : n0 ≤ rb_273 := Nat.le_trans (own_le O0) f273_5
      have sz_rb_273 : h0.size ≤ rb_273 := Nat.le_trans KC0.1 f273_5
      have Sb273 := Sb0.keep K273 sf0
      have O273 := O0.keep K273 all0
      have KC273 : Keep h0 T273.heap [] := KC0.trans K273 all0
      show Go p.tables e below Pf (T273.setTop (mkF m 61 #[vi il, vi ia, vi ib, vi ic, vi id, vi (1 : Int32), vi (2 : Int32), vi q7, vi q8, vi q9, vi q10, .unset, .unset, .unset, .unset] [(.ref r_273)]))
      refine Go.by' (fun t k => (XS.astore X273.here hx rfl (hb hby at_61) rfl rfl (l' := #[vi il, vi ia, vi ib, vi ic, vi id, vi (1 : Int32), vi (2 : Int32), vi q7, vi q8, vi q9, vi q10, vr r_273, .unset, .unset, .unset]) rfl (XS.iload X273.here hx rfl (hb hby at_63) rfl (XS.iload X273.here hx rfl (hb hby at_65) rfl (XS.iload X273.here hx rfl (hb hby at_67) rfl k))))) ?_
      obtain ⟨_, _, ⟨T274, L274, k274, n274⟩, -, X274, ⟨Lc274, hQ274, l274, y274, z274⟩, st274⟩ := Jvm.LawKit.callS X273 hx (y := (⟨"com/example/slatewipe/slatewipe/TableQualifiedNamePinLaw", "make", "(ICC)Ljava/lang/String;"⟩ : MethodName)) hown (mvT hZ hw1) (mvT hZ hw2) (mvT hZ hw3) (mvT hZ hw4) (by decide) (backOf (W := 0) (rmMk_2 l Z a0 hw [] vcs vfm G q9 q10 T273.heap n0 O273 bd9.1 bd9.2 bd10.1 bd10.2) hZ hw4 hw3 (by decide) (by decide)) (g := (mkF m 69 #[vi il, vi ia, vi ib, vi ic, vi id, vi (1 : Int32), vi (2 : Int32), vi q7, vi q8, vi q9, vi q10, vr r_273, .unset, .unset, .unset] [(.int q10), (.int q9), (.int (2 : Int32))])) rfl (by rw [hml]; rfl) (argsL := [(.int (2 : Int32)), (.int q9), (.int q10)]) (rest := []) (lenOf pd_25 rfl) rfl (by show 2 * 0 + _ ≤ _; exact Nat.le_of_eq rfl) (hb hby at_69) (fun _ _ => ⟨rfl, rfl, (by decide : 3 + 3 ≤ _), (by decide : 6 + 8 ≤ _)⟩)
      dsimp only [Pt.U, Pt.locs, Pt.cells, Pt.slots] at X274 l274 y274 z274 st274 hQ274
      subst l274 y274 z274
      obtain ⟨r_274, rb_274, kb_274, rfl, N274q, K274, f274_0, f274_1, f274_2, f274_3, f274_4, f274_5⟩ := hQ274
      have N274 := Fr.app N273 N274q
      obtain ⟨lc274, X274, N274⟩ := own_pack X274 N274
      refine Go.by' st274 ?_
      have Sf_r_274 : Safe Z consts_1 s.vm T273.heap r_274 := Safe.new f274_1
      have g_r_274 : n0 ≤ r_274 := Nat.le_trans (own_le O273) f274_1
      have sz_r_274 : h0.size ≤ r_274 := Nat.le_trans KC273.1 f274_1
      have Sf_rb_274 : Safe Z consts_1 s.vm T273.heap rb_274 := Safe.new f274_5
      have g_rb_274 : n0 ≤ rb_274 := Nat.le_trans (own_le O273) f274_5
      have sz_rb_274 : h0.size ≤ rb_274 := Nat.le_trans KC273.1 f274_5
      have Sb274 := Sb273.keep K274 sf0
      have O274 := O273.keep K274 all0
      have KC274 : Keep h0 T274.heap [] := KC273.trans K274 all0
      show Go p.tables e below Pf (T274.setTop (mkF m 72 #[vi il, vi ia, vi ib, vi ic, vi id, vi (1 : Int32), vi (2 : Int32), vi q7, vi q8, vi q9, vi q10, vr r_273, .unset, .unset, .unset] [(.ref r_274)]))
      refine Go.by' (fun t k => (XS.astore X274.here hx rfl (hb hby at_72) rfl rfl (l' := #[vi il, vi ia, vi ib, vi ic, vi id, vi (1 : Int32), vi (2 : Int32), vi q7, vi q8, vi q9, vi q10, vr r_273, vr r_274, .unset, .unset]) rfl k)) ?_
      obtain ⟨T275, h275, X275, e275, E275, A275, D275, -, st275⟩ := newO X274 hx hZ hown hw27 hw28 hw29 rfl (g := (mkF m 74 #[vi il, vi ia, vi ib, vi ic, vi id, vi (1 : Int32), vi (2 : Int32), vi q7, vi q8, vi q9, vi q10, vr r_273, vr r_274, .unset, .unset] [])) rfl (hb hby at_74) (by decide) (by decide)
      obtain ⟨b275, g275⟩ : ∃ z, z = T274.heap.size := ⟨_, rfl⟩
      rw [← g275] at A275 D275 st275
      refine Go.by' st275 ?_
      have Sf_b275 : Safe Z consts_1 s.vm T274.heap b275 := Safe.new (Nat.le_of_eq g275.symm)
      have g_b275 : n0 ≤ b275 := Nat.le_trans (own_le O274) (Nat.le_of_eq g275.symm)
      have sz_b275 : h0.size ≤ b275 := Nat.le_trans KC274.1 (Nat.le_of_eq g275.symm)
      have Sb275 := Sb274.ext E275
      have O275 := O274.ext E275
      have KC275 : Keep h0 h275 [] := KC274.ext E275
      have Fn275_40 : Fld Z h275 b275 "com/example/slatewipe/slatewipe/Table" "schema" "Ljava/lang/String;" Value.null := D275 (Or.inr hw40) (ty := (.object "java/lang/String")) (by decide)
      have Fn275_42 : Fld Z h275 b275 "com/example/slatewipe/slatewipe/Table" "name" "Ljava/lang/String;" Value.null := D275 (Or.inr hw42) (ty := (.object "java/lang/String")) (by decide)
      show Go p.tables e below Pf (T275.setTop (mkF m 77 #[vi il, vi ia, vi ib, vi ic, vi id, vi (1 : Int32), vi (2 : Int32), vi q7, vi q8, vi q9, vi q10, vr r_273, vr r_274, .unset, .unset] [(.ref b275)]))
      refine Go.by' (fun t k => (XS.dup X275.here hx rfl (hb hby at_77) rfl rfl (XS.aload X275.here hx rfl (hb hby at_78) rfl rfl (XS.aload X275.here hx rfl (hb hby at_80) rfl rfl k)))) ?_
      obtain ⟨_, _, ⟨T276, L276, k276, n276⟩, -, X276, ⟨Lc276, hQ276, l276, y276, z276⟩, st276⟩ := X275.specialBack hx (y := (⟨"com/example/slatewipe/slatewipe/Table", "<init>", "(Ljava/lang/String;Ljava/lang/String;)V"⟩ : MethodName)) rfl hown (mvT hZ hw30) (mvT hZ hw31) (mvT hZ hw32) (by decide) (backOf (W := 1) (rmTab l Z a0 hw [] vcs vfm G b275 r_273 r_274 h275 n0 O275 A275 Fn275_40 Fn275_42 g_b275) hZ hw32 hw29 (by decide) (by decide)) (g := (mkF m 82 #[vi il, vi ia, vi ib, vi ic, vi id, vi (1 : Int32), vi (2 : Int32), vi q7, vi q8, vi q9, vi q10, vr r_273, vr r_274, .unset, .unset] [(.ref r_274), (.ref r_273), (.ref b275), (.ref b275)])) rfl (by rw [hml]; rfl) (Steps.refl _) (a := b275) (argsL := [(.ref r_273), (.ref r_274)]) (rest := [(.ref b275)]) (lenOf pd_26 rfl) rfl (by show 2 * 0 + _ ≤ _; exact Nat.le_of_eq rfl) (hb hby at_82) (fun _ _ => ⟨rfl, e275, (by decide : 7 + 0 ≤ _), (by decide : 16 + 0 ≤ _)⟩)
      dsimp only [Pt.U, Pt.locs, Pt.cells, Pt.slots] at X276 l276 y276 z276 st276 hQ276
      subst l276 y276 z276
      obtain ⟨rfl, N276q, K276, f276_0, f276_1, f276_2⟩ := hQ276
      have N276 := Fr.app N274 N276q
      obtain ⟨lc276, X276, N276⟩ := own_pack X276 N276
      refine Go.by' (fun t k => st276.trans k) ?_
      have Sb276 := Sb275.keep K276 (sfS (Safe.ext E275 Sb274.ch Sf_b275) sf0)
      have O276 := O275.keep K276 (allS g_b275 all0)
      have KC276 : Keep h0 T276.heap [] := KC275.trans K276 (allS (Or.inr sz_b275) all0)
      have c278 := (((f273_4.keep K274 nin0).ext E275).keep K276 (ninS (Nat.ne_of_lt (Nat.lt_of_lt_of_le (Nat.lt_of_lt_of_le f273_4.lt K274.1) (Nat.le_of_eq g275.symm))) nin0))
      have c279 := ((f274_4.ext E275).keep K276 (ninS (Nat.ne_of_lt (Nat.lt_of_lt_of_le f274_4.lt (Nat.le_of_eq g275.symm))) nin0))
      have c280 := (((f273_0.keep K274).ext E275).keep K276)
      have c281 := (((f273_2.keep K274 nin0).ext E275).keep K276 (ninS (Nat.ne_of_lt (Nat.lt_of_lt_of_le (Nat.lt_of_lt_of_le f273_0.lt K274.1) (Nat.le_of_eq g275.symm))) nin0))
      have c282 := (((f273_3.keep K274 nin0).ext E275).keep K276 (ninS (Nat.ne_of_lt (Nat.lt_of_lt_of_le (Nat.lt_of_lt_of_le f273_0.lt K274.1) (Nat.le_of_eq g275.symm))) nin0))
      have c283 := ((f274_0.ext E275).keep K276)
      have c284 := ((f274_2.ext E275).keep K276 (ninS (Nat.ne_of_lt (Nat.lt_of_lt_of_le f274_0.lt (Nat.le_of_eq g275.symm))) nin0))
      have c285 := ((f274_3.ext E275).keep K276 (ninS (Nat.ne_of_lt (Nat.lt_of_lt_of_le f274_0.lt (Nat.le_of_eq g275.symm))) nin0))
      obtain ⟨cq277, kq277, q277a, q277b, q277c⟩ := isOf hZ rfl f276_0
      obtain ⟨_, _, ⟨T277, L277, k277, n277⟩, -, X277, Si277, Gr277, ⟨Lc277, hQ277, l277, y277, z277, A277⟩, st277⟩ := X276.virtualBackS hx (y := (⟨"com/example/slatewipe/slatewipe/Table", "qualifiedName", "()Ljava/lang/String;"⟩ : MethodName)) (z := (⟨"com/example/slatewipe/slatewipe/Table", "qualifiedName", "()Ljava/lang/String;"⟩ : MethodName)) hown (mvT hZ hw43) (mvT hZ hw44) (notFace_of_selects (args := #[]) (mvT hZ hw46)) (mvT hZ hw46) (mvT hZ hw45) (by decide) (own_backS (W := 0) (rmQN l Z a0 hw [] vcs vfm G b275 r_273 rb_273 kb_273 ((1 : Int32)) ([(Value.int (q7.toInt8.toInt32))]) r_274 rb_274 kb_274 ((2 : Int32)) ([(Value.int (q9.toInt8.toInt32)), (Value.int (q10.toInt8.toInt32))]) T276.heap n0 O276 f276_0 f276_1 f276_2 c280 c281 c282 c278 (Or.inr (Or.inl rfl)) c283 c284 c285 c279 (Or.inr (Or.inr rfl))) Sb276 hw47 hw29 (by decide) (by decide) hEL all0) q277a q277c (g := (mkF m 85 #[vi il, vi ia, vi ib, vi ic, vi id, vi (1 : Int32), vi (2 : Int32), vi q7, vi q8, vi q9, vi q10, vr r_273, vr r_274, .unset, .unset] [(.ref b275)])) rfl (by rw [hml]; rfl) (Steps.refl _) (argsL := []) (rest := []) (lenOf pd_21 rfl) rfl (by show 2 * 0 + _ ≤ _; exact Nat.le_of_eq rfl) (hb hby at_85) (fun _ _ => ⟨rfl, rfl, (by decide : 7 + 6 ≤ _), (by decide : 16 + 48 ≤ _)⟩)
      dsimp only [Pt.U, Pt.locs, Pt.cells, Pt.slots] at X277 l277 y277 z277 st277 hQ277 Si277 Gr277 A277
      subst l277 y277 z277
      obtain ⟨r_277, rb_277, kb_277, zr_277, vsr_277, rfl, N277q, K277, f277_0, f277_1, f277_2, f277_3, f277_4, f277_5, r277_0, r277_1⟩ := hQ277
      have N277 := Fr.app N276 N277q
      obtain ⟨lc277, X277, N277⟩ := own_pack X277 N277
      replace X277 := own_reb X277
      have Sb277 := Sb276.called Si277 Gr277 A277
      have hZ277 := Sb277.hZ
      have hO277 := Sb277.hO
      refine Go.by' (fun t k => st277.trans k) ?_
      have Sf_r_277 : Safe Z consts_1 s.vm T276.heap r_277 := Safe.new f277_1
      have g_r_277 : n0 ≤ r_277 := Nat.le_trans (own_le O276) f277_1
      have sz_r_277 : h0.size ≤ r_277 := Nat.le_trans KC276.1 f277_1
      have Sf_rb_277 : Safe Z consts_1 s.vm T276.heap rb_277 := Safe.new f277_5
      have g_rb_277 : n0 ≤ rb_277 := Nat.le_trans (own_le O276) f277_5
      have sz_rb_277 : h0.size ≤ rb_277 := Nat.le_trans KC276.1 f277_5
      have O277 := O276.keep K277 all0
      have KC277 : Keep h0 T277.heap [] := KC276.trans K277 all0
      obtain rfl : zr_277 = (4 : Int32) := r277_0.trans (by decide)
      obtain rfl : vsr_277 = [(Value.int (q7.toInt8.toInt32)), (Value.int (46 : Int32)), (Value.int (q9.toInt8.toInt32)), (Value.int (q10.toInt8.toInt32))] := r277_1.trans rfl
      show Go p.tables e below Pf (T277.setTop (mkF m 88 #[vi il, vi ia, vi ib, vi ic, vi id, vi (1 : Int32), vi (2 : Int32), vi q7, vi q8, vi q9, vi q10, vr r_273, vr r_274, .unset, .unset] [(.ref r_277)]))
      refine Go.by' (fun t k => (XS.astore X277.here hx rfl (hb hby at_88) rfl rfl (l' := #[vi il, vi ia, vi ib, vi ic, vi id, vi (1 : Int32), vi (2 : Int32), vi q7, vi q8, vi q9, vi q10, vr r_273, vr r_274, vr r_277, .unset]) rfl (XS.iload X277.here hx rfl (hb hby at_90) rfl (XS.iconst X277.here hx rfl (hb hby at_92) (XS.iadd X277.here hx rfl (hb hby at_93) rfl k))))) ?_
      show Go p.tables e below Pf (T277.setTop (mkF m 94 #[vi il, vi ia, vi ib, vi ic, vi id, vi (1 : Int32), vi (2 : Int32), vi q7, vi q8, vi q9, vi q10, vr r_273, vr r_274, vr r_277, .unset] [(.int ((1 : Int32) + (1 : Int32)))]))
      refine Go.castF (a := ((1 : Int32) + (1 : Int32))) (b := (2 : Int32)) (fun z' : Int32 => mkF m 94 #[vi il, vi ia, vi ib, vi ic, vi id, vi (1 : Int32), vi (2 : Int32), vi q7, vi q8, vi q9, vi q10, vr r_273, vr r_274, vr r_277, .unset] [(.int z')]) (by decide) ?_
      show Go p.tables e below Pf (T277.setTop (mkF m 94 #[vi il, vi ia, vi ib, vi ic, vi id, vi (1 : Int32), vi (2 : Int32), vi q7, vi q8, vi q9, vi q10, vr r_273, vr r_274, vr r_277, .unset] [(.int (2 : Int32))]))
      refine Go.by' (fun t k => (XS.iload X277.here hx rfl (hb hby at_94) rfl (XS.iadd X277.here hx rfl (hb hby at_96) rfl k))) ?_
      show Go p.tables e below Pf (T277.setTop (mkF m 97 #[vi il, vi ia, vi ib, vi ic, vi id, vi (1 : Int32), vi (2 : Int32), vi q7, vi q8, vi q9, vi q10, vr r_273, vr r_274, vr r_277, .unset] [(.int ((2 : Int32) + (2 : Int32)))]))
      refine Go.castF (a := ((2 : Int32) + (2 : Int32))) (b := (4 : Int32)) (fun z' : Int32 => mkF m 97 #[vi il, vi ia, vi ib, vi ic, vi id, vi (1 : Int32), vi (2 : Int32), vi q7, vi q8, vi q9, vi q10, vr r_273, vr r_274, vr r_277, .unset] [(.int z')]) (by decide) ?_
      show Go p.tables e below Pf (T277.setTop (mkF m 97 #[vi il, vi ia, vi ib, vi ic, vi id, vi (1 : Int32), vi (2 : Int32), vi q7, vi q8, vi q9, vi q10, vr r_273, vr r_274, vr r_277, .unset] [(.int (4 : Int32))]))
      refine Go.by' (fun t k => (XS.istore X277.here hx rfl (hb hby at_97) rfl (l' := #[vi il, vi ia, vi ib, vi ic, vi id, vi (1 : Int32), vi (2 : Int32), vi q7, vi q8, vi q9, vi q10, vr r_273, vr r_274, vr r_277, vi (4 : Int32)]) rfl (XS.aload X277.here hx rfl (hb hby at_99) rfl rfl (XS.ifnullNo X277.here hx rfl (hb hby at_101) rfl (XS.aload X277.here hx rfl (hb hby at_104) rfl rfl k))))) ?_
      obtain ⟨cq286, kq286, q286a, q286b, q286c⟩ := isOf hZ277 rfl f277_0
      obtain ⟨_, _, ⟨T286, L286, k286, n286⟩, -, X286, ⟨Lc286, hQ286, l286, y286, z286⟩, st286⟩ := X277.virtualBack hx (y := (⟨"java/lang/String", "length", "()I"⟩ : MethodName)) (z := (⟨"java/lang/String", "length", "()I"⟩ : MethodName)) hO277 (mvT hZ277 hw160) (mvT hZ277 hw77) (notFace_of_selects (args := #[]) (mvT hZ277 hw79)) (mvT hZ277 hw79) (mvT hZ277 hw78) (by decide) (backOf (W := 0) (rmLn l Z a0 hw [] vcs vfm G r_277 rb_277 kb_277 ((4 : Int32)) ([(Value.int (q7.toInt8.toInt32)), (Value.int (46 : Int32)), (Value.int (q9.toInt8.toInt32)), (Value.int (q10.toInt8.toInt32))]) T277.heap n0 O277 f277_0 f277_2 f277_3 f277_4) hZ277 hw80 hw7 (by decide) (by decide)) q286a q286c (g := (mkF m 106 #[vi il, vi ia, vi ib, vi ic, vi id, vi (1 : Int32), vi (2 : Int32), vi q7, vi q8, vi q9, vi q10, vr r_273, vr r_274, vr r_277, vi (4 : Int32)] [(.ref r_277)])) rfl (by rw [hml]; rfl) (Steps.refl _) (argsL := []) (rest := []) (lenOf pd_8 rfl) rfl (by show 2 * 0 + _ ≤ _; exact Nat.le_of_eq rfl) (hb hby at_106) (fun _ _ => ⟨rfl, rfl, (by decide : 13 + 0 ≤ _), (by decide : 64 + 0 ≤ _)⟩)
      dsimp only [Pt.U, Pt.locs, Pt.cells, Pt.slots] at X286 l286 y286 z286 st286 hQ286
      subst l286 y286 z286
      obtain ⟨rfl, rfl, e286⟩ := hQ286
      try replace X286 := own_nil X286
      refine Go.by' (fun t k => st286.trans k) ?_
      show Go p.tables e below Pf (T286.setTop (mkF m 109 #[vi il, vi ia, vi ib, vi ic, vi id, vi (1 : Int32), vi (2 : Int32), vi q7, vi q8, vi q9, vi q10, vr r_273, vr r_274, vr r_277, vi (4 : Int32)] [(.int (4 : Int32))]))
      refine Go.by' (fun t k => (XS.iload X286.here hx rfl (hb hby at_109) rfl (XS.icmpYes X286.here hx rfl (pc0 := 111) (pc' := 116) rfl (hb hby at_111) rfl (teq (by decide)).1 (by decide) (by decide) (XS.aload X286.here hx rfl (hb hby at_116) rfl rfl (XS.iconst X286.here hx rfl (hb hby at_118) (XS.iload X286.here hx rfl (hb hby at_119) rfl (XS.iload X286.here hx rfl (hb hby at_121) rfl (XS.iload X286.here hx rfl (hb hby at_123) rfl (XS.iload X286.here hx rfl (hb hby at_125) rfl k))))))))) ?_
      show Go p.tables e below Pf (T286.setTop (mkF m 127 #[vi il, vi ia, vi ib, vi ic, vi id, vi (1 : Int32), vi (2 : Int32), vi q7, vi q8, vi q9, vi q10, vr r_273, vr r_274, vr r_277, vi (4 : Int32)] [(.int q8), (.int q7), (.int (1 : Int32)), (.int (4 : Int32)), (.int (0 : Int32)), (.ref r_277)]))
      refine Go.by' (fun t k => (XS.iload X286.here hx rfl (hb hby at_127) rfl (XS.iload X286.here hx rfl (hb hby at_129) rfl k))) ?_
      obtain ⟨_, _, ⟨T287, L287, k287, n287⟩, -, X287, ⟨Lc287, hQ287, l287, y287, z287⟩, st287⟩ := Jvm.LawKit.callS X286 hx (y := (⟨"com/example/slatewipe/slatewipe/TableQualifiedNamePinLaw", "at", "(Ljava/lang/String;IIICCCC)Z"⟩ : MethodName)) hO277 (mvT hZ277 hw161) (mvT hZ277 hw162) (mvT hZ277 hw3) (mvT hZ277 hw163) (by decide) (backOf (W := 0) (rmAt_10 l Z a0 hw [] vcs vfm G r_277 ((4 : Int32)) q7 q8 q9 q10 rb_277 kb_277 ([(Value.int (q7.toInt8.toInt32)), (Value.int (46 : Int32)), (Value.int (q9.toInt8.toInt32)), (Value.int (q10.toInt8.toInt32))]) ((q7.toInt8.toInt32)) T277.heap n0 O277 f277_0 f277_2 f277_3 f277_4 (by decide) rfl (own_u8 bd7)) hZ277 hw163 hw3 (by decide) (by decide)) (g := (mkF m 131 #[vi il, vi ia, vi ib, vi ic, vi id, vi (1 : Int32), vi (2 : Int32), vi q7, vi q8, vi q9, vi q10, vr r_273, vr r_274, vr r_277, vi (4 : Int32)] [(.int q10), (.int q9), (.int q8), (.int q7), (.int (1 : Int32)), (.int (4 : Int32)), (.int (0 : Int32)), (.ref r_277)])) rfl (by rw [hml]; rfl) (argsL := [(.ref r_277), (.int (0 : Int32)), (.int (4 : Int32)), (.int (1 : Int32)), (.int q7), (.int q8), (.int q9), (.int q10)]) (rest := []) (lenOf pd_27 rfl) rfl (by show 2 * 0 + _ ≤ _; exact Nat.le_of_eq rfl) (hb hby at_131) (fun _ _ => ⟨rfl, e286, (by decide : 13 + 0 ≤ _), (by decide : 64 + 0 ≤ _)⟩)
      dsimp only [Pt.U, Pt.locs, Pt.cells, Pt.slots] at X287 l287 y287 z287 st287 hQ287
      subst l287 y287 z287
      obtain ⟨rfl, rfl, e287⟩ := hQ287
      try replace X287 := own_nil X287
      refine Go.by' st287 ?_
      show Go p.tables e below Pf (T287.setTop (mkF m 134 #[vi il, vi ia, vi ib, vi ic, vi id, vi (1 : Int32), vi (2 : Int32), vi q7, vi q8, vi q9, vi q10, vr r_273, vr r_274, vr r_277, vi (4 : Int32)] [(.int (1 : Int32))]))
      refine Go.by' (fun t k => (XS.ifNo X287.here hx rfl (hb hby at_134) rfl ((if0 _ _).trans (feq (by decide)).1) (XS.aload X287.here hx rfl (hb hby at_137) rfl rfl (XS.iconst X287.here hx rfl (hb hby at_139) (XS.iload X287.here hx rfl (hb hby at_140) rfl (XS.iload X287.here hx rfl (hb hby at_142) rfl (XS.iload X287.here hx rfl (hb hby at_144) rfl (XS.iload X287.here hx rfl (hb hby at_146) rfl (XS.iload X287.here hx rfl (hb hby at_148) rfl k))))))))) ?_
      show Go p.tables e below Pf (T287.setTop (mkF m 150 #[vi il, vi ia, vi ib, vi ic, vi id, vi (1 : Int32), vi (2 : Int32), vi q7, vi q8, vi q9, vi q10, vr r_273, vr r_274, vr r_277, vi (4 : Int32)] [(.int q9), (.int q8), (.int q7), (.int (1 : Int32)), (.int (4 : Int32)), (.int (1 : Int32)), (.ref r_277)]))
      refine Go.by' (fun t k => (XS.iload X287.here hx rfl (hb hby at_150) rfl k)) ?_
      obtain ⟨_, _, ⟨T288, L288, k288, n288⟩, -, X288, ⟨Lc288, hQ288, l288, y288, z288⟩, st288⟩ := Jvm.LawKit.callS X287 hx (y := (⟨"com/example/slatewipe/slatewipe/TableQualifiedNamePinLaw", "at", "(Ljava/lang/String;IIICCCC)Z"⟩ : MethodName)) hO277 (mvT hZ277 hw161) (mvT hZ277 hw162) (mvT hZ277 hw3) (mvT hZ277 hw163) (by decide) (backOf (W := 0) (rmAt_11 l Z a0 hw [] vcs vfm G r_277 ((4 : Int32)) q7 q8 q9 q10 rb_277 kb_277 ([(Value.int (q7.toInt8.toInt32)), (Value.int (46 : Int32)), (Value.int (q9.toInt8.toInt32)), (Value.int (q10.toInt8.toInt32))]) ((46 : Int32)) T277.heap n0 O277 f277_0 f277_2 f277_3 f277_4 (by decide) rfl (by decide)) hZ277 hw163 hw3 (by decide) (by decide)) (g := (mkF m 152 #[vi il, vi ia, vi ib, vi ic, vi id, vi (1 : Int32), vi (2 : Int32), vi q7, vi q8, vi q9, vi q10, vr r_273, vr r_274, vr r_277, vi (4 : Int32)] [(.int q10), (.int q9), (.int q8), (.int q7), (.int (1 : Int32)), (.int (4 : Int32)), (.int (1 : Int32)), (.ref r_277)])) rfl (by rw [hml]; rfl) (argsL := [(.ref r_277), (.int (1 : Int32)), (.int (4 : Int32)), (.int (1 : Int32)), (.int q7), (.int q8), (.int q9), (.int q10)]) (rest := []) (lenOf pd_27 rfl) rfl (by show 2 * 0 + _ ≤ _; exact Nat.le_of_eq rfl) (hb hby at_152) (fun _ _ => ⟨rfl, e287, (by decide : 13 + 0 ≤ _), (by decide : 64 + 0 ≤ _)⟩)
      dsimp only [Pt.U, Pt.locs, Pt.cells, Pt.slots] at X288 l288 y288 z288 st288 hQ288
      subst l288 y288 z288
      obtain ⟨rfl, rfl, e288⟩ := hQ288
      try replace X288 := own_nil X288
      refine Go.by' st288 ?_
      show Go p.tables e below Pf (T288.setTop (mkF m 155 #[vi il, vi ia, vi ib, vi ic, vi id, vi (1 : Int32), vi (2 : Int32), vi q7, vi q8, vi q9, vi q10, vr r_273, vr r_274, vr r_277, vi (4 : Int32)] [(.int (1 : Int32))]))
      refine Go.by' (fun t k => (XS.ifNo X288.here hx rfl (hb hby at_155) rfl ((if0 _ _).trans (feq (by decide)).1) (XS.aload X288.here hx rfl (hb hby at_158) rfl rfl (XS.iconst X288.here hx rfl (hb hby at_160) (XS.iload X288.here hx rfl (hb hby at_161) rfl (XS.iload X288.here hx rfl (hb hby at_163) rfl (XS.iload X288.here hx rfl (hb hby at_165) rfl (XS.iload X288.here hx rfl (hb hby at_167) rfl (XS.iload X288.here hx rfl (hb hby at_169) rfl k))))))))) ?_
      show Go p.tables e below Pf (T288.setTop (mkF m 171 #[vi il, vi ia, vi ib, vi ic, vi id, vi (1 : Int32), vi (2 : Int32), vi q7, vi q8, vi q9, vi q10, vr r_273, vr r_274, vr r_277, vi (4 : Int32)] [(.int q9), (.int q8), (.int q7), (.int (1 : Int32)), (.int (4 : Int32)), (.int (2 : Int32)), (.ref r_277)]))
      refine Go.by' (fun t k => (XS.iload X288.here hx rfl (hb hby at_171) rfl k)) ?_
      obtain ⟨_, _, ⟨T289, L289, k289, n289⟩, -, X289, ⟨Lc289, hQ289, l289, y289, z289⟩, st289⟩ := Jvm.LawKit.callS X288 hx (y := (⟨"com/example/slatewipe/slatewipe/TableQualifiedNamePinLaw", "at", "(Ljava/lang/String;IIICCCC)Z"⟩ : MethodName)) hO277 (mvT hZ277 hw161) (mvT hZ277 hw162) (mvT hZ277 hw3) (mvT hZ277 hw163) (by decide) (backOf (W := 0) (rmAt_12 l Z a0 hw [] vcs vfm G r_277 ((4 : Int32)) q7 q8 q9 q10 rb_277 kb_277 ([(Value.int (q7.toInt8.toInt32)), (Value.int (46 : Int32)), (Value.int (q9.toInt8.toInt32)), (Value.int (q10.toInt8.toInt32))]) ((q9.toInt8.toInt32)) T277.heap n0 O277 f277_0 f277_2 f277_3 f277_4 (by decide) rfl (own_u8 bd9)) hZ277 hw163 hw3 (by decide) (by decide)) (g := (mkF m 173 #[vi il, vi ia, vi ib, vi ic, vi id, vi (1 : Int32), vi (2 : Int32), vi q7, vi q8, vi q9, vi q10, vr r_273, vr r_274, vr r_277, vi (4 : Int32)] [(.int q10), (.int q9), (.int q8), (.int q7), (.int (1 : Int32)), (.int (4 : Int32)), (.int (2 : Int32)), (.ref r_277)])) rfl (by rw [hml]; rfl) (argsL := [(.ref r_277), (.int (2 : Int32)), (.int (4 : Int32)), (.int (1 : Int32)), (.int q7), (.int q8), (.int q9), (.int q10)]) (rest := []) (lenOf pd_27 rfl) rfl (by show 2 * 0 + _ ≤ _; exact Nat.le_of_eq rfl) (hb hby at_173) (fun _ _ => ⟨rfl, e288, (by decide : 13 + 0 ≤ _), (by decide : 64 + 0 ≤ _)⟩)
      dsimp only [Pt.U, Pt.locs, Pt.cells, Pt.slots] at X289 l289 y289 z289 st289 hQ289
      subst l289 y289 z289
      obtain ⟨rfl, rfl, e289⟩ := hQ289
      try replace X289 := own_nil X289
      refine Go.by' st289 ?_
      show Go p.tables e below Pf (T289.setTop (mkF m 176 #[vi il, vi ia, vi ib, vi ic, vi id, vi (1 : Int32), vi (2 : Int32), vi q7, vi q8, vi q9, vi q10, vr r_273, vr r_274, vr r_277, vi (4 : Int32)] [(.int (1 : Int32))]))
      refine Go.by' (fun t k => (XS.ifNo X289.here hx rfl (hb hby at_176) rfl ((if0 _ _).trans (feq (by decide)).1) (XS.aload X289.here hx rfl (hb hby at_179) rfl rfl (XS.iconst X289.here hx rfl (hb hby at_181) (XS.iload X289.here hx rfl (hb hby at_182) rfl (XS.iload X289.here hx rfl (hb hby at_184) rfl (XS.iload X289.here hx rfl (hb hby at_186) rfl (XS.iload X289.here hx rfl (hb hby at_188) rfl (XS.iload X289.here hx rfl (hb hby at_190) rfl k))))))))) ?_
      show Go p.tables e below Pf (T289.setTop (mkF m 192 #[vi il, vi ia, vi ib, vi ic, vi id, vi (1 : Int32), vi (2 : Int32), vi q7, vi q8, vi q9, vi q10, vr r_273, vr r_274, vr r_277, vi (4 : Int32)] [(.int q9), (.int q8), (.int q7), (.int (1 : Int32)), (.int (4 : Int32)), (.int (3 : Int32)), (.ref r_277)]))
      refine Go.by' (fun t k => (XS.iload X289.here hx rfl (hb hby at_192) rfl k)) ?_
      obtain ⟨_, _, ⟨T290, L290, k290, n290⟩, -, X290, ⟨Lc290, hQ290, l290, y290, z290⟩, st290⟩ := Jvm.LawKit.callS X289 hx (y := (⟨"com/example/slatewipe/slatewipe/TableQualifiedNamePinLaw", "at", "(Ljava/lang/String;IIICCCC)Z"⟩ : MethodName)) hO277 (mvT hZ277 hw161) (mvT hZ277 hw162) (mvT hZ277 hw3) (mvT hZ277 hw163) (by decide) (backOf (W := 0) (rmAt_13 l Z a0 hw [] vcs vfm G r_277 ((4 : Int32)) q7 q8 q9 q10 rb_277 kb_277 ([(Value.int (q7.toInt8.toInt32)), (Value.int (46 : Int32)), (Value.int (q9.toInt8.toInt32)), (Value.int (q10.toInt8.toInt32))]) ((q10.toInt8.toInt32)) T277.heap n0 O277 f277_0 f277_2 f277_3 f277_4 (by decide) rfl (own_u8 bd10)) hZ277 hw163 hw3 (by decide) (by decide)) (g := (mkF m 194 #[vi il, vi ia, vi ib, vi ic, vi id, vi (1 : Int32), vi (2 : Int32), vi q7, vi q8, vi q9, vi q10, vr r_273, vr r_274, vr r_277, vi (4 : Int32)] [(.int q10), (.int q9), (.int q8), (.int q7), (.int (1 : Int32)), (.int (4 : Int32)), (.int (3 : Int32)), (.ref r_277)])) rfl (by rw [hml]; rfl) (argsL := [(.ref r_277), (.int (3 : Int32)), (.int (4 : Int32)), (.int (1 : Int32)), (.int q7), (.int q8), (.int q9), (.int q10)]) (rest := []) (lenOf pd_27 rfl) rfl (by show 2 * 0 + _ ≤ _; exact Nat.le_of_eq rfl) (hb hby at_194) (fun _ _ => ⟨rfl, e289, (by decide : 13 + 0 ≤ _), (by decide : 64 + 0 ≤ _)⟩)
      dsimp only [Pt.U, Pt.locs, Pt.cells, Pt.slots] at X290 l290 y290 z290 st290 hQ290
      subst l290 y290 z290
      obtain ⟨rfl, rfl, e290⟩ := hQ290
      try replace X290 := own_nil X290
      refine Go.by' st290 ?_
      show Go p.tables e below Pf (T290.setTop (mkF m 197 #[vi il, vi ia, vi ib, vi ic, vi id, vi (1 : Int32), vi (2 : Int32), vi q7, vi q8, vi q9, vi q10, vr r_273, vr r_274, vr r_277, vi (4 : Int32)] [(.int (1 : Int32))]))
      refine Go.by' (fun t k => (XS.ifNo X290.here hx rfl (hb hby at_197) rfl ((if0 _ _).trans (feq (by decide)).1) (XS.aload X290.here hx rfl (hb hby at_200) rfl rfl (XS.iconst X290.here hx rfl (hb hby at_202) (XS.iload X290.here hx rfl (hb hby at_203) rfl (XS.iload X290.here hx rfl (hb hby at_205) rfl (XS.iload X290.here hx rfl (hb hby at_207) rfl (XS.iload X290.here hx rfl (hb hby at_209) rfl (XS.iload X290.here hx rfl (hb hby at_211) rfl k))))))))) ?_
      show Go p.tables e below Pf (T290.setTop (mkF m 213 #[vi il, vi ia, vi ib, vi ic, vi id, vi (1 : Int32), vi (2 : Int32), vi q7, vi q8, vi q9, vi q10, vr r_273, vr r_274, vr r_277, vi (4 : Int32)] [(.int q9), (.int q8), (.int q7), (.int (1 : Int32)), (.int (4 : Int32)), (.int (4 : Int32)), (.ref r_277)]))
      refine Go.by' (fun t k => (XS.iload X290.here hx rfl (hb hby at_213) rfl k)) ?_
      obtain ⟨_, _, ⟨T291, L291, k291, n291⟩, -, X291, ⟨Lc291, hQ291, l291, y291, z291⟩, st291⟩ := Jvm.LawKit.callS X290 hx (y := (⟨"com/example/slatewipe/slatewipe/TableQualifiedNamePinLaw", "at", "(Ljava/lang/String;IIICCCC)Z"⟩ : MethodName)) hO277 (mvT hZ277 hw161) (mvT hZ277 hw162) (mvT hZ277 hw3) (mvT hZ277 hw163) (by decide) (backOf (W := 0) (rmAT_4 l Z a0 hw [] vcs vfm G r_277 ((4 : Int32)) ((1 : Int32)) q7 q8 q9 q10 T277.heap n0 O277 (by decide)) hZ277 hw163 hw3 (by decide) (by decide)) (g := (mkF m 215 #[vi il, vi ia, vi ib, vi ic, vi id, vi (1 : Int32), vi (2 : Int32), vi q7, vi q8, vi q9, vi q10, vr r_273, vr r_274, vr r_277, vi (4 : Int32)] [(.int q10), (.int q9), (.int q8), (.int q7), (.int (1 : Int32)), (.int (4 : Int32)), (.int (4 : Int32)), (.ref r_277)])) rfl (by rw [hml]; rfl) (argsL := [(.ref r_277), (.int (4 : Int32)), (.int (4 : Int32)), (.int (1 : Int32)), (.int q7), (.int q8), (.int q9), (.int q10)]) (rest := []) (lenOf pd_27 rfl) rfl (by show 2 * 0 + _ ≤ _; exact Nat.le_of_eq rfl) (hb hby at_215) (fun _ _ => ⟨rfl, e290, (by decide : 13 + 0 ≤ _), (by decide : 64 + 0 ≤ _)⟩)
      dsimp only [Pt.U, Pt.locs, Pt.cells, Pt.slots] at X291 l291 y291 z291 st291 hQ291
      subst l291 y291 z291
      obtain ⟨rfl, rfl, e291⟩ := hQ291
      try replace X291 := own_nil X291
      refine Go.by' st291 ?_
      show Go p.tables e below Pf (T291.setTop (mkF m 218 #[vi il, vi ia, vi ib, vi ic, vi id, vi (1 : Int32), vi (2 : Int32), vi q7, vi q8, vi q9, vi q10, vr r_273, vr r_274, vr r_277, vi (4 : Int32)] [(.int (1 : Int32))]))
      refine Go.by' (fun t k => (XS.ifNo X291.here hx rfl (hb hby at_218) rfl ((if0 _ _).trans (feq (by decide)).1) (XS.iconst X291.here hx rfl (hb hby at_221) (XS.goto X291.here hx rfl (pc0 := 222) (pc' := 226) rfl (hb hby at_222) (by decide) (by decide) k)))) ?_
      show Go p.tables e below Pf (T291.setTop (mkF m 226 #[vi il, vi ia, vi ib, vi ic, vi id, vi (1 : Int32), vi (2 : Int32), vi q7, vi q8, vi q9, vi q10, vr r_273, vr r_274, vr r_277, vi (4 : Int32)] [(.int (1 : Int32))]))
      rw [hPf]
      exact Go.retIS X291 hx hEL Sb277 e291 hh hret hlk (by simp) rfl (hb hby at_226) (by decide) (by decide) ⟨rfl, N277, (by rw [e291]; exact KC277)⟩
  · refine Go.castF (a := ((il &&& (2147483647 : Int32)) % (3 : Int32))) (b := (2 : Int32)) (fun z' : Int32 => mkF m 52 #[vi il, vi ia, vi ib, vi ic, vi id, vi z', vi ((((il.toUInt32 >>> ((8 : Int32) &&& 31).toUInt32).toInt32) &&& (2147483647 : Int32)) % (3 : Int32)), vi q7, vi q8, vi q9, vi q10, .unset, .unset, .unset, .unset] []) (hk) ?_
    show Go p.tables e below Pf (s₁.setTop (mkF m 52 #[vi il, vi ia, vi ib, vi ic, vi id, vi (2 : Int32), vi ((((il.toUInt32 >>> ((8 : Int32) &&& 31).toUInt32).toInt32) &&& (2147483647 : Int32)) % (3 : Int32)), vi q7, vi q8, vi q9, vi q10, .unset, .unset, .unset, .unset] []))
    rcases own_k3 _ with hm | hm | hm
    · refine Go.castF (a := ((((il.toUInt32 >>> ((8 : Int32) &&& 31).toUInt32).toInt32) &&& (2147483647 : Int32)) % (3 : Int32))) (b := (0 : Int32)) (fun z' : Int32 => mkF m 52 #[vi il, vi ia, vi ib, vi ic, vi id, vi (2 : Int32), vi z', vi q7, vi q8, vi q9, vi q10, .unset, .unset, .unset, .unset] []) (hm) ?_
      show Go p.tables e below Pf (s₁.setTop (mkF m 52 #[vi il, vi ia, vi ib, vi ic, vi id, vi (2 : Int32), vi (0 : Int32), vi q7, vi q8, vi q9, vi q10, .unset, .unset, .unset, .unset] []))
      refine Go.by' (fun t k => (XS.iload X0.here hx rfl (hb hby at_52) rfl (XS.iload X0.here hx rfl (hb hby at_54) rfl (XS.iload X0.here hx rfl (hb hby at_56) rfl k)))) ?_
      obtain ⟨_, _, ⟨T292, L292, k292, n292⟩, -, X292, ⟨Lc292, hQ292, l292, y292, z292⟩, st292⟩ := Jvm.LawKit.callS X0 hx (y := (⟨"com/example/slatewipe/slatewipe/TableQualifiedNamePinLaw", "make", "(ICC)Ljava/lang/String;"⟩ : MethodName)) hown (mvT hZ hw1) (mvT hZ hw2) (mvT hZ hw3) (mvT hZ hw4) (by decide) (backOf (W := 0) (rmMk_2 l Z a0 hw [] vcs vfm G q7 q8 h0 n0 O0 bd7.1 bd7.2 bd8.1 bd8.2) hZ hw4 hw3 (by decide) (by decide)) (g := (mkF m 58 #[vi il, vi ia, vi ib, vi ic, vi id, vi (2 : Int32), vi (0 : Int32), vi q7, vi q8, vi q9, vi q10, .unset, .unset, .unset, .unset] [(.int q8), (.int q7), (.int (2 : Int32))])) rfl (by rw [hml]; rfl) (argsL := [(.int (2 : Int32)), (.int q7), (.int q8)]) (rest := []) (lenOf pd_25 rfl) rfl (by show 2 * 0 + _ ≤ _; exact Nat.le_of_eq rfl) (hb hby at_58) (fun _ _ => ⟨rfl, e0, (by decide : 0 + 3 ≤ _), (by decide : 0 + 8 ≤ _)⟩)
      dsimp only [Pt.U, Pt.locs, Pt.cells, Pt.slots] at X292 l292 y292 z292 st292 hQ292
      subst l292 y292 z292
      obtain ⟨r_292, rb_292, kb_292, rfl, N292q, K292, f292_0, f292_1, f292_2, f292_3, f292_4, f292_5⟩ := hQ292
      have N292 := Fr.app N0 N292q
      obtain ⟨lc292, X292, N292⟩ := own_pack X292 N292
      refine Go.by' st292 ?_
      have Sf_r_292 : Safe Z consts_1 s.vm h0 r_292 := Safe.new f292_1
      have g_r_292 : n0 ≤ r_292 := Nat.le_trans (own_le O0) f292_1
      have sz_r_292 : h0.size ≤ r_292 := Nat.le_trans KC0.1 f292_1
      have Sf_rb_292 : Safe Z consts_1 s.vm h0 rb_292 := Safe.new f292_5
      have g_rb_292 : n0 ≤ rb_292 := Nat.le_trans (own_le O0) f292_5
      have sz_rb_292 : h0.size ≤ rb_292 := Nat.le_trans KC0.1 f292_5
      have Sb292 := Sb0.keep K292 sf0
      have O292 := O0.keep K292 all0
      have KC292 : Keep h0 T292.heap [] := KC0.trans K292 all0
      show Go p.tables e below Pf (T292.setTop (mkF m 61 #[vi il, vi ia, vi ib, vi ic, vi id, vi (2 : Int32), vi (0 : Int32), vi q7, vi q8, vi q9, vi q10, .unset, .unset, .unset, .unset] [(.ref r_292)]))
      refine Go.by' (fun t k => (XS.astore X292.here hx rfl (hb hby at_61) rfl rfl (l' := #[vi il, vi ia, vi ib, vi ic, vi id, vi (2 : Int32), vi (0 : Int32), vi q7, vi q8, vi q9, vi q10, vr r_292, .unset, .unset, .unset]) rfl (XS.iload X292.here hx rfl (hb hby at_63) rfl (XS.iload X292.here hx rfl (hb hby at_65) rfl (XS.iload X292.here hx rfl (hb hby at_67) rfl k))))) ?_
      obtain ⟨_, _, ⟨T293, L293, k293, n293⟩, -, X293, Si293, Gr293, ⟨Lc293, hQ293, l293, y293, z293, A293⟩, st293⟩ := callSS X292 hx (y := (⟨"com/example/slatewipe/slatewipe/TableQualifiedNamePinLaw", "make", "(ICC)Ljava/lang/String;"⟩ : MethodName)) hown (mvT hZ hw1) (mvT hZ hw2) (mvT hZ hw3) (mvT hZ hw4) (by decide) (own_backS (W := 0) (rmMk_0 l Z a0 hw [] vcs vfm G q9 q10 T292.heap n0 O292 ) Sb292 hw4 hw3 (by decide) (by decide) hEL all0) (g := (mkF m 69 #[vi il, vi ia, vi ib, vi ic, vi id, vi (2 : Int32), vi (0 : Int32), vi q7, vi q8, vi q9, vi q10, vr r_292, .unset, .unset, .unset] [(.int q10), (.int q9), (.int (0 : Int32))])) rfl (by rw [hml]; rfl) (argsL := [(.int (0 : Int32)), (.int q9), (.int q10)]) (rest := []) (lenOf pd_25 rfl) rfl (by show 2 * 0 + _ ≤ _; exact Nat.le_of_eq rfl) (hb hby at_69) (fun _ _ => ⟨rfl, rfl, (by decide : 3 + 6 ≤ _), (by decide : 8 + 12 ≤ _)⟩)
      dsimp only [Pt.U, Pt.locs, Pt.cells, Pt.slots] at X293 l293 y293 z293 st293 hQ293 Si293 Gr293 A293
      subst l293 y293 z293
      obtain ⟨r_293, rb_293, kb_293, rfl, N293q, K293, f293_0, f293_1, f293_2, f293_3, f293_4⟩ := hQ293
      have N293 := Fr.app N292 N293q
      obtain ⟨lc293, X293, N293⟩ := own_pack X293 N293
      replace X293 := own_reb X293
      have Sb293 := Sb292.called Si293 Gr293 A293
      have hZ293 := Sb293.hZ
      have hO293 := Sb293.hO
      refine Go.by' (fun t k => st293.trans k) ?_
      have Sf_r_293 : Safe Z consts_1 s.vm T292.heap r_293 := Safe.new f293_1
      have g_r_293 : n0 ≤ r_293 := Nat.le_trans (own_le O292) f293_1
      have sz_r_293 : h0.size ≤ r_293 := Nat.le_trans KC292.1 f293_1
      have O293 := O292.keep K293 all0
      have KC293 : Keep h0 T293.heap [] := KC292.trans K293 all0
      show Go p.tables e below Pf (T293.setTop (mkF m 72 #[vi il, vi ia, vi ib, vi ic, vi id, vi (2 : Int32), vi (0 : Int32), vi q7, vi q8, vi q9, vi q10, vr r_292, .unset, .unset, .unset] [(.ref r_293)]))
      refine Go.by' (fun t k => (XS.astore X293.here hx rfl (hb hby at_72) rfl rfl (l' := #[vi il, vi ia, vi ib, vi ic, vi id, vi (2 : Int32), vi (0 : Int32), vi q7, vi q8, vi q9, vi q10, vr r_292, vr r_293, .unset, .unset]) rfl k)) ?_
      obtain ⟨T294, h294, X294, e294, E294, A294, D294, -, st294⟩ := newO X293 hx hZ293 hO293 hw27 hw28 hw29 rfl (g := (mkF m 74 #[vi il, vi ia, vi ib, vi ic, vi id, vi (2 : Int32), vi (0 : Int32), vi q7, vi q8, vi q9, vi q10, vr r_292, vr r_293, .unset, .unset] [])) rfl (hb hby at_74) (by decide) (by decide)
      obtain ⟨b294, g294⟩ : ∃ z, z = T293.heap.size := ⟨_, rfl⟩
      rw [← g294] at A294 D294 st294
      refine Go.by' st294 ?_
      have Sf_b294 : Safe Z consts_1 T293.vm T293.heap b294 := Safe.new (Nat.le_of_eq g294.symm)
      have g_b294 : n0 ≤ b294 := Nat.le_trans (own_le O293) (Nat.le_of_eq g294.symm)
      have sz_b294 : h0.size ≤ b294 := Nat.le_trans KC293.1 (Nat.le_of_eq g294.symm)
      have Sb294 := Sb293.ext E294
      have O294 := O293.ext E294
      have KC294 : Keep h0 h294 [] := KC293.ext E294
      have Fn294_40 : Fld Z h294 b294 "com/example/slatewipe/slatewipe/Table" "schema" "Ljava/lang/String;" Value.null := D294 (Or.inr hw40) (ty := (.object "java/lang/String")) (by decide)
      have Fn294_42 : Fld Z h294 b294 "com/example/slatewipe/slatewipe/Table" "name" "Ljava/lang/String;" Value.null := D294 (Or.inr hw42) (ty := (.object "java/lang/String")) (by decide)
      show Go p.tables e below Pf (T294.setTop (mkF m 77 #[vi il, vi ia, vi ib, vi ic, vi id, vi (2 : Int32), vi (0 : Int32), vi q7, vi q8, vi q9, vi q10, vr r_292, vr r_293, .unset, .unset] [(.ref b294)]))
      refine Go.by' (fun t k => (XS.dup X294.here hx rfl (hb hby at_77) rfl rfl (XS.aload X294.here hx rfl (hb hby at_78) rfl rfl (XS.aload X294.here hx rfl (hb hby at_80) rfl rfl k)))) ?_
      obtain ⟨_, _, ⟨T295, L295, k295, n295⟩, -, X295, ⟨Lc295, hQ295, l295, y295, z295⟩, st295⟩ := X294.specialBack hx (y := (⟨"com/example/slatewipe/slatewipe/Table", "<init>", "(Ljava/lang/String;Ljava/lang/String;)V"⟩ : MethodName)) rfl hO293 (mvT hZ293 hw30) (mvT hZ293 hw31) (mvT hZ293 hw32) (by decide) (backOf (W := 1) (rmTab l Z a0 hw [] vcs vfm G b294 r_292 r_293 h294 n0 O294 A294 Fn294_40 Fn294_42 g_b294) hZ293 hw32 hw29 (by decide) (by decide)) (g := (mkF m 82 #[vi il, vi ia, vi ib, vi ic, vi id, vi (2 : Int32), vi (0 : Int32), vi q7, vi q8, vi q9, vi q10, vr r_292, vr r_293, .unset, .unset] [(.ref r_293), (.ref r_292), (.ref b294), (.ref b294)])) rfl (by rw [hml]; rfl) (Steps.refl _) (a := b294) (argsL := [(.ref r_292), (.ref r_293)]) (rest := [(.ref b294)]) (lenOf pd_26 rfl) rfl (by show 2 * 0 + _ ≤ _; exact Nat.le_of_eq rfl) (hb hby at_82) (fun _ _ => ⟨rfl, e294, (by decide : 10 + 0 ≤ _), (by decide : 22 + 0 ≤ _)⟩)
      dsimp only [Pt.U, Pt.locs, Pt.cells, Pt.slots] at X295 l295 y295 z295 st295 hQ295
      subst l295 y295 z295
      obtain ⟨rfl, N295q, K295, f295_0, f295_1, f295_2⟩ := hQ295
      have N295 := Fr.app N293 N295q
      obtain ⟨lc295, X295, N295⟩ := own_pack X295 N295
      refine Go.by' (fun t k => st295.trans k) ?_
      have Sb295 := Sb294.keep K295 (sfS (Safe.ext E294 Sb293.ch Sf_b294) sf0)
      have O295 := O294.keep K295 (allS g_b294 all0)
      have KC295 : Keep h0 T295.heap [] := KC294.trans K295 (allS (Or.inr sz_b294) all0)
      have c297 := (((f292_4.keep K293 nin0).ext E294).keep K295 (ninS (Nat.ne_of_lt (Nat.lt_of_lt_of_le (Nat.lt_of_lt_of_le f292_4.lt K293.1) (Nat.le_of_eq g294.symm))) nin0))
      have c298 := ((f293_4.ext E294).keep K295 (ninS (Nat.ne_of_lt (Nat.lt_of_lt_of_le f293_4.lt (Nat.le_of_eq g294.symm))) nin0))
      have c299 := (((f292_0.keep K293).ext E294).keep K295)
      have c300 := (((f292_2.keep K293 nin0).ext E294).keep K295 (ninS (Nat.ne_of_lt (Nat.lt_of_lt_of_le (Nat.lt_of_lt_of_le f292_0.lt K293.1) (Nat.le_of_eq g294.symm))) nin0))
      have c301 := (((f292_3.keep K293 nin0).ext E294).keep K295 (ninS (Nat.ne_of_lt (Nat.lt_of_lt_of_le (Nat.lt_of_lt_of_le f292_0.lt K293.1) (Nat.le_of_eq g294.symm))) nin0))
      have c302 := ((f293_0.ext E294).keep K295)
      have c303 := ((f293_2.ext E294).keep K295 (ninS (Nat.ne_of_lt (Nat.lt_of_lt_of_le f293_0.lt (Nat.le_of_eq g294.symm))) nin0))
      have c304 := ((f293_3.ext E294).keep K295 (ninS (Nat.ne_of_lt (Nat.lt_of_lt_of_le f293_0.lt (Nat.le_of_eq g294.symm))) nin0))
      obtain ⟨cq296, kq296, q296a, q296b, q296c⟩ := isOf hZ293 rfl f295_0
      obtain ⟨_, _, ⟨T296, L296, k296, n296⟩, -, X296, Si296, Gr296, ⟨Lc296, hQ296, l296, y296, z296, A296⟩, st296⟩ := X295.virtualBackS hx (y := (⟨"com/example/slatewipe/slatewipe/Table", "qualifiedName", "()Ljava/lang/String;"⟩ : MethodName)) (z := (⟨"com/example/slatewipe/slatewipe/Table", "qualifiedName", "()Ljava/lang/String;"⟩ : MethodName)) hO293 (mvT hZ293 hw43) (mvT hZ293 hw44) (notFace_of_selects (args := #[]) (mvT hZ293 hw46)) (mvT hZ293 hw46) (mvT hZ293 hw45) (by decide) (own_backS (W := 0) (rmQN l Z a0 hw [] vcs vfm G b294 r_292 rb_292 kb_292 ((2 : Int32)) ([(Value.int (q7.toInt8.toInt32)), (Value.int (q8.toInt8.toInt32))]) r_293 rb_293 kb_293 ((0 : Int32)) ([]) T295.heap n0 O295 f295_0 f295_1 f295_2 c299 c300 c301 c297 (Or.inr (Or.inr rfl)) c302 c303 c304 c298 (Or.inl rfl)) Sb295 hw47 hw29 (by decide) (by decide) hEL all0) q296a q296c (g := (mkF m 85 #[vi il, vi ia, vi ib, vi ic, vi id, vi (2 : Int32), vi (0 : Int32), vi q7, vi q8, vi q9, vi q10, vr r_292, vr r_293, .unset, .unset] [(.ref b294)])) rfl (by rw [hml]; rfl) (Steps.refl _) (argsL := []) (rest := []) (lenOf pd_21 rfl) rfl (by show 2 * 0 + _ ≤ _; exact Nat.le_of_eq rfl) (hb hby at_85) (fun _ _ => ⟨rfl, rfl, (by decide : 10 + 6 ≤ _), (by decide : 22 + 48 ≤ _)⟩)
      dsimp only [Pt.U, Pt.locs, Pt.cells, Pt.slots] at X296 l296 y296 z296 st296 hQ296 Si296 Gr296 A296
      subst l296 y296 z296
      obtain ⟨r_296, rb_296, kb_296, zr_296, vsr_296, rfl, N296q, K296, f296_0, f296_1, f296_2, f296_3, f296_4, f296_5, r296_0, r296_1⟩ := hQ296
      have N296 := Fr.app N295 N296q
      obtain ⟨lc296, X296, N296⟩ := own_pack X296 N296
      replace X296 := own_reb X296
      have Sb296 := Sb295.called Si296 Gr296 A296
      have hZ296 := Sb296.hZ
      have hO296 := Sb296.hO
      refine Go.by' (fun t k => st296.trans k) ?_
      have Sf_r_296 : Safe Z consts_1 T293.vm T295.heap r_296 := Safe.new f296_1
      have g_r_296 : n0 ≤ r_296 := Nat.le_trans (own_le O295) f296_1
      have sz_r_296 : h0.size ≤ r_296 := Nat.le_trans KC295.1 f296_1
      have Sf_rb_296 : Safe Z consts_1 T293.vm T295.heap rb_296 := Safe.new f296_5
      have g_rb_296 : n0 ≤ rb_296 := Nat.le_trans (own_le O295) f296_5
      have sz_rb_296 : h0.size ≤ rb_296 := Nat.le_trans KC295.1 f296_5
      have O296 := O295.keep K296 all0
      have KC296 : Keep h0 T296.heap [] := KC295.trans K296 all0
      obtain rfl : zr_296 = (3 : Int32) := r296_0.trans (by decide)
      obtain rfl : vsr_296 = [(Value.int (q7.toInt8.toInt32)), (Value.int (q8.toInt8.toInt32)), (Value.int (46 : Int32))] := r296_1.trans rfl
      show Go p.tables e below Pf (T296.setTop (mkF m 88 #[vi il, vi ia, vi ib, vi ic, vi id, vi (2 : Int32), vi (0 : Int32), vi q7, vi q8, vi q9, vi q10, vr r_292, vr r_293, .unset, .unset] [(.ref r_296)]))
      refine Go.by' (fun t k => (XS.astore X296.here hx rfl (hb hby at_88) rfl rfl (l' := #[vi il, vi ia, vi ib, vi ic, vi id, vi (2 : Int32), vi (0 : Int32), vi q7, vi q8, vi q9, vi q10, vr r_292, vr r_293, vr r_296, .unset]) rfl (XS.iload X296.here hx rfl (hb hby at_90) rfl (XS.iconst X296.here hx rfl (hb hby at_92) (XS.iadd X296.here hx rfl (hb hby at_93) rfl k))))) ?_
      show Go p.tables e below Pf (T296.setTop (mkF m 94 #[vi il, vi ia, vi ib, vi ic, vi id, vi (2 : Int32), vi (0 : Int32), vi q7, vi q8, vi q9, vi q10, vr r_292, vr r_293, vr r_296, .unset] [(.int ((2 : Int32) + (1 : Int32)))]))
      refine Go.castF (a := ((2 : Int32) + (1 : Int32))) (b := (3 : Int32)) (fun z' : Int32 => mkF m 94 #[vi il, vi ia, vi ib, vi ic, vi id, vi (2 : Int32), vi (0 : Int32), vi q7, vi q8, vi q9, vi q10, vr r_292, vr r_293, vr r_296, .unset] [(.int z')]) (by decide) ?_
      show Go p.tables e below Pf (T296.setTop (mkF m 94 #[vi il, vi ia, vi ib, vi ic, vi id, vi (2 : Int32), vi (0 : Int32), vi q7, vi q8, vi q9, vi q10, vr r_292, vr r_293, vr r_296, .unset] [(.int (3 : Int32))]))
      refine Go.by' (fun t k => (XS.iload X296.here hx rfl (hb hby at_94) rfl (XS.iadd X296.here hx rfl (hb hby at_96) rfl k))) ?_
      show Go p.tables e below Pf (T296.setTop (mkF m 97 #[vi il, vi ia, vi ib, vi ic, vi id, vi (2 : Int32), vi (0 : Int32), vi q7, vi q8, vi q9, vi q10, vr r_292, vr r_293, vr r_296, .unset] [(.int ((3 : Int32) + (0 : Int32)))]))
      refine Go.castF (a := ((3 : Int32) + (0 : Int32))) (b := (3 : Int32)) (fun z' : Int32 => mkF m 97 #[vi il, vi ia, vi ib, vi ic, vi id, vi (2 : Int32), vi (0 : Int32), vi q7, vi q8, vi q9, vi q10, vr r_292, vr r_293, vr r_296, .unset] [(.int z')]) (by decide) ?_
      show Go p.tables e below Pf (T296.setTop (mkF m 97 #[vi il, vi ia, vi ib, vi ic, vi id, vi (2 : Int32), vi (0 : Int32), vi q7, vi q8, vi q9, vi q10, vr r_292, vr r_293, vr r_296, .unset] [(.int (3 : Int32))]))
      refine Go.by' (fun t k => (XS.istore X296.here hx rfl (hb hby at_97) rfl (l' := #[vi il, vi ia, vi ib, vi ic, vi id, vi (2 : Int32), vi (0 : Int32), vi q7, vi q8, vi q9, vi q10, vr r_292, vr r_293, vr r_296, vi (3 : Int32)]) rfl (XS.aload X296.here hx rfl (hb hby at_99) rfl rfl (XS.ifnullNo X296.here hx rfl (hb hby at_101) rfl (XS.aload X296.here hx rfl (hb hby at_104) rfl rfl k))))) ?_
      obtain ⟨cq305, kq305, q305a, q305b, q305c⟩ := isOf hZ296 rfl f296_0
      obtain ⟨_, _, ⟨T305, L305, k305, n305⟩, -, X305, ⟨Lc305, hQ305, l305, y305, z305⟩, st305⟩ := X296.virtualBack hx (y := (⟨"java/lang/String", "length", "()I"⟩ : MethodName)) (z := (⟨"java/lang/String", "length", "()I"⟩ : MethodName)) hO296 (mvT hZ296 hw160) (mvT hZ296 hw77) (notFace_of_selects (args := #[]) (mvT hZ296 hw79)) (mvT hZ296 hw79) (mvT hZ296 hw78) (by decide) (backOf (W := 0) (rmLn l Z a0 hw [] vcs vfm G r_296 rb_296 kb_296 ((3 : Int32)) ([(Value.int (q7.toInt8.toInt32)), (Value.int (q8.toInt8.toInt32)), (Value.int (46 : Int32))]) T296.heap n0 O296 f296_0 f296_2 f296_3 f296_4) hZ296 hw80 hw7 (by decide) (by decide)) q305a q305c (g := (mkF m 106 #[vi il, vi ia, vi ib, vi ic, vi id, vi (2 : Int32), vi (0 : Int32), vi q7, vi q8, vi q9, vi q10, vr r_292, vr r_293, vr r_296, vi (3 : Int32)] [(.ref r_296)])) rfl (by rw [hml]; rfl) (Steps.refl _) (argsL := []) (rest := []) (lenOf pd_8 rfl) rfl (by show 2 * 0 + _ ≤ _; exact Nat.le_of_eq rfl) (hb hby at_106) (fun _ _ => ⟨rfl, rfl, (by decide : 16 + 0 ≤ _), (by decide : 70 + 0 ≤ _)⟩)
      dsimp only [Pt.U, Pt.locs, Pt.cells, Pt.slots] at X305 l305 y305 z305 st305 hQ305
      subst l305 y305 z305
      obtain ⟨rfl, rfl, e305⟩ := hQ305
      try replace X305 := own_nil X305
      refine Go.by' (fun t k => st305.trans k) ?_
      show Go p.tables e below Pf (T305.setTop (mkF m 109 #[vi il, vi ia, vi ib, vi ic, vi id, vi (2 : Int32), vi (0 : Int32), vi q7, vi q8, vi q9, vi q10, vr r_292, vr r_293, vr r_296, vi (3 : Int32)] [(.int (3 : Int32))]))
      refine Go.by' (fun t k => (XS.iload X305.here hx rfl (hb hby at_109) rfl (XS.icmpYes X305.here hx rfl (pc0 := 111) (pc' := 116) rfl (hb hby at_111) rfl (teq (by decide)).1 (by decide) (by decide) (XS.aload X305.here hx rfl (hb hby at_116) rfl rfl (XS.iconst X305.here hx rfl (hb hby at_118) (XS.iload X305.here hx rfl (hb hby at_119) rfl (XS.iload X305.here hx rfl (hb hby at_121) rfl (XS.iload X305.here hx rfl (hb hby at_123) rfl (XS.iload X305.here hx rfl (hb hby at_125) rfl k))))))))) ?_
      show Go p.tables e below Pf (T305.setTop (mkF m 127 #[vi il, vi ia, vi ib, vi ic, vi id, vi (2 : Int32), vi (0 : Int32), vi q7, vi q8, vi q9, vi q10, vr r_292, vr r_293, vr r_296, vi (3 : Int32)] [(.int q8), (.int q7), (.int (2 : Int32)), (.int (3 : Int32)), (.int (0 : Int32)), (.ref r_296)]))
      refine Go.by' (fun t k => (XS.iload X305.here hx rfl (hb hby at_127) rfl (XS.iload X305.here hx rfl (hb hby at_129) rfl k))) ?_
      obtain ⟨_, _, ⟨T306, L306, k306, n306⟩, -, X306, ⟨Lc306, hQ306, l306, y306, z306⟩, st306⟩ := Jvm.LawKit.callS X305 hx (y := (⟨"com/example/slatewipe/slatewipe/TableQualifiedNamePinLaw", "at", "(Ljava/lang/String;IIICCCC)Z"⟩ : MethodName)) hO296 (mvT hZ296 hw161) (mvT hZ296 hw162) (mvT hZ296 hw3) (mvT hZ296 hw163) (by decide) (backOf (W := 0) (rmAt_20 l Z a0 hw [] vcs vfm G r_296 ((3 : Int32)) q7 q8 q9 q10 rb_296 kb_296 ([(Value.int (q7.toInt8.toInt32)), (Value.int (q8.toInt8.toInt32)), (Value.int (46 : Int32))]) ((q7.toInt8.toInt32)) T296.heap n0 O296 f296_0 f296_2 f296_3 f296_4 (by decide) rfl (own_u8 bd7)) hZ296 hw163 hw3 (by decide) (by decide)) (g := (mkF m 131 #[vi il, vi ia, vi ib, vi ic, vi id, vi (2 : Int32), vi (0 : Int32), vi q7, vi q8, vi q9, vi q10, vr r_292, vr r_293, vr r_296, vi (3 : Int32)] [(.int q10), (.int q9), (.int q8), (.int q7), (.int (2 : Int32)), (.int (3 : Int32)), (.int (0 : Int32)), (.ref r_296)])) rfl (by rw [hml]; rfl) (argsL := [(.ref r_296), (.int (0 : Int32)), (.int (3 : Int32)), (.int (2 : Int32)), (.int q7), (.int q8), (.int q9), (.int q10)]) (rest := []) (lenOf pd_27 rfl) rfl (by show 2 * 0 + _ ≤ _; exact Nat.le_of_eq rfl) (hb hby at_131) (fun _ _ => ⟨rfl, e305, (by decide : 16 + 0 ≤ _), (by decide : 70 + 0 ≤ _)⟩)
      dsimp only [Pt.U, Pt.locs, Pt.cells, Pt.slots] at X306 l306 y306 z306 st306 hQ306
      subst l306 y306 z306
      obtain ⟨rfl, rfl, e306⟩ := hQ306
      try replace X306 := own_nil X306
      refine Go.by' st306 ?_
      show Go p.tables e below Pf (T306.setTop (mkF m 134 #[vi il, vi ia, vi ib, vi ic, vi id, vi (2 : Int32), vi (0 : Int32), vi q7, vi q8, vi q9, vi q10, vr r_292, vr r_293, vr r_296, vi (3 : Int32)] [(.int (1 : Int32))]))
      refine Go.by' (fun t k => (XS.ifNo X306.here hx rfl (hb hby at_134) rfl ((if0 _ _).trans (feq (by decide)).1) (XS.aload X306.here hx rfl (hb hby at_137) rfl rfl (XS.iconst X306.here hx rfl (hb hby at_139) (XS.iload X306.here hx rfl (hb hby at_140) rfl (XS.iload X306.here hx rfl (hb hby at_142) rfl (XS.iload X306.here hx rfl (hb hby at_144) rfl (XS.iload X306.here hx rfl (hb hby at_146) rfl (XS.iload X306.here hx rfl (hb hby at_148) rfl k))))))))) ?_
      show Go p.tables e below Pf (T306.setTop (mkF m 150 #[vi il, vi ia, vi ib, vi ic, vi id, vi (2 : Int32), vi (0 : Int32), vi q7, vi q8, vi q9, vi q10, vr r_292, vr r_293, vr r_296, vi (3 : Int32)] [(.int q9), (.int q8), (.int q7), (.int (2 : Int32)), (.int (3 : Int32)), (.int (1 : Int32)), (.ref r_296)]))
      refine Go.by' (fun t k => (XS.iload X306.here hx rfl (hb hby at_150) rfl k)) ?_
      obtain ⟨_, _, ⟨T307, L307, k307, n307⟩, -, X307, ⟨Lc307, hQ307, l307, y307, z307⟩, st307⟩ := Jvm.LawKit.callS X306 hx (y := (⟨"com/example/slatewipe/slatewipe/TableQualifiedNamePinLaw", "at", "(Ljava/lang/String;IIICCCC)Z"⟩ : MethodName)) hO296 (mvT hZ296 hw161) (mvT hZ296 hw162) (mvT hZ296 hw3) (mvT hZ296 hw163) (by decide) (backOf (W := 0) (rmAt_21 l Z a0 hw [] vcs vfm G r_296 ((3 : Int32)) q7 q8 q9 q10 rb_296 kb_296 ([(Value.int (q7.toInt8.toInt32)), (Value.int (q8.toInt8.toInt32)), (Value.int (46 : Int32))]) ((q8.toInt8.toInt32)) T296.heap n0 O296 f296_0 f296_2 f296_3 f296_4 (by decide) rfl (own_u8 bd8)) hZ296 hw163 hw3 (by decide) (by decide)) (g := (mkF m 152 #[vi il, vi ia, vi ib, vi ic, vi id, vi (2 : Int32), vi (0 : Int32), vi q7, vi q8, vi q9, vi q10, vr r_292, vr r_293, vr r_296, vi (3 : Int32)] [(.int q10), (.int q9), (.int q8), (.int q7), (.int (2 : Int32)), (.int (3 : Int32)), (.int (1 : Int32)), (.ref r_296)])) rfl (by rw [hml]; rfl) (argsL := [(.ref r_296), (.int (1 : Int32)), (.int (3 : Int32)), (.int (2 : Int32)), (.int q7), (.int q8), (.int q9), (.int q10)]) (rest := []) (lenOf pd_27 rfl) rfl (by show 2 * 0 + _ ≤ _; exact Nat.le_of_eq rfl) (hb hby at_152) (fun _ _ => ⟨rfl, e306, (by decide : 16 + 0 ≤ _), (by decide : 70 + 0 ≤ _)⟩)
      dsimp only [Pt.U, Pt.locs, Pt.cells, Pt.slots] at X307 l307 y307 z307 st307 hQ307
      subst l307 y307 z307
      obtain ⟨rfl, rfl, e307⟩ := hQ307
      try replace X307 := own_nil X307
      refine Go.by' st307 ?_
      show Go p.tables e below Pf (T307.setTop (mkF m 155 #[vi il, vi ia, vi ib, vi ic, vi id, vi (2 : Int32), vi (0 : Int32), vi q7, vi q8, vi q9, vi q10, vr r_292, vr r_293, vr r_296, vi (3 : Int32)] [(.int (1 : Int32))]))
      refine Go.by' (fun t k => (XS.ifNo X307.here hx rfl (hb hby at_155) rfl ((if0 _ _).trans (feq (by decide)).1) (XS.aload X307.here hx rfl (hb hby at_158) rfl rfl (XS.iconst X307.here hx rfl (hb hby at_160) (XS.iload X307.here hx rfl (hb hby at_161) rfl (XS.iload X307.here hx rfl (hb hby at_163) rfl (XS.iload X307.here hx rfl (hb hby at_165) rfl (XS.iload X307.here hx rfl (hb hby at_167) rfl (XS.iload X307.here hx rfl (hb hby at_169) rfl k))))))))) ?_
      show Go p.tables e below Pf (T307.setTop (mkF m 171 #[vi il, vi ia, vi ib, vi ic, vi id, vi (2 : Int32), vi (0 : Int32), vi q7, vi q8, vi q9, vi q10, vr r_292, vr r_293, vr r_296, vi (3 : Int32)] [(.int q9), (.int q8), (.int q7), (.int (2 : Int32)), (.int (3 : Int32)), (.int (2 : Int32)), (.ref r_296)]))
      refine Go.by' (fun t k => (XS.iload X307.here hx rfl (hb hby at_171) rfl k)) ?_
      obtain ⟨_, _, ⟨T308, L308, k308, n308⟩, -, X308, ⟨Lc308, hQ308, l308, y308, z308⟩, st308⟩ := Jvm.LawKit.callS X307 hx (y := (⟨"com/example/slatewipe/slatewipe/TableQualifiedNamePinLaw", "at", "(Ljava/lang/String;IIICCCC)Z"⟩ : MethodName)) hO296 (mvT hZ296 hw161) (mvT hZ296 hw162) (mvT hZ296 hw3) (mvT hZ296 hw163) (by decide) (backOf (W := 0) (rmAt_22 l Z a0 hw [] vcs vfm G r_296 ((3 : Int32)) q7 q8 q9 q10 rb_296 kb_296 ([(Value.int (q7.toInt8.toInt32)), (Value.int (q8.toInt8.toInt32)), (Value.int (46 : Int32))]) ((46 : Int32)) T296.heap n0 O296 f296_0 f296_2 f296_3 f296_4 (by decide) rfl (by decide)) hZ296 hw163 hw3 (by decide) (by decide)) (g := (mkF m 173 #[vi il, vi ia, vi ib, vi ic, vi id, vi (2 : Int32), vi (0 : Int32), vi q7, vi q8, vi q9, vi q10, vr r_292, vr r_293, vr r_296, vi (3 : Int32)] [(.int q10), (.int q9), (.int q8), (.int q7), (.int (2 : Int32)), (.int (3 : Int32)), (.int (2 : Int32)), (.ref r_296)])) rfl (by rw [hml]; rfl) (argsL := [(.ref r_296), (.int (2 : Int32)), (.int (3 : Int32)), (.int (2 : Int32)), (.int q7), (.int q8), (.int q9), (.int q10)]) (rest := []) (lenOf pd_27 rfl) rfl (by show 2 * 0 + _ ≤ _; exact Nat.le_of_eq rfl) (hb hby at_173) (fun _ _ => ⟨rfl, e307, (by decide : 16 + 0 ≤ _), (by decide : 70 + 0 ≤ _)⟩)
      dsimp only [Pt.U, Pt.locs, Pt.cells, Pt.slots] at X308 l308 y308 z308 st308 hQ308
      subst l308 y308 z308
      obtain ⟨rfl, rfl, e308⟩ := hQ308
      try replace X308 := own_nil X308
      refine Go.by' st308 ?_
      show Go p.tables e below Pf (T308.setTop (mkF m 176 #[vi il, vi ia, vi ib, vi ic, vi id, vi (2 : Int32), vi (0 : Int32), vi q7, vi q8, vi q9, vi q10, vr r_292, vr r_293, vr r_296, vi (3 : Int32)] [(.int (1 : Int32))]))
      refine Go.by' (fun t k => (XS.ifNo X308.here hx rfl (hb hby at_176) rfl ((if0 _ _).trans (feq (by decide)).1) (XS.aload X308.here hx rfl (hb hby at_179) rfl rfl (XS.iconst X308.here hx rfl (hb hby at_181) (XS.iload X308.here hx rfl (hb hby at_182) rfl (XS.iload X308.here hx rfl (hb hby at_184) rfl (XS.iload X308.here hx rfl (hb hby at_186) rfl (XS.iload X308.here hx rfl (hb hby at_188) rfl (XS.iload X308.here hx rfl (hb hby at_190) rfl k))))))))) ?_
      show Go p.tables e below Pf (T308.setTop (mkF m 192 #[vi il, vi ia, vi ib, vi ic, vi id, vi (2 : Int32), vi (0 : Int32), vi q7, vi q8, vi q9, vi q10, vr r_292, vr r_293, vr r_296, vi (3 : Int32)] [(.int q9), (.int q8), (.int q7), (.int (2 : Int32)), (.int (3 : Int32)), (.int (3 : Int32)), (.ref r_296)]))
      refine Go.by' (fun t k => (XS.iload X308.here hx rfl (hb hby at_192) rfl k)) ?_
      obtain ⟨_, _, ⟨T309, L309, k309, n309⟩, -, X309, ⟨Lc309, hQ309, l309, y309, z309⟩, st309⟩ := Jvm.LawKit.callS X308 hx (y := (⟨"com/example/slatewipe/slatewipe/TableQualifiedNamePinLaw", "at", "(Ljava/lang/String;IIICCCC)Z"⟩ : MethodName)) hO296 (mvT hZ296 hw161) (mvT hZ296 hw162) (mvT hZ296 hw3) (mvT hZ296 hw163) (by decide) (backOf (W := 0) (rmAT_3 l Z a0 hw [] vcs vfm G r_296 ((3 : Int32)) ((2 : Int32)) q7 q8 q9 q10 T296.heap n0 O296 (by decide)) hZ296 hw163 hw3 (by decide) (by decide)) (g := (mkF m 194 #[vi il, vi ia, vi ib, vi ic, vi id, vi (2 : Int32), vi (0 : Int32), vi q7, vi q8, vi q9, vi q10, vr r_292, vr r_293, vr r_296, vi (3 : Int32)] [(.int q10), (.int q9), (.int q8), (.int q7), (.int (2 : Int32)), (.int (3 : Int32)), (.int (3 : Int32)), (.ref r_296)])) rfl (by rw [hml]; rfl) (argsL := [(.ref r_296), (.int (3 : Int32)), (.int (3 : Int32)), (.int (2 : Int32)), (.int q7), (.int q8), (.int q9), (.int q10)]) (rest := []) (lenOf pd_27 rfl) rfl (by show 2 * 0 + _ ≤ _; exact Nat.le_of_eq rfl) (hb hby at_194) (fun _ _ => ⟨rfl, e308, (by decide : 16 + 0 ≤ _), (by decide : 70 + 0 ≤ _)⟩)
      dsimp only [Pt.U, Pt.locs, Pt.cells, Pt.slots] at X309 l309 y309 z309 st309 hQ309
      subst l309 y309 z309
      obtain ⟨rfl, rfl, e309⟩ := hQ309
      try replace X309 := own_nil X309
      refine Go.by' st309 ?_
      show Go p.tables e below Pf (T309.setTop (mkF m 197 #[vi il, vi ia, vi ib, vi ic, vi id, vi (2 : Int32), vi (0 : Int32), vi q7, vi q8, vi q9, vi q10, vr r_292, vr r_293, vr r_296, vi (3 : Int32)] [(.int (1 : Int32))]))
      refine Go.by' (fun t k => (XS.ifNo X309.here hx rfl (hb hby at_197) rfl ((if0 _ _).trans (feq (by decide)).1) (XS.aload X309.here hx rfl (hb hby at_200) rfl rfl (XS.iconst X309.here hx rfl (hb hby at_202) (XS.iload X309.here hx rfl (hb hby at_203) rfl (XS.iload X309.here hx rfl (hb hby at_205) rfl (XS.iload X309.here hx rfl (hb hby at_207) rfl (XS.iload X309.here hx rfl (hb hby at_209) rfl (XS.iload X309.here hx rfl (hb hby at_211) rfl k))))))))) ?_
      show Go p.tables e below Pf (T309.setTop (mkF m 213 #[vi il, vi ia, vi ib, vi ic, vi id, vi (2 : Int32), vi (0 : Int32), vi q7, vi q8, vi q9, vi q10, vr r_292, vr r_293, vr r_296, vi (3 : Int32)] [(.int q9), (.int q8), (.int q7), (.int (2 : Int32)), (.int (3 : Int32)), (.int (4 : Int32)), (.ref r_296)]))
      refine Go.by' (fun t k => (XS.iload X309.here hx rfl (hb hby at_213) rfl k)) ?_
      obtain ⟨_, _, ⟨T310, L310, k310, n310⟩, -, X310, ⟨Lc310, hQ310, l310, y310, z310⟩, st310⟩ := Jvm.LawKit.callS X309 hx (y := (⟨"com/example/slatewipe/slatewipe/TableQualifiedNamePinLaw", "at", "(Ljava/lang/String;IIICCCC)Z"⟩ : MethodName)) hO296 (mvT hZ296 hw161) (mvT hZ296 hw162) (mvT hZ296 hw3) (mvT hZ296 hw163) (by decide) (backOf (W := 0) (rmAT_4 l Z a0 hw [] vcs vfm G r_296 ((3 : Int32)) ((2 : Int32)) q7 q8 q9 q10 T296.heap n0 O296 (by decide)) hZ296 hw163 hw3 (by decide) (by decide)) (g := (mkF m 215 #[vi il, vi ia, vi ib, vi ic, vi id, vi (2 : Int32), vi (0 : Int32), vi q7, vi q8, vi q9, vi q10, vr r_292, vr r_293, vr r_296, vi (3 : Int32)] [(.int q10), (.int q9), (.int q8), (.int q7), (.int (2 : Int32)), (.int (3 : Int32)), (.int (4 : Int32)), (.ref r_296)])) rfl (by rw [hml]; rfl) (argsL := [(.ref r_296), (.int (4 : Int32)), (.int (3 : Int32)), (.int (2 : Int32)), (.int q7), (.int q8), (.int q9), (.int q10)]) (rest := []) (lenOf pd_27 rfl) rfl (by show 2 * 0 + _ ≤ _; exact Nat.le_of_eq rfl) (hb hby at_215) (fun _ _ => ⟨rfl, e309, (by decide : 16 + 0 ≤ _), (by decide : 70 + 0 ≤ _)⟩)
      dsimp only [Pt.U, Pt.locs, Pt.cells, Pt.slots] at X310 l310 y310 z310 st310 hQ310
      subst l310 y310 z310
      obtain ⟨rfl, rfl, e310⟩ := hQ310
      try replace X310 := own_nil X310
      refine Go.by' st310 ?_
      show Go p.tables e below Pf (T310.setTop (mkF m 218 #[vi il, vi ia, vi ib, vi ic, vi id, vi (2 : Int32), vi (0 : Int32), vi q7, vi q8, vi q9, vi q10, vr r_292, vr r_293, vr r_296, vi (3 : Int32)] [(.int (1 : Int32))]))
      refine Go.by' (fun t k => (XS.ifNo X310.here hx rfl (hb hby at_218) rfl ((if0 _ _).trans (feq (by decide)).1) (XS.iconst X310.here hx rfl (hb hby at_221) (XS.goto X310.here hx rfl (pc0 := 222) (pc' := 226) rfl (hb hby at_222) (by decide) (by decide) k)))) ?_
      show Go p.tables e below Pf (T310.setTop (mkF m 226 #[vi il, vi ia, vi ib, vi ic, vi id, vi (2 : Int32), vi (0 : Int32), vi q7, vi q8, vi q9, vi q10, vr r_292, vr r_293, vr r_296, vi (3 : Int32)] [(.int (1 : Int32))]))
      rw [hPf]
      exact Go.retIS X310 hx hEL Sb296 e310 hh hret hlk (by simp) rfl (hb hby at_226) (by decide) (by decide) ⟨rfl, N296, (by rw [e310]; exact KC296)⟩
    · refine Go.castF (a := ((((il.toUInt32 >>> ((8 : Int32) &&& 31).toUInt32).toInt32) &&& (2147483647 : Int32)) % (3 : Int32))) (b := (1 : Int32)) (fun z' : Int32 => mkF m 52 #[vi il, vi ia, vi ib, vi ic, vi id, vi (2 : Int32), vi z', vi q7, vi q8, vi q9, vi q10, .unset, .unset, .unset, .unset] []) (hm) ?_
      show Go p.tables e below Pf (s₁.setTop (mkF m 52 #[vi il, vi ia, vi ib, vi ic, vi id, vi (2 : Int32), vi (1 : Int32), vi q7, vi q8, vi q9, vi q10, .unset, .unset, .unset, .unset] []))
      refine Go.by' (fun t k => (XS.iload X0.here hx rfl (hb hby at_52) rfl (XS.iload X0.here hx rfl (hb hby at_54) rfl (XS.iload X0.here hx rfl (hb hby at_56) rfl k)))) ?_
      obtain ⟨_, _, ⟨T311, L311, k311, n311⟩, -, X311, ⟨Lc311, hQ311, l311, y311, z311⟩, st311⟩ := Jvm.LawKit.callS X0 hx (y := (⟨"com/example/slatewipe/slatewipe/TableQualifiedNamePinLaw", "make", "(ICC)Ljava/lang/String;"⟩ : MethodName)) hown (mvT hZ hw1) (mvT hZ hw2) (mvT hZ hw3) (mvT hZ hw4) (by decide) (backOf (W := 0) (rmMk_2 l Z a0 hw [] vcs vfm G q7 q8 h0 n0 O0 bd7.1 bd7.2 bd8.1 bd8.2) hZ hw4 hw3 (by decide) (by decide)) (g := (mkF m 58 #[vi il, vi ia, vi ib, vi ic, vi id, vi (2 : Int32), vi (1 : Int32), vi q7, vi q8, vi q9, vi q10, .unset, .unset, .unset, .unset] [(.int q8), (.int q7), (.int (2 : Int32))])) rfl (by rw [hml]; rfl) (argsL := [(.int (2 : Int32)), (.int q7), (.int q8)]) (rest := []) (lenOf pd_25 rfl) rfl (by show 2 * 0 + _ ≤ _; exact Nat.le_of_eq rfl) (hb hby at_58) (fun _ _ => ⟨rfl, e0, (by decide : 0 + 3 ≤ _), (by decide : 0 + 8 ≤ _)⟩)
      dsimp only [Pt.U, Pt.locs, Pt.cells, Pt.slots] at X311 l311 y311 z311 st311 hQ311
      subst l311 y311 z311
      obtain ⟨r_311, rb_311, kb_311, rfl, N311q, K311, f311_0, f311_1, f311_2, f311_3, f311_4, f311_5⟩ := hQ311
      have N311 := Fr.app N0 N311q
      obtain ⟨lc311, X311, N311⟩ := own_pack X311 N311
      refine Go.by' st311 ?_
      have Sf_r_311 : Safe Z consts_1 s.vm h0 r_311 := Safe.new f311_1
      have g_r_311 : n0 ≤ r_311 := Nat.le_trans (own_le O0) f311_1
      have sz_r_311 : h0.size ≤ r_311 := Nat.le_trans KC0.1 f311_1
      have Sf_rb_311 : Safe Z consts_1 s.vm h0 rb_311 := Safe.new f311_5
      have g_rb_311 : n0 ≤ rb_311 := Nat.le_trans (own_le O0) f311_5
      have sz_rb_311 : h0.size ≤ rb_311 := Nat.le_trans KC0.1 f311_5
      have Sb311 := Sb0.keep K311 sf0
      have O311 := O0.keep K311 all0
      have KC311 : Keep h0 T311.heap [] := KC0.trans K311 all0
      show Go p.tables e below Pf (T311.setTop (mkF m 61 #[vi il, vi ia, vi ib, vi ic, vi id, vi (2 : Int32), vi (1 : Int32), vi q7, vi q8, vi q9, vi q10, .unset, .unset, .unset, .unset] [(.ref r_311)]))
      refine Go.by' (fun t k => (XS.astore X311.here hx rfl (hb hby at_61) rfl rfl (l' := #[vi il, vi ia, vi ib, vi ic, vi id, vi (2 : Int32), vi (1 : Int32), vi q7, vi q8, vi q9, vi q10, vr r_311, .unset, .unset, .unset]) rfl (XS.iload X311.here hx rfl (hb hby at_63) rfl (XS.iload X311.here hx rfl (hb hby at_65) rfl (XS.iload X311.here hx rfl (hb hby at_67) rfl k))))) ?_
      obtain ⟨_, _, ⟨T312, L312, k312, n312⟩, -, X312, ⟨Lc312, hQ312, l312, y312, z312⟩, st312⟩ := Jvm.LawKit.callS X311 hx (y := (⟨"com/example/slatewipe/slatewipe/TableQualifiedNamePinLaw", "make", "(ICC)Ljava/lang/String;"⟩ : MethodName)) hown (mvT hZ hw1) (mvT hZ hw2) (mvT hZ hw3) (mvT hZ hw4) (by decide) (backOf (W := 0) (rmMk_1 l Z a0 hw [] vcs vfm G q9 q10 T311.heap n0 O311 bd9.1 bd9.2) hZ hw4 hw3 (by decide) (by decide)) (g := (mkF m 69 #[vi il, vi ia, vi ib, vi ic, vi id, vi (2 : Int32), vi (1 : Int32), vi q7, vi q8, vi q9, vi q10, vr r_311, .unset, .unset, .unset] [(.int q10), (.int q9), (.int (1 : Int32))])) rfl (by rw [hml]; rfl) (argsL := [(.int (1 : Int32)), (.int q9), (.int q10)]) (rest := []) (lenOf pd_25 rfl) rfl (by show 2 * 0 + _ ≤ _; exact Nat.le_of_eq rfl) (hb hby at_69) (fun _ _ => ⟨rfl, rfl, (by decide : 3 + 3 ≤ _), (by decide : 8 + 6 ≤ _)⟩)
      dsimp only [Pt.U, Pt.locs, Pt.cells, Pt.slots] at X312 l312 y312 z312 st312 hQ312
      subst l312 y312 z312
      obtain ⟨r_312, rb_312, kb_312, rfl, N312q, K312, f312_0, f312_1, f312_2, f312_3, f312_4, f312_5⟩ := hQ312
      have N312 := Fr.app N311 N312q
      obtain ⟨lc312, X312, N312⟩ := own_pack X312 N312
      refine Go.by' st312 ?_
      have Sf_r_312 : Safe Z consts_1 s.vm T311.heap r_312 := Safe.new f312_1
      have g_r_312 : n0 ≤ r_312 := Nat.le_trans (own_le O311) f312_1
      have sz_r_312 : h0.size ≤ r_312 := Nat.le_trans KC311.1 f312_1
      have Sf_rb_312 : Safe Z consts_1 s.vm T311.heap rb_312 := Safe.new f312_5
      have g_rb_312 : n0 ≤ rb_312 := Nat.le_trans (own_le O311) f312_5
      have sz_rb_312 : h0.size ≤ rb_312 := Nat.le_trans KC311.1 f312_5
      have Sb312 := Sb311.keep K312 sf0
      have O312 := O311.keep K312 all0
      have KC312 : Keep h0 T312.heap [] := KC311.trans K312 all0
      show Go p.tables e below Pf (T312.setTop (mkF m 72 #[vi il, vi ia, vi ib, vi ic, vi id, vi (2 : Int32), vi (1 : Int32), vi q7, vi q8, vi q9, vi q10, vr r_311, .unset, .unset, .unset] [(.ref r_312)]))
      refine Go.by' (fun t k => (XS.astore X312.here hx rfl (hb hby at_72) rfl rfl (l' := #[vi il, vi ia, vi ib, vi ic, vi id, vi (2 : Int32), vi (1 : Int32), vi q7, vi q8, vi q9, vi q10, vr r_311, vr r_312, .unset, .unset]) rfl k)) ?_
      obtain ⟨T313, h313, X313, e313, E313, A313, D313, -, st313⟩ := newO X312 hx hZ hown hw27 hw28 hw29 rfl (g := (mkF m 74 #[vi il, vi ia, vi ib, vi ic, vi id, vi (2 : Int32), vi (1 : Int32), vi q7, vi q8, vi q9, vi q10, vr r_311, vr r_312, .unset, .unset] [])) rfl (hb hby at_74) (by decide) (by decide)
      obtain ⟨b313, g313⟩ : ∃ z, z = T312.heap.size := ⟨_, rfl⟩
      rw [← g313] at A313 D313 st313
      refine Go.by' st313 ?_
      have Sf_b313 : Safe Z consts_1 s.vm T312.heap b313 := Safe.new (Nat.le_of_eq g313.symm)
      have g_b313 : n0 ≤ b313 := Nat.le_trans (own_le O312) (Nat.le_of_eq g313.symm)
      have sz_b313 : h0.size ≤ b313 := Nat.le_trans KC312.1 (Nat.le_of_eq g313.symm)
      have Sb313 := Sb312.ext E313
      have O313 := O312.ext E313
      have KC313 : Keep h0 h313 [] := KC312.ext E313
      have Fn313_40 : Fld Z h313 b313 "com/example/slatewipe/slatewipe/Table" "schema" "Ljava/lang/String;" Value.null := D313 (Or.inr hw40) (ty := (.object "java/lang/String")) (by decide)
      have Fn313_42 : Fld Z h313 b313 "com/example/slatewipe/slatewipe/Table" "name" "Ljava/lang/String;" Value.null := D313 (Or.inr hw42) (ty := (.object "java/lang/String")) (by decide)
      show Go p.tables e below Pf (T313.setTop (mkF m 77 #[vi il, vi ia, vi ib, vi ic, vi id, vi (2 : Int32), vi (1 : Int32), vi q7, vi q8, vi q9, vi q10, vr r_311, vr r_312, .unset, .unset] [(.ref b313)]))
      refine Go.by' (fun t k => (XS.dup X313.here hx rfl (hb hby at_77) rfl rfl (XS.aload X313.here hx rfl (hb hby at_78) rfl rfl (XS.aload X313.here hx rfl (hb hby at_80) rfl rfl k)))) ?_
      obtain ⟨_, _, ⟨T314, L314, k314, n314⟩, -, X314, ⟨Lc314, hQ314, l314, y314, z314⟩, st314⟩ := X313.specialBack hx (y := (⟨"com/example/slatewipe/slatewipe/Table", "<init>", "(Ljava/lang/String;Ljava/lang/String;)V"⟩ : MethodName)) rfl hown (mvT hZ hw30) (mvT hZ hw31) (mvT hZ hw32) (by decide) (backOf (W := 1) (rmTab l Z a0 hw [] vcs vfm G b313 r_311 r_312 h313 n0 O313 A313 Fn313_40 Fn313_42 g_b313) hZ hw32 hw29 (by decide) (by decide)) (g := (mkF m 82 #[vi il, vi ia, vi ib, vi ic, vi id, vi (2 : Int32), vi (1 : Int32), vi q7, vi q8, vi q9, vi q10, vr r_311, vr r_312, .unset, .unset] [(.ref r_312), (.ref r_311), (.ref b313), (.ref b313)])) rfl (by rw [hml]; rfl) (Steps.refl _) (a := b313) (argsL := [(.ref r_311), (.ref r_312)]) (rest := [(.ref b313)]) (lenOf pd_26 rfl) rfl (by show 2 * 0 + _ ≤ _; exact Nat.le_of_eq rfl) (hb hby at_82) (fun _ _ => ⟨rfl, e313, (by decide : 7 + 0 ≤ _), (by decide : 16 + 0 ≤ _)⟩)
      dsimp only [Pt.U, Pt.locs, Pt.cells, Pt.slots] at X314 l314 y314 z314 st314 hQ314
      subst l314 y314 z314
      obtain ⟨rfl, N314q, K314, f314_0, f314_1, f314_2⟩ := hQ314
      have N314 := Fr.app N312 N314q
      obtain ⟨lc314, X314, N314⟩ := own_pack X314 N314
      refine Go.by' (fun t k => st314.trans k) ?_
      have Sb314 := Sb313.keep K314 (sfS (Safe.ext E313 Sb312.ch Sf_b313) sf0)
      have O314 := O313.keep K314 (allS g_b313 all0)
      have KC314 : Keep h0 T314.heap [] := KC313.trans K314 (allS (Or.inr sz_b313) all0)
      have c316 := (((f311_4.keep K312 nin0).ext E313).keep K314 (ninS (Nat.ne_of_lt (Nat.lt_of_lt_of_le (Nat.lt_of_lt_of_le f311_4.lt K312.1) (Nat.le_of_eq g313.symm))) nin0))
      have c317 := ((f312_4.ext E313).keep K314 (ninS (Nat.ne_of_lt (Nat.lt_of_lt_of_le f312_4.lt (Nat.le_of_eq g313.symm))) nin0))
      have c318 := (((f311_0.keep K312).ext E313).keep K314)
      have c319 := (((f311_2.keep K312 nin0).ext E313).keep K314 (ninS (Nat.ne_of_lt (Nat.lt_of_lt_of_le (Nat.lt_of_lt_of_le f311_0.lt K312.1) (Nat.le_of_eq g313.symm))) nin0))
      have c320 := (((f311_3.keep K312 nin0).ext E313).keep K314 (ninS (Nat.ne_of_lt (Nat.lt_of_lt_of_le (Nat.lt_of_lt_of_le f311_0.lt K312.1) (Nat.le_of_eq g313.symm))) nin0))
      have c321 := ((f312_0.ext E313).keep K314)
      have c322 := ((f312_2.ext E313).keep K314 (ninS (Nat.ne_of_lt (Nat.lt_of_lt_of_le f312_0.lt (Nat.le_of_eq g313.symm))) nin0))
      have c323 := ((f312_3.ext E313).keep K314 (ninS (Nat.ne_of_lt (Nat.lt_of_lt_of_le f312_0.lt (Nat.le_of_eq g313.symm))) nin0))
      obtain ⟨cq315, kq315, q315a, q315b, q315c⟩ := isOf hZ rfl f314_0
      obtain ⟨_, _, ⟨T315, L315, k315, n315⟩, -, X315, Si315, Gr315, ⟨Lc315, hQ315, l315, y315, z315, A315⟩, st315⟩ := X314.virtualBackS hx (y := (⟨"com/example/slatewipe/slatewipe/Table", "qualifiedName", "()Ljava/lang/String;"⟩ : MethodName)) (z := (⟨"com/example/slatewipe/slatewipe/Table", "qualifiedName", "()Ljava/lang/String;"⟩ : MethodName)) hown (mvT hZ hw43) (mvT hZ hw44) (notFace_of_selects (args := #[]) (mvT hZ hw46)) (mvT hZ hw46) (mvT hZ hw45) (by decide) (own_backS (W := 0) (rmQN l Z a0 hw [] vcs vfm G b313 r_311 rb_311 kb_311 ((2 : Int32)) ([(Value.int (q7.toInt8.toInt32)), (Value.int (q8.toInt8.toInt32))]) r_312 rb_312 kb_312 ((1 : Int32)) ([(Value.int (q9.toInt8.toInt32))]) T314.heap n0 O314 f314_0 f314_1 f314_2 c318 c319 c320 c316 (Or.inr (Or.inr rfl)) c321 c322 c323 c317 (Or.inr (Or.inl rfl))) Sb314 hw47 hw29 (by decide) (by decide) hEL all0) q315a q315c (g := (mkF m 85 #[vi il, vi ia, vi ib, vi ic, vi id, vi (2 : Int32), vi (1 : Int32), vi q7, vi q8, vi q9, vi q10, vr r_311, vr r_312, .unset, .unset] [(.ref b313)])) rfl (by rw [hml]; rfl) (Steps.refl _) (argsL := []) (rest := []) (lenOf pd_21 rfl) rfl (by show 2 * 0 + _ ≤ _; exact Nat.le_of_eq rfl) (hb hby at_85) (fun _ _ => ⟨rfl, rfl, (by decide : 7 + 6 ≤ _), (by decide : 16 + 48 ≤ _)⟩)
      dsimp only [Pt.U, Pt.locs, Pt.cells, Pt.slots] at X315 l315 y315 z315 st315 hQ315 Si315 Gr315 A315
      subst l315 y315 z315
      obtain ⟨r_315, rb_315, kb_315, zr_315, vsr_315, rfl, N315q, K315, f315_0, f315_1, f315_2, f315_3, f315_4, f315_5, r315_0, r315_1⟩ := hQ315
      have N315 := Fr.app N314 N315q
      obtain ⟨lc315, X315, N315⟩ := own_pack X315 N315
      replace X315 := own_reb X315
      have Sb315 := Sb314.called Si315 Gr315 A315
      have hZ315 := Sb315.hZ
      have hO315 := Sb315.hO
      refine Go.by' (fun t k => st315.trans k) ?_
      have Sf_r_315 : Safe Z consts_1 s.vm T314.heap r_315 := Safe.new f315_1
      have g_r_315 : n0 ≤ r_315 := Nat.le_trans (own_le O314) f315_1
      have sz_r_315 : h0.size ≤ r_315 := Nat.le_trans KC314.1 f315_1
      have Sf_rb_315 : Safe Z consts_1 s.vm T314.heap rb_315 := Safe.new f315_5
      have g_rb_315 : n0 ≤ rb_315 := Nat.le_trans (own_le O314) f315_5
      have sz_rb_315 : h0.size ≤ rb_315 := Nat.le_trans KC314.1 f315_5
      have O315 := O314.keep K315 all0
      have KC315 : Keep h0 T315.heap [] := KC314.trans K315 all0
      obtain rfl : zr_315 = (4 : Int32) := r315_0.trans (by decide)
      obtain rfl : vsr_315 = [(Value.int (q7.toInt8.toInt32)), (Value.int (q8.toInt8.toInt32)), (Value.int (46 : Int32)), (Value.int (q9.toInt8.toInt32))] := r315_1.trans rfl
      show Go p.tables e below Pf (T315.setTop (mkF m 88 #[vi il, vi ia, vi ib, vi ic, vi id, vi (2 : Int32), vi (1 : Int32), vi q7, vi q8, vi q9, vi q10, vr r_311, vr r_312, .unset, .unset] [(.ref r_315)]))
      refine Go.by' (fun t k => (XS.astore X315.here hx rfl (hb hby at_88) rfl rfl (l' := #[vi il, vi ia, vi ib, vi ic, vi id, vi (2 : Int32), vi (1 : Int32), vi q7, vi q8, vi q9, vi q10, vr r_311, vr r_312, vr r_315, .unset]) rfl (XS.iload X315.here hx rfl (hb hby at_90) rfl (XS.iconst X315.here hx rfl (hb hby at_92) (XS.iadd X315.here hx rfl (hb hby at_93) rfl k))))) ?_
      show Go p.tables e below Pf (T315.setTop (mkF m 94 #[vi il, vi ia, vi ib, vi ic, vi id, vi (2 : Int32), vi (1 : Int32), vi q7, vi q8, vi q9, vi q10, vr r_311, vr r_312, vr r_315, .unset] [(.int ((2 : Int32) + (1 : Int32)))]))
      refine Go.castF (a := ((2 : Int32) + (1 : Int32))) (b := (3 : Int32)) (fun z' : Int32 => mkF m 94 #[vi il, vi ia, vi ib, vi ic, vi id, vi (2 : Int32), vi (1 : Int32), vi q7, vi q8, vi q9, vi q10, vr r_311, vr r_312, vr r_315, .unset] [(.int z')]) (by decide) ?_
      show Go p.tables e below Pf (T315.setTop (mkF m 94 #[vi il, vi ia, vi ib, vi ic, vi id, vi (2 : Int32), vi (1 : Int32), vi q7, vi q8, vi q9, vi q10, vr r_311, vr r_312, vr r_315, .unset] [(.int (3 : Int32))]))
      refine Go.by' (fun t k => (XS.iload X315.here hx rfl (hb hby at_94) rfl (XS.iadd X315.here hx rfl (hb hby at_96) rfl k))) ?_
      show Go p.tables e below Pf (T315.setTop (mkF m 97 #[vi il, vi ia, vi ib, vi ic, vi id, vi (2 : Int32), vi (1 : Int32), vi q7, vi q8, vi q9, vi q10, vr r_311, vr r_312, vr r_315, .unset] [(.int ((3 : Int32) + (1 : Int32)))]))
      refine Go.castF (a := ((3 : Int32) + (1 : Int32))) (b := (4 : Int32)) (fun z' : Int32 => mkF m 97 #[vi il, vi ia, vi ib, vi ic, vi id, vi (2 : Int32), vi (1 : Int32), vi q7, vi q8, vi q9, vi q10, vr r_311, vr r_312, vr r_315, .unset] [(.int z')]) (by decide) ?_
      show Go p.tables e below Pf (T315.setTop (mkF m 97 #[vi il, vi ia, vi ib, vi ic, vi id, vi (2 : Int32), vi (1 : Int32), vi q7, vi q8, vi q9, vi q10, vr r_311, vr r_312, vr r_315, .unset] [(.int (4 : Int32))]))
      refine Go.by' (fun t k => (XS.istore X315.here hx rfl (hb hby at_97) rfl (l' := #[vi il, vi ia, vi ib, vi ic, vi id, vi (2 : Int32), vi (1 : Int32), vi q7, vi q8, vi q9, vi q10, vr r_311, vr r_312, vr r_315, vi (4 : Int32)]) rfl (XS.aload X315.here hx rfl (hb hby at_99) rfl rfl (XS.ifnullNo X315.here hx rfl (hb hby at_101) rfl (XS.aload X315.here hx rfl (hb hby at_104) rfl rfl k))))) ?_
      obtain ⟨cq324, kq324, q324a, q324b, q324c⟩ := isOf hZ315 rfl f315_0
      obtain ⟨_, _, ⟨T324, L324, k324, n324⟩, -, X324, ⟨Lc324, hQ324, l324, y324, z324⟩, st324⟩ := X315.virtualBack hx (y := (⟨"java/lang/String", "length", "()I"⟩ : MethodName)) (z := (⟨"java/lang/String", "length", "()I"⟩ : MethodName)) hO315 (mvT hZ315 hw160) (mvT hZ315 hw77) (notFace_of_selects (args := #[]) (mvT hZ315 hw79)) (mvT hZ315 hw79) (mvT hZ315 hw78) (by decide) (backOf (W := 0) (rmLn l Z a0 hw [] vcs vfm G r_315 rb_315 kb_315 ((4 : Int32)) ([(Value.int (q7.toInt8.toInt32)), (Value.int (q8.toInt8.toInt32)), (Value.int (46 : Int32)), (Value.int (q9.toInt8.toInt32))]) T315.heap n0 O315 f315_0 f315_2 f315_3 f315_4) hZ315 hw80 hw7 (by decide) (by decide)) q324a q324c (g := (mkF m 106 #[vi il, vi ia, vi ib, vi ic, vi id, vi (2 : Int32), vi (1 : Int32), vi q7, vi q8, vi q9, vi q10, vr r_311, vr r_312, vr r_315, vi (4 : Int32)] [(.ref r_315)])) rfl (by rw [hml]; rfl) (Steps.refl _) (argsL := []) (rest := []) (lenOf pd_8 rfl) rfl (by show 2 * 0 + _ ≤ _; exact Nat.le_of_eq rfl) (hb hby at_106) (fun _ _ => ⟨rfl, rfl, (by decide : 13 + 0 ≤ _), (by decide : 64 + 0 ≤ _)⟩)
      dsimp only [Pt.U, Pt.locs, Pt.cells, Pt.slots] at X324 l324 y324 z324 st324 hQ324
      subst l324 y324 z324
      obtain ⟨rfl, rfl, e324⟩ := hQ324
      try replace X324 := own_nil X324
      refine Go.by' (fun t k => st324.trans k) ?_
      show Go p.tables e below Pf (T324.setTop (mkF m 109 #[vi il, vi ia, vi ib, vi ic, vi id, vi (2 : Int32), vi (1 : Int32), vi q7, vi q8, vi q9, vi q10, vr r_311, vr r_312, vr r_315, vi (4 : Int32)] [(.int (4 : Int32))]))
      refine Go.by' (fun t k => (XS.iload X324.here hx rfl (hb hby at_109) rfl (XS.icmpYes X324.here hx rfl (pc0 := 111) (pc' := 116) rfl (hb hby at_111) rfl (teq (by decide)).1 (by decide) (by decide) (XS.aload X324.here hx rfl (hb hby at_116) rfl rfl (XS.iconst X324.here hx rfl (hb hby at_118) (XS.iload X324.here hx rfl (hb hby at_119) rfl (XS.iload X324.here hx rfl (hb hby at_121) rfl (XS.iload X324.here hx rfl (hb hby at_123) rfl (XS.iload X324.here hx rfl (hb hby at_125) rfl k))))))))) ?_
      show Go p.tables e below Pf (T324.setTop (mkF m 127 #[vi il, vi ia, vi ib, vi ic, vi id, vi (2 : Int32), vi (1 : Int32), vi q7, vi q8, vi q9, vi q10, vr r_311, vr r_312, vr r_315, vi (4 : Int32)] [(.int q8), (.int q7), (.int (2 : Int32)), (.int (4 : Int32)), (.int (0 : Int32)), (.ref r_315)]))
      refine Go.by' (fun t k => (XS.iload X324.here hx rfl (hb hby at_127) rfl (XS.iload X324.here hx rfl (hb hby at_129) rfl k))) ?_
      obtain ⟨_, _, ⟨T325, L325, k325, n325⟩, -, X325, ⟨Lc325, hQ325, l325, y325, z325⟩, st325⟩ := Jvm.LawKit.callS X324 hx (y := (⟨"com/example/slatewipe/slatewipe/TableQualifiedNamePinLaw", "at", "(Ljava/lang/String;IIICCCC)Z"⟩ : MethodName)) hO315 (mvT hZ315 hw161) (mvT hZ315 hw162) (mvT hZ315 hw3) (mvT hZ315 hw163) (by decide) (backOf (W := 0) (rmAt_20 l Z a0 hw [] vcs vfm G r_315 ((4 : Int32)) q7 q8 q9 q10 rb_315 kb_315 ([(Value.int (q7.toInt8.toInt32)), (Value.int (q8.toInt8.toInt32)), (Value.int (46 : Int32)), (Value.int (q9.toInt8.toInt32))]) ((q7.toInt8.toInt32)) T315.heap n0 O315 f315_0 f315_2 f315_3 f315_4 (by decide) rfl (own_u8 bd7)) hZ315 hw163 hw3 (by decide) (by decide)) (g := (mkF m 131 #[vi il, vi ia, vi ib, vi ic, vi id, vi (2 : Int32), vi (1 : Int32), vi q7, vi q8, vi q9, vi q10, vr r_311, vr r_312, vr r_315, vi (4 : Int32)] [(.int q10), (.int q9), (.int q8), (.int q7), (.int (2 : Int32)), (.int (4 : Int32)), (.int (0 : Int32)), (.ref r_315)])) rfl (by rw [hml]; rfl) (argsL := [(.ref r_315), (.int (0 : Int32)), (.int (4 : Int32)), (.int (2 : Int32)), (.int q7), (.int q8), (.int q9), (.int q10)]) (rest := []) (lenOf pd_27 rfl) rfl (by show 2 * 0 + _ ≤ _; exact Nat.le_of_eq rfl) (hb hby at_131) (fun _ _ => ⟨rfl, e324, (by decide : 13 + 0 ≤ _), (by decide : 64 + 0 ≤ _)⟩)
      dsimp only [Pt.U, Pt.locs, Pt.cells, Pt.slots] at X325 l325 y325 z325 st325 hQ325
      subst l325 y325 z325
      obtain ⟨rfl, rfl, e325⟩ := hQ325
      try replace X325 := own_nil X325
      refine Go.by' st325 ?_
      show Go p.tables e below Pf (T325.setTop (mkF m 134 #[vi il, vi ia, vi ib, vi ic, vi id, vi (2 : Int32), vi (1 : Int32), vi q7, vi q8, vi q9, vi q10, vr r_311, vr r_312, vr r_315, vi (4 : Int32)] [(.int (1 : Int32))]))
      refine Go.by' (fun t k => (XS.ifNo X325.here hx rfl (hb hby at_134) rfl ((if0 _ _).trans (feq (by decide)).1) (XS.aload X325.here hx rfl (hb hby at_137) rfl rfl (XS.iconst X325.here hx rfl (hb hby at_139) (XS.iload X325.here hx rfl (hb hby at_140) rfl (XS.iload X325.here hx rfl (hb hby at_142) rfl (XS.iload X325.here hx rfl (hb hby at_144) rfl (XS.iload X325.here hx rfl (hb hby at_146) rfl (XS.iload X325.here hx rfl (hb hby at_148) rfl k))))))))) ?_
      show Go p.tables e below Pf (T325.setTop (mkF m 150 #[vi il, vi ia, vi ib, vi ic, vi id, vi (2 : Int32), vi (1 : Int32), vi q7, vi q8, vi q9, vi q10, vr r_311, vr r_312, vr r_315, vi (4 : Int32)] [(.int q9), (.int q8), (.int q7), (.int (2 : Int32)), (.int (4 : Int32)), (.int (1 : Int32)), (.ref r_315)]))
      refine Go.by' (fun t k => (XS.iload X325.here hx rfl (hb hby at_150) rfl k)) ?_
      obtain ⟨_, _, ⟨T326, L326, k326, n326⟩, -, X326, ⟨Lc326, hQ326, l326, y326, z326⟩, st326⟩ := Jvm.LawKit.callS X325 hx (y := (⟨"com/example/slatewipe/slatewipe/TableQualifiedNamePinLaw", "at", "(Ljava/lang/String;IIICCCC)Z"⟩ : MethodName)) hO315 (mvT hZ315 hw161) (mvT hZ315 hw162) (mvT hZ315 hw3) (mvT hZ315 hw163) (by decide) (backOf (W := 0) (rmAt_21 l Z a0 hw [] vcs vfm G r_315 ((4 : Int32)) q7 q8 q9 q10 rb_315 kb_315 ([(Value.int (q7.toInt8.toInt32)), (Value.int (q8.toInt8.toInt32)), (Value.int (46 : Int32)), (Value.int (q9.toInt8.toInt32))]) ((q8.toInt8.toInt32)) T315.heap n0 O315 f315_0 f315_2 f315_3 f315_4 (by decide) rfl (own_u8 bd8)) hZ315 hw163 hw3 (by decide) (by decide)) (g := (mkF m 152 #[vi il, vi ia, vi ib, vi ic, vi id, vi (2 : Int32), vi (1 : Int32), vi q7, vi q8, vi q9, vi q10, vr r_311, vr r_312, vr r_315, vi (4 : Int32)] [(.int q10), (.int q9), (.int q8), (.int q7), (.int (2 : Int32)), (.int (4 : Int32)), (.int (1 : Int32)), (.ref r_315)])) rfl (by rw [hml]; rfl) (argsL := [(.ref r_315), (.int (1 : Int32)), (.int (4 : Int32)), (.int (2 : Int32)), (.int q7), (.int q8), (.int q9), (.int q10)]) (rest := []) (lenOf pd_27 rfl) rfl (by show 2 * 0 + _ ≤ _; exact Nat.le_of_eq rfl) (hb hby at_152) (fun _ _ => ⟨rfl, e325, (by decide : 13 + 0 ≤ _), (by decide : 64 + 0 ≤ _)⟩)
      dsimp only [Pt.U, Pt.locs, Pt.cells, Pt.slots] at X326 l326 y326 z326 st326 hQ326
      subst l326 y326 z326
      obtain ⟨rfl, rfl, e326⟩ := hQ326
      try replace X326 := own_nil X326
      refine Go.by' st326 ?_
      show Go p.tables e below Pf (T326.setTop (mkF m 155 #[vi il, vi ia, vi ib, vi ic, vi id, vi (2 : Int32), vi (1 : Int32), vi q7, vi q8, vi q9, vi q10, vr r_311, vr r_312, vr r_315, vi (4 : Int32)] [(.int (1 : Int32))]))
      refine Go.by' (fun t k => (XS.ifNo X326.here hx rfl (hb hby at_155) rfl ((if0 _ _).trans (feq (by decide)).1) (XS.aload X326.here hx rfl (hb hby at_158) rfl rfl (XS.iconst X326.here hx rfl (hb hby at_160) (XS.iload X326.here hx rfl (hb hby at_161) rfl (XS.iload X326.here hx rfl (hb hby at_163) rfl (XS.iload X326.here hx rfl (hb hby at_165) rfl (XS.iload X326.here hx rfl (hb hby at_167) rfl (XS.iload X326.here hx rfl (hb hby at_169) rfl k))))))))) ?_
      show Go p.tables e below Pf (T326.setTop (mkF m 171 #[vi il, vi ia, vi ib, vi ic, vi id, vi (2 : Int32), vi (1 : Int32), vi q7, vi q8, vi q9, vi q10, vr r_311, vr r_312, vr r_315, vi (4 : Int32)] [(.int q9), (.int q8), (.int q7), (.int (2 : Int32)), (.int (4 : Int32)), (.int (2 : Int32)), (.ref r_315)]))
      refine Go.by' (fun t k => (XS.iload X326.here hx rfl (hb hby at_171) rfl k)) ?_
      obtain ⟨_, _, ⟨T327, L327, k327, n327⟩, -, X327, ⟨Lc327, hQ327, l327, y327, z327⟩, st327⟩ := Jvm.LawKit.callS X326 hx (y := (⟨"com/example/slatewipe/slatewipe/TableQualifiedNamePinLaw", "at", "(Ljava/lang/String;IIICCCC)Z"⟩ : MethodName)) hO315 (mvT hZ315 hw161) (mvT hZ315 hw162) (mvT hZ315 hw3) (mvT hZ315 hw163) (by decide) (backOf (W := 0) (rmAt_22 l Z a0 hw [] vcs vfm G r_315 ((4 : Int32)) q7 q8 q9 q10 rb_315 kb_315 ([(Value.int (q7.toInt8.toInt32)), (Value.int (q8.toInt8.toInt32)), (Value.int (46 : Int32)), (Value.int (q9.toInt8.toInt32))]) ((46 : Int32)) T315.heap n0 O315 f315_0 f315_2 f315_3 f315_4 (by decide) rfl (by decide)) hZ315 hw163 hw3 (by decide) (by decide)) (g := (mkF m 173 #[vi il, vi ia, vi ib, vi ic, vi id, vi (2 : Int32), vi (1 : Int32), vi q7, vi q8, vi q9, vi q10, vr r_311, vr r_312, vr r_315, vi (4 : Int32)] [(.int q10), (.int q9), (.int q8), (.int q7), (.int (2 : Int32)), (.int (4 : Int32)), (.int (2 : Int32)), (.ref r_315)])) rfl (by rw [hml]; rfl) (argsL := [(.ref r_315), (.int (2 : Int32)), (.int (4 : Int32)), (.int (2 : Int32)), (.int q7), (.int q8), (.int q9), (.int q10)]) (rest := []) (lenOf pd_27 rfl) rfl (by show 2 * 0 + _ ≤ _; exact Nat.le_of_eq rfl) (hb hby at_173) (fun _ _ => ⟨rfl, e326, (by decide : 13 + 0 ≤ _), (by decide : 64 + 0 ≤ _)⟩)
      dsimp only [Pt.U, Pt.locs, Pt.cells, Pt.slots] at X327 l327 y327 z327 st327 hQ327
      subst l327 y327 z327
      obtain ⟨rfl, rfl, e327⟩ := hQ327
      try replace X327 := own_nil X327
      refine Go.by' st327 ?_
      show Go p.tables e below Pf (T327.setTop (mkF m 176 #[vi il, vi ia, vi ib, vi ic, vi id, vi (2 : Int32), vi (1 : Int32), vi q7, vi q8, vi q9, vi q10, vr r_311, vr r_312, vr r_315, vi (4 : Int32)] [(.int (1 : Int32))]))
      refine Go.by' (fun t k => (XS.ifNo X327.here hx rfl (hb hby at_176) rfl ((if0 _ _).trans (feq (by decide)).1) (XS.aload X327.here hx rfl (hb hby at_179) rfl rfl (XS.iconst X327.here hx rfl (hb hby at_181) (XS.iload X327.here hx rfl (hb hby at_182) rfl (XS.iload X327.here hx rfl (hb hby at_184) rfl (XS.iload X327.here hx rfl (hb hby at_186) rfl (XS.iload X327.here hx rfl (hb hby at_188) rfl (XS.iload X327.here hx rfl (hb hby at_190) rfl k))))))))) ?_
      show Go p.tables e below Pf (T327.setTop (mkF m 192 #[vi il, vi ia, vi ib, vi ic, vi id, vi (2 : Int32), vi (1 : Int32), vi q7, vi q8, vi q9, vi q10, vr r_311, vr r_312, vr r_315, vi (4 : Int32)] [(.int q9), (.int q8), (.int q7), (.int (2 : Int32)), (.int (4 : Int32)), (.int (3 : Int32)), (.ref r_315)]))
      refine Go.by' (fun t k => (XS.iload X327.here hx rfl (hb hby at_192) rfl k)) ?_
      obtain ⟨_, _, ⟨T328, L328, k328, n328⟩, -, X328, ⟨Lc328, hQ328, l328, y328, z328⟩, st328⟩ := Jvm.LawKit.callS X327 hx (y := (⟨"com/example/slatewipe/slatewipe/TableQualifiedNamePinLaw", "at", "(Ljava/lang/String;IIICCCC)Z"⟩ : MethodName)) hO315 (mvT hZ315 hw161) (mvT hZ315 hw162) (mvT hZ315 hw3) (mvT hZ315 hw163) (by decide) (backOf (W := 0) (rmAt_23 l Z a0 hw [] vcs vfm G r_315 ((4 : Int32)) q7 q8 q9 q10 rb_315 kb_315 ([(Value.int (q7.toInt8.toInt32)), (Value.int (q8.toInt8.toInt32)), (Value.int (46 : Int32)), (Value.int (q9.toInt8.toInt32))]) ((q9.toInt8.toInt32)) T315.heap n0 O315 f315_0 f315_2 f315_3 f315_4 (by decide) rfl (own_u8 bd9)) hZ315 hw163 hw3 (by decide) (by decide)) (g := (mkF m 194 #[vi il, vi ia, vi ib, vi ic, vi id, vi (2 : Int32), vi (1 : Int32), vi q7, vi q8, vi q9, vi q10, vr r_311, vr r_312, vr r_315, vi (4 : Int32)] [(.int q10), (.int q9), (.int q8), (.int q7), (.int (2 : Int32)), (.int (4 : Int32)), (.int (3 : Int32)), (.ref r_315)])) rfl (by rw [hml]; rfl) (argsL := [(.ref r_315), (.int (3 : Int32)), (.int (4 : Int32)), (.int (2 : Int32)), (.int q7), (.int q8), (.int q9), (.int q10)]) (rest := []) (lenOf pd_27 rfl) rfl (by show 2 * 0 + _ ≤ _; exact Nat.le_of_eq rfl) (hb hby at_194) (fun _ _ => ⟨rfl, e327, (by decide : 13 + 0 ≤ _), (by decide : 64 + 0 ≤ _)⟩)
      dsimp only [Pt.U, Pt.locs, Pt.cells, Pt.slots] at X328 l328 y328 z328 st328 hQ328
      subst l328 y328 z328
      obtain ⟨rfl, rfl, e328⟩ := hQ328
      try replace X328 := own_nil X328
      refine Go.by' st328 ?_
      show Go p.tables e below Pf (T328.setTop (mkF m 197 #[vi il, vi ia, vi ib, vi ic, vi id, vi (2 : Int32), vi (1 : Int32), vi q7, vi q8, vi q9, vi q10, vr r_311, vr r_312, vr r_315, vi (4 : Int32)] [(.int (1 : Int32))]))
      refine Go.by' (fun t k => (XS.ifNo X328.here hx rfl (hb hby at_197) rfl ((if0 _ _).trans (feq (by decide)).1) (XS.aload X328.here hx rfl (hb hby at_200) rfl rfl (XS.iconst X328.here hx rfl (hb hby at_202) (XS.iload X328.here hx rfl (hb hby at_203) rfl (XS.iload X328.here hx rfl (hb hby at_205) rfl (XS.iload X328.here hx rfl (hb hby at_207) rfl (XS.iload X328.here hx rfl (hb hby at_209) rfl (XS.iload X328.here hx rfl (hb hby at_211) rfl k))))))))) ?_
      show Go p.tables e below Pf (T328.setTop (mkF m 213 #[vi il, vi ia, vi ib, vi ic, vi id, vi (2 : Int32), vi (1 : Int32), vi q7, vi q8, vi q9, vi q10, vr r_311, vr r_312, vr r_315, vi (4 : Int32)] [(.int q9), (.int q8), (.int q7), (.int (2 : Int32)), (.int (4 : Int32)), (.int (4 : Int32)), (.ref r_315)]))
      refine Go.by' (fun t k => (XS.iload X328.here hx rfl (hb hby at_213) rfl k)) ?_
      obtain ⟨_, _, ⟨T329, L329, k329, n329⟩, -, X329, ⟨Lc329, hQ329, l329, y329, z329⟩, st329⟩ := Jvm.LawKit.callS X328 hx (y := (⟨"com/example/slatewipe/slatewipe/TableQualifiedNamePinLaw", "at", "(Ljava/lang/String;IIICCCC)Z"⟩ : MethodName)) hO315 (mvT hZ315 hw161) (mvT hZ315 hw162) (mvT hZ315 hw3) (mvT hZ315 hw163) (by decide) (backOf (W := 0) (rmAT_4 l Z a0 hw [] vcs vfm G r_315 ((4 : Int32)) ((2 : Int32)) q7 q8 q9 q10 T315.heap n0 O315 (by decide)) hZ315 hw163 hw3 (by decide) (by decide)) (g := (mkF m 215 #[vi il, vi ia, vi ib, vi ic, vi id, vi (2 : Int32), vi (1 : Int32), vi q7, vi q8, vi q9, vi q10, vr r_311, vr r_312, vr r_315, vi (4 : Int32)] [(.int q10), (.int q9), (.int q8), (.int q7), (.int (2 : Int32)), (.int (4 : Int32)), (.int (4 : Int32)), (.ref r_315)])) rfl (by rw [hml]; rfl) (argsL := [(.ref r_315), (.int (4 : Int32)), (.int (4 : Int32)), (.int (2 : Int32)), (.int q7), (.int q8), (.int q9), (.int q10)]) (rest := []) (lenOf pd_27 rfl) rfl (by show 2 * 0 + _ ≤ _; exact Nat.le_of_eq rfl) (hb hby at_215) (fun _ _ => ⟨rfl, e328, (by decide : 13 + 0 ≤ _), (by decide : 64 + 0 ≤ _)⟩)
      dsimp only [Pt.U, Pt.locs, Pt.cells, Pt.slots] at X329 l329 y329 z329 st329 hQ329
      subst l329 y329 z329
      obtain ⟨rfl, rfl, e329⟩ := hQ329
      try replace X329 := own_nil X329
      refine Go.by' st329 ?_
      show Go p.tables e below Pf (T329.setTop (mkF m 218 #[vi il, vi ia, vi ib, vi ic, vi id, vi (2 : Int32), vi (1 : Int32), vi q7, vi q8, vi q9, vi q10, vr r_311, vr r_312, vr r_315, vi (4 : Int32)] [(.int (1 : Int32))]))
      refine Go.by' (fun t k => (XS.ifNo X329.here hx rfl (hb hby at_218) rfl ((if0 _ _).trans (feq (by decide)).1) (XS.iconst X329.here hx rfl (hb hby at_221) (XS.goto X329.here hx rfl (pc0 := 222) (pc' := 226) rfl (hb hby at_222) (by decide) (by decide) k)))) ?_
      show Go p.tables e below Pf (T329.setTop (mkF m 226 #[vi il, vi ia, vi ib, vi ic, vi id, vi (2 : Int32), vi (1 : Int32), vi q7, vi q8, vi q9, vi q10, vr r_311, vr r_312, vr r_315, vi (4 : Int32)] [(.int (1 : Int32))]))
      rw [hPf]
      exact Go.retIS X329 hx hEL Sb315 e329 hh hret hlk (by simp) rfl (hb hby at_226) (by decide) (by decide) ⟨rfl, N315, (by rw [e329]; exact KC315)⟩
    · refine Go.castF (a := ((((il.toUInt32 >>> ((8 : Int32) &&& 31).toUInt32).toInt32) &&& (2147483647 : Int32)) % (3 : Int32))) (b := (2 : Int32)) (fun z' : Int32 => mkF m 52 #[vi il, vi ia, vi ib, vi ic, vi id, vi (2 : Int32), vi z', vi q7, vi q8, vi q9, vi q10, .unset, .unset, .unset, .unset] []) (hm) ?_
      show Go p.tables e below Pf (s₁.setTop (mkF m 52 #[vi il, vi ia, vi ib, vi ic, vi id, vi (2 : Int32), vi (2 : Int32), vi q7, vi q8, vi q9, vi q10, .unset, .unset, .unset, .unset] []))
      refine Go.by' (fun t k => (XS.iload X0.here hx rfl (hb hby at_52) rfl (XS.iload X0.here hx rfl (hb hby at_54) rfl (XS.iload X0.here hx rfl (hb hby at_56) rfl k)))) ?_
      obtain ⟨_, _, ⟨T330, L330, k330, n330⟩, -, X330, ⟨Lc330, hQ330, l330, y330, z330⟩, st330⟩ := Jvm.LawKit.callS X0 hx (y := (⟨"com/example/slatewipe/slatewipe/TableQualifiedNamePinLaw", "make", "(ICC)Ljava/lang/String;"⟩ : MethodName)) hown (mvT hZ hw1) (mvT hZ hw2) (mvT hZ hw3) (mvT hZ hw4) (by decide) (backOf (W := 0) (rmMk_2 l Z a0 hw [] vcs vfm G q7 q8 h0 n0 O0 bd7.1 bd7.2 bd8.1 bd8.2) hZ hw4 hw3 (by decide) (by decide)) (g := (mkF m 58 #[vi il, vi ia, vi ib, vi ic, vi id, vi (2 : Int32), vi (2 : Int32), vi q7, vi q8, vi q9, vi q10, .unset, .unset, .unset, .unset] [(.int q8), (.int q7), (.int (2 : Int32))])) rfl (by rw [hml]; rfl) (argsL := [(.int (2 : Int32)), (.int q7), (.int q8)]) (rest := []) (lenOf pd_25 rfl) rfl (by show 2 * 0 + _ ≤ _; exact Nat.le_of_eq rfl) (hb hby at_58) (fun _ _ => ⟨rfl, e0, (by decide : 0 + 3 ≤ _), (by decide : 0 + 8 ≤ _)⟩)
      dsimp only [Pt.U, Pt.locs, Pt.cells, Pt.slots] at X330 l330 y330 z330 st330 hQ330
      subst l330 y330 z330
      obtain ⟨r_330, rb_330, kb_330, rfl, N330q, K330, f330_0, f330_1, f330_2, f330_3, f330_4, f330_5⟩ := hQ330
      have N330 := Fr.app N0 N330q
      obtain ⟨lc330, X330, N330⟩ := own_pack X330 N330
      refine Go.by' st330 ?_
      have Sf_r_330 : Safe Z consts_1 s.vm h0 r_330 := Safe.new f330_1
      have g_r_330 : n0 ≤ r_330 := Nat.le_trans (own_le O0) f330_1
      have sz_r_330 : h0.size ≤ r_330 := Nat.le_trans KC0.1 f330_1
      have Sf_rb_330 : Safe Z consts_1 s.vm h0 rb_330 := Safe.new f330_5
      have g_rb_330 : n0 ≤ rb_330 := Nat.le_trans (own_le O0) f330_5
      have sz_rb_330 : h0.size ≤ rb_330 := Nat.le_trans KC0.1 f330_5
      have Sb330 := Sb0.keep K330 sf0
      have O330 := O0.keep K330 all0
      have KC330 : Keep h0 T330.heap [] := KC0.trans K330 all0
      show Go p.tables e below Pf (T330.setTop (mkF m 61 #[vi il, vi ia, vi ib, vi ic, vi id, vi (2 : Int32), vi (2 : Int32), vi q7, vi q8, vi q9, vi q10, .unset, .unset, .unset, .unset] [(.ref r_330)]))
      refine Go.by' (fun t k => (XS.astore X330.here hx rfl (hb hby at_61) rfl rfl (l' := #[vi il, vi ia, vi ib, vi ic, vi id, vi (2 : Int32), vi (2 : Int32), vi q7, vi q8, vi q9, vi q10, vr r_330, .unset, .unset, .unset]) rfl (XS.iload X330.here hx rfl (hb hby at_63) rfl (XS.iload X330.here hx rfl (hb hby at_65) rfl (XS.iload X330.here hx rfl (hb hby at_67) rfl k))))) ?_
      obtain ⟨_, _, ⟨T331, L331, k331, n331⟩, -, X331, ⟨Lc331, hQ331, l331, y331, z331⟩, st331⟩ := Jvm.LawKit.callS X330 hx (y := (⟨"com/example/slatewipe/slatewipe/TableQualifiedNamePinLaw", "make", "(ICC)Ljava/lang/String;"⟩ : MethodName)) hown (mvT hZ hw1) (mvT hZ hw2) (mvT hZ hw3) (mvT hZ hw4) (by decide) (backOf (W := 0) (rmMk_2 l Z a0 hw [] vcs vfm G q9 q10 T330.heap n0 O330 bd9.1 bd9.2 bd10.1 bd10.2) hZ hw4 hw3 (by decide) (by decide)) (g := (mkF m 69 #[vi il, vi ia, vi ib, vi ic, vi id, vi (2 : Int32), vi (2 : Int32), vi q7, vi q8, vi q9, vi q10, vr r_330, .unset, .unset, .unset] [(.int q10), (.int q9), (.int (2 : Int32))])) rfl (by rw [hml]; rfl) (argsL := [(.int (2 : Int32)), (.int q9), (.int q10)]) (rest := []) (lenOf pd_25 rfl) rfl (by show 2 * 0 + _ ≤ _; exact Nat.le_of_eq rfl) (hb hby at_69) (fun _ _ => ⟨rfl, rfl, (by decide : 3 + 3 ≤ _), (by decide : 8 + 8 ≤ _)⟩)
      dsimp only [Pt.U, Pt.locs, Pt.cells, Pt.slots] at X331 l331 y331 z331 st331 hQ331
      subst l331 y331 z331
      obtain ⟨r_331, rb_331, kb_331, rfl, N331q, K331, f331_0, f331_1, f331_2, f331_3, f331_4, f331_5⟩ := hQ331
      have N331 := Fr.app N330 N331q
      obtain ⟨lc331, X331, N331⟩ := own_pack X331 N331
      refine Go.by' st331 ?_
      have Sf_r_331 : Safe Z consts_1 s.vm T330.heap r_331 := Safe.new f331_1
      have g_r_331 : n0 ≤ r_331 := Nat.le_trans (own_le O330) f331_1
      have sz_r_331 : h0.size ≤ r_331 := Nat.le_trans KC330.1 f331_1
      have Sf_rb_331 : Safe Z consts_1 s.vm T330.heap rb_331 := Safe.new f331_5
      have g_rb_331 : n0 ≤ rb_331 := Nat.le_trans (own_le O330) f331_5
      have sz_rb_331 : h0.size ≤ rb_331 := Nat.le_trans KC330.1 f331_5
      have Sb331 := Sb330.keep K331 sf0
      have O331 := O330.keep K331 all0
      have KC331 : Keep h0 T331.heap [] := KC330.trans K331 all0
      show Go p.tables e below Pf (T331.setTop (mkF m 72 #[vi il, vi ia, vi ib, vi ic, vi id, vi (2 : Int32), vi (2 : Int32), vi q7, vi q8, vi q9, vi q10, vr r_330, .unset, .unset, .unset] [(.ref r_331)]))
      refine Go.by' (fun t k => (XS.astore X331.here hx rfl (hb hby at_72) rfl rfl (l' := #[vi il, vi ia, vi ib, vi ic, vi id, vi (2 : Int32), vi (2 : Int32), vi q7, vi q8, vi q9, vi q10, vr r_330, vr r_331, .unset, .unset]) rfl k)) ?_
      obtain ⟨T332, h332, X332, e332, E332, A332, D332, -, st332⟩ := newO X331 hx hZ hown hw27 hw28 hw29 rfl (g := (mkF m 74 #[vi il, vi ia, vi ib, vi ic, vi id, vi (2 : Int32), vi (2 : Int32), vi q7, vi q8, vi q9, vi q10, vr r_330, vr r_331, .unset, .unset] [])) rfl (hb hby at_74) (by decide) (by decide)
      obtain ⟨b332, g332⟩ : ∃ z, z = T331.heap.size := ⟨_, rfl⟩
      rw [← g332] at A332 D332 st332
      refine Go.by' st332 ?_
      have Sf_b332 : Safe Z consts_1 s.vm T331.heap b332 := Safe.new (Nat.le_of_eq g332.symm)
      have g_b332 : n0 ≤ b332 := Nat.le_trans (own_le O331) (Nat.le_of_eq g332.symm)
      have sz_b332 : h0.size ≤ b332 := Nat.le_trans KC331.1 (Nat.le_of_eq g332.symm)
      have Sb332 := Sb331.ext E332
      have O332 := O331.ext E332
      have KC332 : Keep h0 h332 [] := KC331.ext E332
      have Fn332_40 : Fld Z h332 b332 "com/example/slatewipe/slatewipe/Table" "schema" "Ljava/lang/String;" Value.null := D332 (Or.inr hw40) (ty := (.object "java/lang/String")) (by decide)
      have Fn332_42 : Fld Z h332 b332 "com/example/slatewipe/slatewipe/Table" "name" "Ljava/lang/String;" Value.null := D332 (Or.inr hw42) (ty := (.object "java/lang/String")) (by decide)
      show Go p.tables e below Pf (T332.setTop (mkF m 77 #[vi il, vi ia, vi ib, vi ic, vi id, vi (2 : Int32), vi (2 : Int32), vi q7, vi q8, vi q9, vi q10, vr r_330, vr r_331, .unset, .unset] [(.ref b332)]))
      refine Go.by' (fun t k => (XS.dup X332.here hx rfl (hb hby at_77) rfl rfl (XS.aload X332.here hx rfl (hb hby at_78) rfl rfl (XS.aload X332.here hx rfl (hb hby at_80) rfl rfl k)))) ?_
      obtain ⟨_, _, ⟨T333, L333, k333, n333⟩, -, X333, ⟨Lc333, hQ333, l333, y333, z333⟩, st333⟩ := X332.specialBack hx (y := (⟨"com/example/slatewipe/slatewipe/Table", "<init>", "(Ljava/lang/String;Ljava/lang/String;)V"⟩ : MethodName)) rfl hown (mvT hZ hw30) (mvT hZ hw31) (mvT hZ hw32) (by decide) (backOf (W := 1) (rmTab l Z a0 hw [] vcs vfm G b332 r_330 r_331 h332 n0 O332 A332 Fn332_40 Fn332_42 g_b332) hZ hw32 hw29 (by decide) (by decide)) (g := (mkF m 82 #[vi il, vi ia, vi ib, vi ic, vi id, vi (2 : Int32), vi (2 : Int32), vi q7, vi q8, vi q9, vi q10, vr r_330, vr r_331, .unset, .unset] [(.ref r_331), (.ref r_330), (.ref b332), (.ref b332)])) rfl (by rw [hml]; rfl) (Steps.refl _) (a := b332) (argsL := [(.ref r_330), (.ref r_331)]) (rest := [(.ref b332)]) (lenOf pd_26 rfl) rfl (by show 2 * 0 + _ ≤ _; exact Nat.le_of_eq rfl) (hb hby at_82) (fun _ _ => ⟨rfl, e332, (by decide : 7 + 0 ≤ _), (by decide : 18 + 0 ≤ _)⟩)
      dsimp only [Pt.U, Pt.locs, Pt.cells, Pt.slots] at X333 l333 y333 z333 st333 hQ333
      subst l333 y333 z333
      obtain ⟨rfl, N333q, K333, f333_0, f333_1, f333_2⟩ := hQ333
      have N333 := Fr.app N331 N333q
      obtain ⟨lc333, X333, N333⟩ := own_pack X333 N333
      refine Go.by' (fun t k => st333.trans k) ?_
      have Sb333 := Sb332.keep K333 (sfS (Safe.ext E332 Sb331.ch Sf_b332) sf0)
      have O333 := O332.keep K333 (allS g_b332 all0)
      have KC333 : Keep h0 T333.heap [] := KC332.trans K333 (allS (Or.inr sz_b332) all0)
      have c335 := (((f330_4.keep K331 nin0).ext E332).keep K333 (ninS (Nat.ne_of_lt (Nat.lt_of_lt_of_le (Nat.lt_of_lt_of_le f330_4.lt K331.1) (Nat.le_of_eq g332.symm))) nin0))
      have c336 := ((f331_4.ext E332).keep K333 (ninS (Nat.ne_of_lt (Nat.lt_of_lt_of_le f331_4.lt (Nat.le_of_eq g332.symm))) nin0))
      have c337 := (((f330_0.keep K331).ext E332).keep K333)
      have c338 := (((f330_2.keep K331 nin0).ext E332).keep K333 (ninS (Nat.ne_of_lt (Nat.lt_of_lt_of_le (Nat.lt_of_lt_of_le f330_0.lt K331.1) (Nat.le_of_eq g332.symm))) nin0))
      have c339 := (((f330_3.keep K331 nin0).ext E332).keep K333 (ninS (Nat.ne_of_lt (Nat.lt_of_lt_of_le (Nat.lt_of_lt_of_le f330_0.lt K331.1) (Nat.le_of_eq g332.symm))) nin0))
      have c340 := ((f331_0.ext E332).keep K333)
      have c341 := ((f331_2.ext E332).keep K333 (ninS (Nat.ne_of_lt (Nat.lt_of_lt_of_le f331_0.lt (Nat.le_of_eq g332.symm))) nin0))
      have c342 := ((f331_3.ext E332).keep K333 (ninS (Nat.ne_of_lt (Nat.lt_of_lt_of_le f331_0.lt (Nat.le_of_eq g332.symm))) nin0))
      obtain ⟨cq334, kq334, q334a, q334b, q334c⟩ := isOf hZ rfl f333_0
      obtain ⟨_, _, ⟨T334, L334, k334, n334⟩, -, X334, Si334, Gr334, ⟨Lc334, hQ334, l334, y334, z334, A334⟩, st334⟩ := X333.virtualBackS hx (y := (⟨"com/example/slatewipe/slatewipe/Table", "qualifiedName", "()Ljava/lang/String;"⟩ : MethodName)) (z := (⟨"com/example/slatewipe/slatewipe/Table", "qualifiedName", "()Ljava/lang/String;"⟩ : MethodName)) hown (mvT hZ hw43) (mvT hZ hw44) (notFace_of_selects (args := #[]) (mvT hZ hw46)) (mvT hZ hw46) (mvT hZ hw45) (by decide) (own_backS (W := 0) (rmQN l Z a0 hw [] vcs vfm G b332 r_330 rb_330 kb_330 ((2 : Int32)) ([(Value.int (q7.toInt8.toInt32)), (Value.int (q8.toInt8.toInt32))]) r_331 rb_331 kb_331 ((2 : Int32)) ([(Value.int (q9.toInt8.toInt32)), (Value.int (q10.toInt8.toInt32))]) T333.heap n0 O333 f333_0 f333_1 f333_2 c337 c338 c339 c335 (Or.inr (Or.inr rfl)) c340 c341 c342 c336 (Or.inr (Or.inr rfl))) Sb333 hw47 hw29 (by decide) (by decide) hEL all0) q334a q334c (g := (mkF m 85 #[vi il, vi ia, vi ib, vi ic, vi id, vi (2 : Int32), vi (2 : Int32), vi q7, vi q8, vi q9, vi q10, vr r_330, vr r_331, .unset, .unset] [(.ref b332)])) rfl (by rw [hml]; rfl) (Steps.refl _) (argsL := []) (rest := []) (lenOf pd_21 rfl) rfl (by show 2 * 0 + _ ≤ _; exact Nat.le_of_eq rfl) (hb hby at_85) (fun _ _ => ⟨rfl, rfl, (by decide : 7 + 6 ≤ _), (by decide : 18 + 48 ≤ _)⟩)
      dsimp only [Pt.U, Pt.locs, Pt.cells, Pt.slots] at X334 l334 y334 z334 st334 hQ334 Si334 Gr334 A334
      subst l334 y334 z334
      obtain ⟨r_334, rb_334, kb_334, zr_334, vsr_334, rfl, N334q, K334, f334_0, f334_1, f334_2, f334_3, f334_4, f334_5, r334_0, r334_1⟩ := hQ334
      have N334 := Fr.app N333 N334q
      obtain ⟨lc334, X334, N334⟩ := own_pack X334 N334
      replace X334 := own_reb X334
      have Sb334 := Sb333.called Si334 Gr334 A334
      have hZ334 := Sb334.hZ
      have hO334 := Sb334.hO
      refine Go.by' (fun t k => st334.trans k) ?_
      have Sf_r_334 : Safe Z consts_1 s.vm T333.heap r_334 := Safe.new f334_1
      have g_r_334 : n0 ≤ r_334 := Nat.le_trans (own_le O333) f334_1
      have sz_r_334 : h0.size ≤ r_334 := Nat.le_trans KC333.1 f334_1
      have Sf_rb_334 : Safe Z consts_1 s.vm T333.heap rb_334 := Safe.new f334_5
      have g_rb_334 : n0 ≤ rb_334 := Nat.le_trans (own_le O333) f334_5
      have sz_rb_334 : h0.size ≤ rb_334 := Nat.le_trans KC333.1 f334_5
      have O334 := O333.keep K334 all0
      have KC334 : Keep h0 T334.heap [] := KC333.trans K334 all0
      obtain rfl : zr_334 = (5 : Int32) := r334_0.trans (by decide)
      obtain rfl : vsr_334 = [(Value.int (q7.toInt8.toInt32)), (Value.int (q8.toInt8.toInt32)), (Value.int (46 : Int32)), (Value.int (q9.toInt8.toInt32)), (Value.int (q10.toInt8.toInt32))] := r334_1.trans rfl
      show Go p.tables e below Pf (T334.setTop (mkF m 88 #[vi il, vi ia, vi ib, vi ic, vi id, vi (2 : Int32), vi (2 : Int32), vi q7, vi q8, vi q9, vi q10, vr r_330, vr r_331, .unset, .unset] [(.ref r_334)]))
      refine Go.by' (fun t k => (XS.astore X334.here hx rfl (hb hby at_88) rfl rfl (l' := #[vi il, vi ia, vi ib, vi ic, vi id, vi (2 : Int32), vi (2 : Int32), vi q7, vi q8, vi q9, vi q10, vr r_330, vr r_331, vr r_334, .unset]) rfl (XS.iload X334.here hx rfl (hb hby at_90) rfl (XS.iconst X334.here hx rfl (hb hby at_92) (XS.iadd X334.here hx rfl (hb hby at_93) rfl k))))) ?_
      show Go p.tables e below Pf (T334.setTop (mkF m 94 #[vi il, vi ia, vi ib, vi ic, vi id, vi (2 : Int32), vi (2 : Int32), vi q7, vi q8, vi q9, vi q10, vr r_330, vr r_331, vr r_334, .unset] [(.int ((2 : Int32) + (1 : Int32)))]))
      refine Go.castF (a := ((2 : Int32) + (1 : Int32))) (b := (3 : Int32)) (fun z' : Int32 => mkF m 94 #[vi il, vi ia, vi ib, vi ic, vi id, vi (2 : Int32), vi (2 : Int32), vi q7, vi q8, vi q9, vi q10, vr r_330, vr r_331, vr r_334, .unset] [(.int z')]) (by decide) ?_
      show Go p.tables e below Pf (T334.setTop (mkF m 94 #[vi il, vi ia, vi ib, vi ic, vi id, vi (2 : Int32), vi (2 : Int32), vi q7, vi q8, vi q9, vi q10, vr r_330, vr r_331, vr r_334, .unset] [(.int (3 : Int32))]))
      refine Go.by' (fun t k => (XS.iload X334.here hx rfl (hb hby at_94) rfl (XS.iadd X334.here hx rfl (hb hby at_96) rfl k))) ?_
      show Go p.tables e below Pf (T334.setTop (mkF m 97 #[vi il, vi ia, vi ib, vi ic, vi id, vi (2 : Int32), vi (2 : Int32), vi q7, vi q8, vi q9, vi q10, vr r_330, vr r_331, vr r_334, .unset] [(.int ((3 : Int32) + (2 : Int32)))]))
      refine Go.castF (a := ((3 : Int32) + (2 : Int32))) (b := (5 : Int32)) (fun z' : Int32 => mkF m 97 #[vi il, vi ia, vi ib, vi ic, vi id, vi (2 : Int32), vi (2 : Int32), vi q7, vi q8, vi q9, vi q10, vr r_330, vr r_331, vr r_334, .unset] [(.int z')]) (by decide) ?_
      show Go p.tables e below Pf (T334.setTop (mkF m 97 #[vi il, vi ia, vi ib, vi ic, vi id, vi (2 : Int32), vi (2 : Int32), vi q7, vi q8, vi q9, vi q10, vr r_330, vr r_331, vr r_334, .unset] [(.int (5 : Int32))]))
      refine Go.by' (fun t k => (XS.istore X334.here hx rfl (hb hby at_97) rfl (l' := #[vi il, vi ia, vi ib, vi ic, vi id, vi (2 : Int32), vi (2 : Int32), vi q7, vi q8, vi q9, vi q10, vr r_330, vr r_331, vr r_334, vi (5 : Int32)]) rfl (XS.aload X334.here hx rfl (hb hby at_99) rfl rfl (XS.ifnullNo X334.here hx rfl (hb hby at_101) rfl (XS.aload X334.here hx rfl (hb hby at_104) rfl rfl k))))) ?_
      obtain ⟨cq343, kq343, q343a, q343b, q343c⟩ := isOf hZ334 rfl f334_0
      obtain ⟨_, _, ⟨T343, L343, k343, n343⟩, -, X343, ⟨Lc343, hQ343, l343, y343, z343⟩, st343⟩ := X334.virtualBack hx (y := (⟨"java/lang/String", "length", "()I"⟩ : MethodName)) (z := (⟨"java/lang/String", "length", "()I"⟩ : MethodName)) hO334 (mvT hZ334 hw160) (mvT hZ334 hw77) (notFace_of_selects (args := #[]) (mvT hZ334 hw79)) (mvT hZ334 hw79) (mvT hZ334 hw78) (by decide) (backOf (W := 0) (rmLn l Z a0 hw [] vcs vfm G r_334 rb_334 kb_334 ((5 : Int32)) ([(Value.int (q7.toInt8.toInt32)), (Value.int (q8.toInt8.toInt32)), (Value.int (46 : Int32)), (Value.int (q9.toInt8.toInt32)), (Value.int (q10.toInt8.toInt32))]) T334.heap n0 O334 f334_0 f334_2 f334_3 f334_4) hZ334 hw80 hw7 (by decide) (by decide)) q343a q343c (g := (mkF m 106 #[vi il, vi ia, vi ib, vi ic, vi id, vi (2 : Int32), vi (2 : Int32), vi q7, vi q8, vi q9, vi q10, vr r_330, vr r_331, vr r_334, vi (5 : Int32)] [(.ref r_334)])) rfl (by rw [hml]; rfl) (Steps.refl _) (argsL := []) (rest := []) (lenOf pd_8 rfl) rfl (by show 2 * 0 + _ ≤ _; exact Nat.le_of_eq rfl) (hb hby at_106) (fun _ _ => ⟨rfl, rfl, (by decide : 13 + 0 ≤ _), (by decide : 66 + 0 ≤ _)⟩)
      dsimp only [Pt.U, Pt.locs, Pt.cells, Pt.slots] at X343 l343 y343 z343 st343 hQ343
      subst l343 y343 z343
      obtain ⟨rfl, rfl, e343⟩ := hQ343
      try replace X343 := own_nil X343
      refine Go.by' (fun t k => st343.trans k) ?_
      show Go p.tables e below Pf (T343.setTop (mkF m 109 #[vi il, vi ia, vi ib, vi ic, vi id, vi (2 : Int32), vi (2 : Int32), vi q7, vi q8, vi q9, vi q10, vr r_330, vr r_331, vr r_334, vi (5 : Int32)] [(.int (5 : Int32))]))
      refine Go.by' (fun t k => (XS.iload X343.here hx rfl (hb hby at_109) rfl (XS.icmpYes X343.here hx rfl (pc0 := 111) (pc' := 116) rfl (hb hby at_111) rfl (teq (by decide)).1 (by decide) (by decide) (XS.aload X343.here hx rfl (hb hby at_116) rfl rfl (XS.iconst X343.here hx rfl (hb hby at_118) (XS.iload X343.here hx rfl (hb hby at_119) rfl (XS.iload X343.here hx rfl (hb hby at_121) rfl (XS.iload X343.here hx rfl (hb hby at_123) rfl (XS.iload X343.here hx rfl (hb hby at_125) rfl k))))))))) ?_
      show Go p.tables e below Pf (T343.setTop (mkF m 127 #[vi il, vi ia, vi ib, vi ic, vi id, vi (2 : Int32), vi (2 : Int32), vi q7, vi q8, vi q9, vi q10, vr r_330, vr r_331, vr r_334, vi (5 : Int32)] [(.int q8), (.int q7), (.int (2 : Int32)), (.int (5 : Int32)), (.int (0 : Int32)), (.ref r_334)]))
      refine Go.by' (fun t k => (XS.iload X343.here hx rfl (hb hby at_127) rfl (XS.iload X343.here hx rfl (hb hby at_129) rfl k))) ?_
      obtain ⟨_, _, ⟨T344, L344, k344, n344⟩, -, X344, ⟨Lc344, hQ344, l344, y344, z344⟩, st344⟩ := Jvm.LawKit.callS X343 hx (y := (⟨"com/example/slatewipe/slatewipe/TableQualifiedNamePinLaw", "at", "(Ljava/lang/String;IIICCCC)Z"⟩ : MethodName)) hO334 (mvT hZ334 hw161) (mvT hZ334 hw162) (mvT hZ334 hw3) (mvT hZ334 hw163) (by decide) (backOf (W := 0) (rmAt_20 l Z a0 hw [] vcs vfm G r_334 ((5 : Int32)) q7 q8 q9 q10 rb_334 kb_334 ([(Value.int (q7.toInt8.toInt32)), (Value.int (q8.toInt8.toInt32)), (Value.int (46 : Int32)), (Value.int (q9.toInt8.toInt32)), (Value.int (q10.toInt8.toInt32))]) ((q7.toInt8.toInt32)) T334.heap n0 O334 f334_0 f334_2 f334_3 f334_4 (by decide) rfl (own_u8 bd7)) hZ334 hw163 hw3 (by decide) (by decide)) (g := (mkF m 131 #[vi il, vi ia, vi ib, vi ic, vi id, vi (2 : Int32), vi (2 : Int32), vi q7, vi q8, vi q9, vi q10, vr r_330, vr r_331, vr r_334, vi (5 : Int32)] [(.int q10), (.int q9), (.int q8), (.int q7), (.int (2 : Int32)), (.int (5 : Int32)), (.int (0 : Int32)), (.ref r_334)])) rfl (by rw [hml]; rfl) (argsL := [(.ref r_334), (.int (0 : Int32)), (.int (5 : Int32)), (.int (2 : Int32)), (.int q7), (.int q8), (.int q9), (.int q10)]) (rest := []) (lenOf pd_27 rfl) rfl (by show 2 * 0 + _ ≤ _; exact Nat.le_of_eq rfl) (hb hby at_131) (fun _ _ => ⟨rfl, e343, (by decide : 13 + 0 ≤ _), (by decide : 66 + 0 ≤ _)⟩)
      dsimp only [Pt.U, Pt.locs, Pt.cells, Pt.slots] at X344 l344 y344 z344 st344 hQ344
      subst l344 y344 z344
      obtain ⟨rfl, rfl, e344⟩ := hQ344
      try replace X344 := own_nil X344
      refine Go.by' st344 ?_
      show Go p.tables e below Pf (T344.setTop (mkF m 134 #[vi il, vi ia, vi ib, vi ic, vi id, vi (2 : Int32), vi (2 : Int32), vi q7, vi q8, vi q9, vi q10, vr r_330, vr r_331, vr r_334, vi (5 : Int32)] [(.int (1 : Int32))]))
      refine Go.by' (fun t k => (XS.ifNo X344.here hx rfl (hb hby at_134) rfl ((if0 _ _).trans (feq (by decide)).1) (XS.aload X344.here hx rfl (hb hby at_137) rfl rfl (XS.iconst X344.here hx rfl (hb hby at_139) (XS.iload X344.here hx rfl (hb hby at_140) rfl (XS.iload X344.here hx rfl (hb hby at_142) rfl (XS.iload X344.here hx rfl (hb hby at_144) rfl (XS.iload X344.here hx rfl (hb hby at_146) rfl (XS.iload X344.here hx rfl (hb hby at_148) rfl k))))))))) ?_
      show Go p.tables e below Pf (T344.setTop (mkF m 150 #[vi il, vi ia, vi ib, vi ic, vi id, vi (2 : Int32), vi (2 : Int32), vi q7, vi q8, vi q9, vi q10, vr r_330, vr r_331, vr r_334, vi (5 : Int32)] [(.int q9), (.int q8), (.int q7), (.int (2 : Int32)), (.int (5 : Int32)), (.int (1 : Int32)), (.ref r_334)]))
      refine Go.by' (fun t k => (XS.iload X344.here hx rfl (hb hby at_150) rfl k)) ?_
      obtain ⟨_, _, ⟨T345, L345, k345, n345⟩, -, X345, ⟨Lc345, hQ345, l345, y345, z345⟩, st345⟩ := Jvm.LawKit.callS X344 hx (y := (⟨"com/example/slatewipe/slatewipe/TableQualifiedNamePinLaw", "at", "(Ljava/lang/String;IIICCCC)Z"⟩ : MethodName)) hO334 (mvT hZ334 hw161) (mvT hZ334 hw162) (mvT hZ334 hw3) (mvT hZ334 hw163) (by decide) (backOf (W := 0) (rmAt_21 l Z a0 hw [] vcs vfm G r_334 ((5 : Int32)) q7 q8 q9 q10 rb_334 kb_334 ([(Value.int (q7.toInt8.toInt32)), (Value.int (q8.toInt8.toInt32)), (Value.int (46 : Int32)), (Value.int (q9.toInt8.toInt32)), (Value.int (q10.toInt8.toInt32))]) ((q8.toInt8.toInt32)) T334.heap n0 O334 f334_0 f334_2 f334_3 f334_4 (by decide) rfl (own_u8 bd8)) hZ334 hw163 hw3 (by decide) (by decide)) (g := (mkF m 152 #[vi il, vi ia, vi ib, vi ic, vi id, vi (2 : Int32), vi (2 : Int32), vi q7, vi q8, vi q9, vi q10, vr r_330, vr r_331, vr r_334, vi (5 : Int32)] [(.int q10), (.int q9), (.int q8), (.int q7), (.int (2 : Int32)), (.int (5 : Int32)), (.int (1 : Int32)), (.ref r_334)])) rfl (by rw [hml]; rfl) (argsL := [(.ref r_334), (.int (1 : Int32)), (.int (5 : Int32)), (.int (2 : Int32)), (.int q7), (.int q8), (.int q9), (.int q10)]) (rest := []) (lenOf pd_27 rfl) rfl (by show 2 * 0 + _ ≤ _; exact Nat.le_of_eq rfl) (hb hby at_152) (fun _ _ => ⟨rfl, e344, (by decide : 13 + 0 ≤ _), (by decide : 66 + 0 ≤ _)⟩)
      dsimp only [Pt.U, Pt.locs, Pt.cells, Pt.slots] at X345 l345 y345 z345 st345 hQ345
      subst l345 y345 z345
      obtain ⟨rfl, rfl, e345⟩ := hQ345
      try replace X345 := own_nil X345
      refine Go.by' st345 ?_
      show Go p.tables e below Pf (T345.setTop (mkF m 155 #[vi il, vi ia, vi ib, vi ic, vi id, vi (2 : Int32), vi (2 : Int32), vi q7, vi q8, vi q9, vi q10, vr r_330, vr r_331, vr r_334, vi (5 : Int32)] [(.int (1 : Int32))]))
      refine Go.by' (fun t k => (XS.ifNo X345.here hx rfl (hb hby at_155) rfl ((if0 _ _).trans (feq (by decide)).1) (XS.aload X345.here hx rfl (hb hby at_158) rfl rfl (XS.iconst X345.here hx rfl (hb hby at_160) (XS.iload X345.here hx rfl (hb hby at_161) rfl (XS.iload X345.here hx rfl (hb hby at_163) rfl (XS.iload X345.here hx rfl (hb hby at_165) rfl (XS.iload X345.here hx rfl (hb hby at_167) rfl (XS.iload X345.here hx rfl (hb hby at_169) rfl k))))))))) ?_
      show Go p.tables e below Pf (T345.setTop (mkF m 171 #[vi il, vi ia, vi ib, vi ic, vi id, vi (2 : Int32), vi (2 : Int32), vi q7, vi q8, vi q9, vi q10, vr r_330, vr r_331, vr r_334, vi (5 : Int32)] [(.int q9), (.int q8), (.int q7), (.int (2 : Int32)), (.int (5 : Int32)), (.int (2 : Int32)), (.ref r_334)]))
      refine Go.by' (fun t k => (XS.iload X345.here hx rfl (hb hby at_171) rfl k)) ?_
      obtain ⟨_, _, ⟨T346, L346, k346, n346⟩, -, X346, ⟨Lc346, hQ346, l346, y346, z346⟩, st346⟩ := Jvm.LawKit.callS X345 hx (y := (⟨"com/example/slatewipe/slatewipe/TableQualifiedNamePinLaw", "at", "(Ljava/lang/String;IIICCCC)Z"⟩ : MethodName)) hO334 (mvT hZ334 hw161) (mvT hZ334 hw162) (mvT hZ334 hw3) (mvT hZ334 hw163) (by decide) (backOf (W := 0) (rmAt_22 l Z a0 hw [] vcs vfm G r_334 ((5 : Int32)) q7 q8 q9 q10 rb_334 kb_334 ([(Value.int (q7.toInt8.toInt32)), (Value.int (q8.toInt8.toInt32)), (Value.int (46 : Int32)), (Value.int (q9.toInt8.toInt32)), (Value.int (q10.toInt8.toInt32))]) ((46 : Int32)) T334.heap n0 O334 f334_0 f334_2 f334_3 f334_4 (by decide) rfl (by decide)) hZ334 hw163 hw3 (by decide) (by decide)) (g := (mkF m 173 #[vi il, vi ia, vi ib, vi ic, vi id, vi (2 : Int32), vi (2 : Int32), vi q7, vi q8, vi q9, vi q10, vr r_330, vr r_331, vr r_334, vi (5 : Int32)] [(.int q10), (.int q9), (.int q8), (.int q7), (.int (2 : Int32)), (.int (5 : Int32)), (.int (2 : Int32)), (.ref r_334)])) rfl (by rw [hml]; rfl) (argsL := [(.ref r_334), (.int (2 : Int32)), (.int (5 : Int32)), (.int (2 : Int32)), (.int q7), (.int q8), (.int q9), (.int q10)]) (rest := []) (lenOf pd_27 rfl) rfl (by show 2 * 0 + _ ≤ _; exact Nat.le_of_eq rfl) (hb hby at_173) (fun _ _ => ⟨rfl, e345, (by decide : 13 + 0 ≤ _), (by decide : 66 + 0 ≤ _)⟩)
      dsimp only [Pt.U, Pt.locs, Pt.cells, Pt.slots] at X346 l346 y346 z346 st346 hQ346
      subst l346 y346 z346
      obtain ⟨rfl, rfl, e346⟩ := hQ346
      try replace X346 := own_nil X346
      refine Go.by' st346 ?_
      show Go p.tables e below Pf (T346.setTop (mkF m 176 #[vi il, vi ia, vi ib, vi ic, vi id, vi (2 : Int32), vi (2 : Int32), vi q7, vi q8, vi q9, vi q10, vr r_330, vr r_331, vr r_334, vi (5 : Int32)] [(.int (1 : Int32))]))
      refine Go.by' (fun t k => (XS.ifNo X346.here hx rfl (hb hby at_176) rfl ((if0 _ _).trans (feq (by decide)).1) (XS.aload X346.here hx rfl (hb hby at_179) rfl rfl (XS.iconst X346.here hx rfl (hb hby at_181) (XS.iload X346.here hx rfl (hb hby at_182) rfl (XS.iload X346.here hx rfl (hb hby at_184) rfl (XS.iload X346.here hx rfl (hb hby at_186) rfl (XS.iload X346.here hx rfl (hb hby at_188) rfl (XS.iload X346.here hx rfl (hb hby at_190) rfl k))))))))) ?_
      show Go p.tables e below Pf (T346.setTop (mkF m 192 #[vi il, vi ia, vi ib, vi ic, vi id, vi (2 : Int32), vi (2 : Int32), vi q7, vi q8, vi q9, vi q10, vr r_330, vr r_331, vr r_334, vi (5 : Int32)] [(.int q9), (.int q8), (.int q7), (.int (2 : Int32)), (.int (5 : Int32)), (.int (3 : Int32)), (.ref r_334)]))
      refine Go.by' (fun t k => (XS.iload X346.here hx rfl (hb hby at_192) rfl k)) ?_
      obtain ⟨_, _, ⟨T347, L347, k347, n347⟩, -, X347, ⟨Lc347, hQ347, l347, y347, z347⟩, st347⟩ := Jvm.LawKit.callS X346 hx (y := (⟨"com/example/slatewipe/slatewipe/TableQualifiedNamePinLaw", "at", "(Ljava/lang/String;IIICCCC)Z"⟩ : MethodName)) hO334 (mvT hZ334 hw161) (mvT hZ334 hw162) (mvT hZ334 hw3) (mvT hZ334 hw163) (by decide) (backOf (W := 0) (rmAt_23 l Z a0 hw [] vcs vfm G r_334 ((5 : Int32)) q7 q8 q9 q10 rb_334 kb_334 ([(Value.int (q7.toInt8.toInt32)), (Value.int (q8.toInt8.toInt32)), (Value.int (46 : Int32)), (Value.int (q9.toInt8.toInt32)), (Value.int (q10.toInt8.toInt32))]) ((q9.toInt8.toInt32)) T334.heap n0 O334 f334_0 f334_2 f334_3 f334_4 (by decide) rfl (own_u8 bd9)) hZ334 hw163 hw3 (by decide) (by decide)) (g := (mkF m 194 #[vi il, vi ia, vi ib, vi ic, vi id, vi (2 : Int32), vi (2 : Int32), vi q7, vi q8, vi q9, vi q10, vr r_330, vr r_331, vr r_334, vi (5 : Int32)] [(.int q10), (.int q9), (.int q8), (.int q7), (.int (2 : Int32)), (.int (5 : Int32)), (.int (3 : Int32)), (.ref r_334)])) rfl (by rw [hml]; rfl) (argsL := [(.ref r_334), (.int (3 : Int32)), (.int (5 : Int32)), (.int (2 : Int32)), (.int q7), (.int q8), (.int q9), (.int q10)]) (rest := []) (lenOf pd_27 rfl) rfl (by show 2 * 0 + _ ≤ _; exact Nat.le_of_eq rfl) (hb hby at_194) (fun _ _ => ⟨rfl, e346, (by decide : 13 + 0 ≤ _), (by decide : 66 + 0 ≤ _)⟩)
      dsimp only [Pt.U, Pt.locs, Pt.cells, Pt.slots] at X347 l347 y347 z347 st347 hQ347
      subst l347 y347 z347
      obtain ⟨rfl, rfl, e347⟩ := hQ347
      try replace X347 := own_nil X347
      refine Go.by' st347 ?_
      show Go p.tables e below Pf (T347.setTop (mkF m 197 #[vi il, vi ia, vi ib, vi ic, vi id, vi (2 : Int32), vi (2 : Int32), vi q7, vi q8, vi q9, vi q10, vr r_330, vr r_331, vr r_334, vi (5 : Int32)] [(.int (1 : Int32))]))
      refine Go.by' (fun t k => (XS.ifNo X347.here hx rfl (hb hby at_197) rfl ((if0 _ _).trans (feq (by decide)).1) (XS.aload X347.here hx rfl (hb hby at_200) rfl rfl (XS.iconst X347.here hx rfl (hb hby at_202) (XS.iload X347.here hx rfl (hb hby at_203) rfl (XS.iload X347.here hx rfl (hb hby at_205) rfl (XS.iload X347.here hx rfl (hb hby at_207) rfl (XS.iload X347.here hx rfl (hb hby at_209) rfl (XS.iload X347.here hx rfl (hb hby at_211) rfl k))))))))) ?_
      show Go p.tables e below Pf (T347.setTop (mkF m 213 #[vi il, vi ia, vi ib, vi ic, vi id, vi (2 : Int32), vi (2 : Int32), vi q7, vi q8, vi q9, vi q10, vr r_330, vr r_331, vr r_334, vi (5 : Int32)] [(.int q9), (.int q8), (.int q7), (.int (2 : Int32)), (.int (5 : Int32)), (.int (4 : Int32)), (.ref r_334)]))
      refine Go.by' (fun t k => (XS.iload X347.here hx rfl (hb hby at_213) rfl k)) ?_
      obtain ⟨_, _, ⟨T348, L348, k348, n348⟩, -, X348, ⟨Lc348, hQ348, l348, y348, z348⟩, st348⟩ := Jvm.LawKit.callS X347 hx (y := (⟨"com/example/slatewipe/slatewipe/TableQualifiedNamePinLaw", "at", "(Ljava/lang/String;IIICCCC)Z"⟩ : MethodName)) hO334 (mvT hZ334 hw161) (mvT hZ334 hw162) (mvT hZ334 hw3) (mvT hZ334 hw163) (by decide) (backOf (W := 0) (rmAt_24 l Z a0 hw [] vcs vfm G r_334 ((5 : Int32)) q7 q8 q9 q10 rb_334 kb_334 ([(Value.int (q7.toInt8.toInt32)), (Value.int (q8.toInt8.toInt32)), (Value.int (46 : Int32)), (Value.int (q9.toInt8.toInt32)), (Value.int (q10.toInt8.toInt32))]) ((q10.toInt8.toInt32)) T334.heap n0 O334 f334_0 f334_2 f334_3 f334_4 (by decide) rfl (own_u8 bd10)) hZ334 hw163 hw3 (by decide) (by decide)) (g := (mkF m 215 #[vi il, vi ia, vi ib, vi ic, vi id, vi (2 : Int32), vi (2 : Int32), vi q7, vi q8, vi q9, vi q10, vr r_330, vr r_331, vr r_334, vi (5 : Int32)] [(.int q10), (.int q9), (.int q8), (.int q7), (.int (2 : Int32)), (.int (5 : Int32)), (.int (4 : Int32)), (.ref r_334)])) rfl (by rw [hml]; rfl) (argsL := [(.ref r_334), (.int (4 : Int32)), (.int (5 : Int32)), (.int (2 : Int32)), (.int q7), (.int q8), (.int q9), (.int q10)]) (rest := []) (lenOf pd_27 rfl) rfl (by show 2 * 0 + _ ≤ _; exact Nat.le_of_eq rfl) (hb hby at_215) (fun _ _ => ⟨rfl, e347, (by decide : 13 + 0 ≤ _), (by decide : 66 + 0 ≤ _)⟩)
      dsimp only [Pt.U, Pt.locs, Pt.cells, Pt.slots] at X348 l348 y348 z348 st348 hQ348
      subst l348 y348 z348
      obtain ⟨rfl, rfl, e348⟩ := hQ348
      try replace X348 := own_nil X348
      refine Go.by' st348 ?_
      show Go p.tables e below Pf (T348.setTop (mkF m 218 #[vi il, vi ia, vi ib, vi ic, vi id, vi (2 : Int32), vi (2 : Int32), vi q7, vi q8, vi q9, vi q10, vr r_330, vr r_331, vr r_334, vi (5 : Int32)] [(.int (1 : Int32))]))
      refine Go.by' (fun t k => (XS.ifNo X348.here hx rfl (hb hby at_218) rfl ((if0 _ _).trans (feq (by decide)).1) (XS.iconst X348.here hx rfl (hb hby at_221) (XS.goto X348.here hx rfl (pc0 := 222) (pc' := 226) rfl (hb hby at_222) (by decide) (by decide) k)))) ?_
      show Go p.tables e below Pf (T348.setTop (mkF m 226 #[vi il, vi ia, vi ib, vi ic, vi id, vi (2 : Int32), vi (2 : Int32), vi q7, vi q8, vi q9, vi q10, vr r_330, vr r_331, vr r_334, vi (5 : Int32)] [(.int (1 : Int32))]))
      rw [hPf]
      exact Go.retIS X348 hx hEL Sb334 e348 hh hret hlk (by simp) rfl (hb hby at_226) (by decide) (by decide) ⟨rfl, N334, (by rw [e348]; exact KC334)⟩
set_option maxRecDepth 65536 in
set_option maxHeartbeats 40000000 in
theorem comes_1 {Post : Tables → Env → Array Value → State → Outcome → State → Prop} (hpost : ∀ tb e args s v u, (limb_1_1.after args s (.returned v) u = true ∧ limb_1_2.after args s (.returned v) u = true ∧ True) → FramedW s (.returned v) u (Jvm.fieldLocs frame_1_writes args s ++ Jvm.arrayLocs frame_1_arrays args s ++ Jvm.staticLocs frame_1_statics s) 40 2240 → Post tb e args s (.returned v) u) :
    ArmFor flags0 classFile x code maxLocals ret World_1 tables_1 room_1 Calls_1 rest_1 Pre_1 Post := by
  intro l hfl _ _ p e ha hc hk s m args below hf hA hF happ hP
  obtain ⟨hcalls, hrest, hpre⟩ := hP
  obtain ⟨-, -, -, hnamed, -, -, -, hat⟩ := (Spec.applies_iff hf).mp happ
  obtain ⟨hg, hn⟩ := and_e (Cond.before_iff.mp (show (Jvm.Cond.and given_1 narrow_1).before args s = true from hpre))
  obtain ⟨ga1, gb1⟩ := and_e hg
  obtain ⟨ga2, gb2⟩ := and_e gb1
  obtain ⟨ga3, gb3⟩ := and_e gb2
  obtain ⟨ga4, gb4⟩ := and_e gb3
  obtain ⟨ga5, gb5⟩ := and_e gb4
  obtain ⟨w0, w1, w2, w3, w4, rfl⟩ : ∃ w0 w1 w2 w3 w4 : Value, args = #[w0, w1, w2, w3, w4] := by
    have hs : args.size = 5 := by simpa [Cond.value, given_1] using ga1
    obtain ⟨L⟩ := args
    match L, hs with
    | [w0, w1, w2, w3, w4], _ => exact ⟨w0, w1, w2, w3, w4, rfl⟩
  have hw := fun d (hd : d ∈ tables_1) => atoms_spec (ws := Jvm.Cond.code x code maxLocals ret :: tables_1) hat d (List.mem_cons_of_mem _ hd)
  have hfit : Fit s := fun {y c} hc i hi => by
    obtain ⟨ha, rfl⟩ := Array.getElem?_eq_some_iff.mp hc
    have q := List.all_eq_true.mp ((Array.all_eq_true_iff_forall_mem.mp hF) _ (Array.getElem_mem ha)) i (List.mem_range.mpr hi)
    simpa [Array.getElem?_eq_getElem hi] using q
  obtain ⟨hsets, hown0⟩ := atoms_of _ (rest_1_c_eq ▸ (show rest_1_c.before _ s = true from hrest))
  obtain ⟨il, ei0⟩ := is_v ga2
  obtain rfl : w0 = (.int il) := Option.some.inj ei0
  obtain ⟨ia, ei1⟩ := is_v ga3
  obtain rfl : w1 = (.int ia) := Option.some.inj ei1
  obtain ⟨ib, ei2⟩ := is_v ga4
  obtain rfl : w2 = (.int ib) := Option.some.inj ei2
  obtain ⟨ic, ei3⟩ := is_v ga5
  obtain rfl : w3 = (.int ic) := Option.some.inj ei3
  obtain ⟨id, ei4⟩ := is_v gb5
  obtain rfl : w4 = (.int id) := Option.some.inj ei4
  obtain ⟨vcs, evcs⟩ := is_v (Cond.before_iff.mp (hsets _ (List.mem_of_getElem? (i := 1) rfl)))
  have Scs := Sta.start evcs (Or.inl (hsets _ (List.mem_of_getElem? (i := 0) rfl)))
  have Ncs : ¬ (vcs = (0 : Int32)) := gotF (Cond.eq_ints evcs (Term.int_eval _)) (not_v (Cond.before_iff.mp (hsets _ (List.mem_of_getElem? (i := 2) rfl))))
  obtain ⟨vfm, evvfm, ervfm⟩ := isR_v (Cond.before_iff.mp (hsets _ (List.mem_of_getElem? (i := 8) rfl)))
  have Svfm := Sta.start evvfm (Or.inl (hsets _ (List.mem_of_getElem? (i := 7) rfl)))
  have G : Gh s vcs vfm := ⟨Scs, Ncs, Svfm, ervfm⟩
  have hCH0 : CHv s consts_1 s.vm s.heap := CHv.start (own_EW hw) hcalls.1 (hsets _ (List.mem_of_getElem? (i := 2) rfl)) (hw _ (List.mem_of_getElem? (i := 20) rfl)) (hw _ (List.mem_of_getElem? (i := 6) rfl))
  obtain ⟨n, o, h1, h2, h3, _, L, rfl, hQ, hq⟩ := rm0 l s _ hw tables_1 vcs vfm G il ia ib ic id s.heap s.heap.size (Old.start s)  p e ha hc hk s m _ below hf ((Spec.applies_iff_loose hf).mp happ).1 ⟨rfl, State.Warmed39.refl s, rfl, hCH0, fun _ q => nomatch q⟩ trivial
  obtain ⟨rfl, N, -⟩ := hQ
  refine ⟨n, _, h1, h2, h3, hpost _ _ _ _ _ _ ⟨Cond.after_iff.mpr rfl, Cond.after_iff.mpr (eq_i res_at (Term.int_eval (1)) rfl), trivial⟩ ⟨hq.2.1, hq.2.2.1, hq.2.2.2.1, (hq.2.2.2.2.sift fun y hy => Or.inr (N y hy)).mono (by decide) (by decide)⟩⟩
theorem main_1_1 : Claimed_1_1 := comes_1 fun _ _ _ _ _ _ h hF => ⟨h.1, hF⟩
theorem main_1_2 : Claimed_1_2 := comes_1 fun _ _ _ _ _ _ h hF => ⟨h.2.1, hF⟩
end Jvm.Pilot.@@N@@
namespace Jvm.Pilot.@@N@@
open Jvm Jvm.ClassFile Sem Op Lib Jvm.Free Jvm.Stand Jvm.Pilot.@@N@@.Jvm.D
/-! MADE BY PROGRAM (witnessworld.py) out of the Statement's table words and the real class files: 27 classes; the members and pool entries that the words name. The judged class is class 1, her method 1. -/
namespace start1
open Jvm.ClassFile
def u (s : String) : CpInfo := .utf8 (stringToUtf16 s)
/-- a pool by its gaps: so many unusable entries, then the entry; so many at the end -/
def gap : Nat → List CpInfo → List CpInfo
  | 0, r => r
  | n + 1, r => .unusable :: gap n r
def poolList (es : List (Nat × CpInfo)) (last : Nat) : List CpInfo := es.foldr (fun e r => gap e.1 (e.2 :: r)) (gap last [])
def pool (es : List (Nat × CpInfo)) (last : Nat) : Array CpInfo := ⟨poolList es last⟩
def fileOf (pool : Array CpInfo) (this : Nat) (attrs : Array Attribute := #[]) (ms : Array MethodInfo := #[]) (fl : Nat := 33) (sup : Nat := 0) (ifs : Array Nat := #[]) (fds : Array FieldInfo := #[]) : ClassFile where
  minorVersion := 0
  majorVersion := 65
  constantPool := pool
  accessFlags := fl
  thisClass := this
  superClass := sup
  interfaces := ifs
  fields := fds
  methods := ms
  attributes := attrs
def plain (name : String) (sup : Option ClassId) : Class where
  name := name
  kind := .ordinary
  loader := none
  accessFlags := 33
  super := sup
  interfaces := #[]
  cf := none
  fields := #[]
  methods := #[]
  instanceTypes := #[]
  staticTypes := #[]
  resolved := #[]
  callSites := []
  init := .initialized
  statics := none
  mirror := none

def pool0 : Array CpInfo := pool [(5, u "<init>"), (0, u "()V"), (1, .class_ 10), (1, u "java/lang/Object")] 113

def k0c0 : Code := { maxStack := 0, maxLocals := 1, code := object_method_1_code, exceptionTable := #[], attributes := #[] }
def k0m0 : Method := { name := "<init>", desc := "()V", sig := { parameters := [], returnType := none }, accessFlags := 1, code := some k0c0 }
/-- java/lang/Object -/
def k0 : Class := { plain "java/lang/Object" none with
  accessFlags := 33
  interfaces := #[]
  cf := some (fileOf pool0 8 #[] #[{ accessFlags := 1, nameIndex := 5, descriptorIndex := 6, attributes := #[] }] 33 0 #[] #[])
  fields := #[]
  methods := #[k0m0]
  instanceTypes := #[]
  staticTypes := #[]
  resolved := Array.replicate 124 none
  statics := none }

def pool1 : Array CpInfo := pool [(2, .class_ 4), (1, u "java/lang/Object"), (0, u "<init>"), (0, u "()V"), (0, .integer 2147483647), (0, .methodref 9 10), (0, .class_ 11), (0, .nameAndType 12 13), (0, u "com/example/slatewipe/slatewipe/TableQualifiedNamePinLaw"), (0, u "make"), (0, u "(ICC)Ljava/lang/String;"), (0, .class_ 15), (0, u "com/example/slatewipe/slatewipe/Table"), (0, .methodref 14 17), (0, .nameAndType 5 18), (0, u "(Ljava/lang/String;Ljava/lang/String;)V"), (0, .methodref 14 20), (0, .nameAndType 21 22), (0, u "qualifiedName"), (0, u "()Ljava/lang/String;"), (0, .methodref 24 25), (0, .class_ 26), (0, .nameAndType 27 28), (0, u "java/lang/String"), (0, u "length"), (0, u "()I"), (0, .methodref 9 30), (0, .nameAndType 31 32), (0, u "at"), (0, u "(Ljava/lang/String;IIICCCC)Z"), (0, .methodref 24 34), (0, .nameAndType 5 35), (0, u "([C)V"), (0, .methodref 24 37), (0, .nameAndType 38 39), (0, u "charAt"), (0, u "(I)C"), (2, u "law"), (0, u "(IIIII)Z")] 3

def k1m0 : Method := { name := "<init>", desc := "()V", sig := { parameters := [], returnType := none }, accessFlags := 1, code := none }
def k1c1 : Code := { maxStack := 8, maxLocals := 15, code := code, exceptionTable := #[], attributes := #[] }
def k1m1 : Method := { name := "law", desc := "(IIIII)Z", sig := { parameters := [.int, .int, .int, .int, .int], returnType := some .boolean }, accessFlags := 9, code := some k1c1 }
def k1c2 : Code := { maxStack := 3, maxLocals := 4, code := method_3_code, exceptionTable := #[], attributes := #[] }
def k1m2 : Method := { name := "make", desc := "(ICC)Ljava/lang/String;", sig := { parameters := [.int, .char, .char], returnType := some (.object "java/lang/String") }, accessFlags := 10, code := some k1c2 }
def k1c3 : Code := { maxStack := 2, maxLocals := 10, code := method_4_code, exceptionTable := #[], attributes := #[] }
def k1m3 : Method := { name := "at", desc := "(Ljava/lang/String;IIICCCC)Z", sig := { parameters := [(.object "java/lang/String"), .int, .int, .int, .char, .char, .char, .char], returnType := some .boolean }, accessFlags := 10, code := some k1c3 }
/-- com/example/slatewipe/slatewipe/TableQualifiedNamePinLaw -/
def k1 : Class := { plain "com/example/slatewipe/slatewipe/TableQualifiedNamePinLaw" (some 0) with
  accessFlags := 49
  interfaces := #[]
  cf := some (fileOf pool1 9 #[] #[{ accessFlags := 1, nameIndex := 5, descriptorIndex := 6, attributes := #[] }, { accessFlags := 9, nameIndex := 42, descriptorIndex := 43, attributes := #[] }, { accessFlags := 10, nameIndex := 12, descriptorIndex := 13, attributes := #[] }, { accessFlags := 10, nameIndex := 31, descriptorIndex := 32, attributes := #[] }] 49 2 #[] #[])
  fields := #[]
  methods := #[k1m0, k1m1, k1m2, k1m3]
  instanceTypes := #[]
  staticTypes := #[]
  resolved := Array.replicate 47 none
  statics := none }

def pool2 : Array CpInfo := pool [(1, .class_ 2), (0, u "java/io/Serializable"), (0, .class_ 4), (0, u "java/lang/Object")] 2

/-- java/io/Serializable -/
def k2 : Class := { plain "java/io/Serializable" (some 0) with
  accessFlags := 1537
  interfaces := #[]
  cf := some (fileOf pool2 1 #[] #[] 1537 3 #[] #[])
  fields := #[]
  methods := #[]
  instanceTypes := #[]
  staticTypes := #[]
  resolved := Array.replicate 7 none
  statics := none }

def pool3 : Array CpInfo := pool [(1, .class_ 2), (0, u "java/lang/Comparable"), (0, .class_ 4), (0, u "java/lang/Object")] 7

/-- java/lang/Comparable -/
def k3 : Class := { plain "java/lang/Comparable" (some 0) with
  accessFlags := 1537
  interfaces := #[]
  cf := some (fileOf pool3 1 #[] #[] 1537 3 #[] #[])
  fields := #[]
  methods := #[]
  instanceTypes := #[]
  staticTypes := #[]
  resolved := Array.replicate 12 none
  statics := none }

def pool4 : Array CpInfo := pool [(2, .class_ 4), (1, u "java/lang/CharSequence"), (42, .class_ 48), (0, u "java/lang/CharSequence$1CodePointIterator"), (10, .class_ 60), (0, u "java/lang/CharSequence$1CharIterator"), (5, .class_ 67), (0, u "java/lang/Object")] 63

/-- java/lang/CharSequence -/
def k4 : Class := { plain "java/lang/CharSequence" (some 0) with
  accessFlags := 1537
  interfaces := #[]
  cf := some (fileOf pool4 2 #[.nestMembers #[47, 59]] #[] 1537 66 #[] #[])
  fields := #[]
  methods := #[]
  instanceTypes := #[]
  staticTypes := #[]
  resolved := Array.replicate 131 none
  statics := none }

def pool5 : Array CpInfo := pool [(1, .class_ 2), (0, u "java/lang/constant/Constable"), (0, .class_ 4), (0, u "java/lang/Object")] 6

/-- java/lang/constant/Constable -/
def k5 : Class := { plain "java/lang/constant/Constable" (some 0) with
  accessFlags := 1537
  interfaces := #[]
  cf := some (fileOf pool5 1 #[] #[] 1537 3 #[] #[])
  fields := #[]
  methods := #[]
  instanceTypes := #[]
  staticTypes := #[]
  resolved := Array.replicate 11 none
  statics := none }

def pool6 : Array CpInfo := pool [(1, .class_ 2), (0, u "java/lang/constant/ConstantDesc"), (0, .class_ 4), (0, u "java/lang/Object")] 32

/-- java/lang/constant/ConstantDesc -/
def k6 : Class := { plain "java/lang/constant/ConstantDesc" (some 0) with
  accessFlags := 1537
  interfaces := #[]
  cf := some (fileOf pool6 1 #[] #[] 1537 3 #[] #[])
  fields := #[]
  methods := #[]
  instanceTypes := #[]
  staticTypes := #[]
  resolved := Array.replicate 37 none
  statics := none }

def pool7 : Array CpInfo := pool [(1, .methodref 2 3), (0, .class_ 4), (0, .nameAndType 5 6), (0, u "java/lang/Object"), (0, u "<init>"), (0, u "()V"), (0, .string 8), (0, u ""), (0, .fieldref 10 11), (0, .class_ 12), (0, .nameAndType 13 14), (0, u "java/lang/String"), (0, u "value"), (0, u "[B"), (0, .fieldref 10 16), (0, .nameAndType 17 18), (0, u "coder"), (0, u "B"), (2, u "hash"), (0, u "I"), (2, u "hashIsZero"), (0, u "Z"), (0, .methodref 10 28), (0, .nameAndType 5 29), (0, u "([CIILjava/lang/Void;)V"), (8, .fieldref 10 39), (0, .nameAndType 40 26), (0, u "COMPACT_STRINGS"), (1, .class_ 44), (1, u "java/lang/StringUTF16"), (0, u "compress"), (1, .methodref 42 48), (0, .nameAndType 49 50), (0, u "coderFromArrayLen"), (0, u "([BI)B"), (3, .methodref 55 56), (0, .class_ 57), (0, .nameAndType 58 59), (0, u "java/util/Arrays"), (0, u "copyOfRange"), (0, u "([BII)[B"), (47, .class_ 109), (1, u "java/lang/StringLatin1"), (32, u "()Z"), (34, .methodref 42 178), (0, .nameAndType 45 179), (0, u "([CII)[B"), (13, .class_ 195), (1, u "java/lang/System"), (16, .methodref 193 213), (0, .nameAndType 214 215), (0, u "arraycopy"), (0, u "(Ljava/lang/Object;ILjava/lang/Object;II)V"), (118, u "()I"), (0, .methodref 10 336), (0, .nameAndType 17 337), (0, u "()B"), (2, u "()[B"), (22, u "([BI)C"), (27, u "(II)V"), (35, u "(I)C"), (61, .methodref 10 490), (0, .nameAndType 5 491), (0, u "(Ljava/lang/AbstractStringBuilder;Ljava/lang/Void;)V"), (0, .methodref 10 493), (0, .nameAndType 494 142), (0, u "isLatin1"), (0, .methodref 107 496), (0, .nameAndType 497 363), (0, u "charAt"), (3, u "checkIndex"), (4, .nameAndType 507 334), (0, u "length"), (24, u "getBytes"), (16, .methodref 550 506), (0, .class_ 551), (0, u "java/lang/AbstractStringBuilder"), (0, .methodref 550 553), (0, .nameAndType 554 340), (0, u "getValue"), (20, .class_ 576), (0, u "java/lang/CharSequence"), (22, u "CASE_INSENSITIVE_ORDER"), (0, u "Ljava/util/Comparator;"), (220, u "([BIB)V"), (188, u "([C)V"), (36, .methodref 550 493), (5, .fieldref 1054 1055), (0, .class_ 1056), (0, .nameAndType 1057 1058), (0, u "jdk/internal/util/Preconditions"), (0, u "SIOOBE_FORMATTER"), (0, u "Ljava/util/function/BiFunction;"), (0, .methodref 1054 1060), (0, .nameAndType 501 1061), (0, u "(IILjava/util/function/BiFunction;)I"), (39, u "serialPersistentFields"), (0, u "[Ljava/io/ObjectStreamField;"), (0, .class_ 1104), (0, u "java/lang/String$CaseInsensitiveComparator"), (1, .class_ 1107), (0, u "java/io/Serializable"), (0, .class_ 1109), (0, u "java/lang/Comparable"), (0, .class_ 1111), (0, u "java/lang/constant/Constable"), (0, .class_ 1113), (0, u "java/lang/constant/ConstantDesc"), (2, u "serialVersionUID"), (0, u "J"), (3, u "REPL"), (0, u "C"), (2, u "LATIN1"), (1, u "UTF16"), (105, u "(Ljava/lang/StringBuilder;)V")] 217

def k7m0 : Method := { name := "<init>", desc := "()V", sig := { parameters := [], returnType := none }, accessFlags := 1, code := none }
def k7c1 : Code := { maxStack := 5, maxLocals := 2, code := jdk_42_method_3_code, exceptionTable := #[], attributes := #[] }
def k7m1 : Method := { name := "<init>", desc := "([C)V", sig := { parameters := [(.array .char)], returnType := none }, accessFlags := 1, code := some k7c1 }
def k7c2 : Code := { maxStack := 3, maxLocals := 2, code := jdk_42_method_53_code, exceptionTable := #[], attributes := #[] }
def k7m2 : Method := { name := "<init>", desc := "(Ljava/lang/StringBuilder;)V", sig := { parameters := [(.object "java/lang/StringBuilder")], returnType := none }, accessFlags := 1, code := some k7c2 }
def k7c3 : Code := { maxStack := 2, maxLocals := 1, code := jdk_42_method_54_code, exceptionTable := #[], attributes := #[] }
def k7m3 : Method := { name := "length", desc := "()I", sig := { parameters := [], returnType := some .int }, accessFlags := 1, code := some k7c3 }
def k7c4 : Code := { maxStack := 2, maxLocals := 2, code := jdk_42_method_56_code, exceptionTable := #[], attributes := #[] }
def k7m4 : Method := { name := "charAt", desc := "(I)C", sig := { parameters := [.int], returnType := some .char }, accessFlags := 1, code := some k7c4 }
def k7c5 : Code := { maxStack := 5, maxLocals := 4, code := jdk_42_method_147_code, exceptionTable := #[], attributes := #[] }
def k7m5 : Method := { name := "getBytes", desc := "([BIB)V", sig := { parameters := [(.array .byte), .int, .byte], returnType := none }, accessFlags := 0, code := some k7c5 }
def k7c6 : Code := { maxStack := 4, maxLocals := 6, code := jdk_42_method_149_code, exceptionTable := #[], attributes := #[] }
def k7m6 : Method := { name := "<init>", desc := "([CIILjava/lang/Void;)V", sig := { parameters := [(.array .char), .int, .int, (.object "java/lang/Void")], returnType := none }, accessFlags := 2, code := some k7c6 }
def k7c7 : Code := { maxStack := 5, maxLocals := 5, code := jdk_42_method_150_code, exceptionTable := #[], attributes := #[] }
def k7m7 : Method := { name := "<init>", desc := "(Ljava/lang/AbstractStringBuilder;Ljava/lang/Void;)V", sig := { parameters := [(.object "java/lang/AbstractStringBuilder"), (.object "java/lang/Void")], returnType := none }, accessFlags := 0, code := some k7c7 }
def k7c8 : Code := { maxStack := 1, maxLocals := 1, code := jdk_42_method_152_code, exceptionTable := #[], attributes := #[] }
def k7m8 : Method := { name := "coder", desc := "()B", sig := { parameters := [], returnType := some .byte }, accessFlags := 0, code := some k7c8 }
def k7c9 : Code := { maxStack := 1, maxLocals := 1, code := jdk_42_method_154_code, exceptionTable := #[], attributes := #[] }
def k7m9 : Method := { name := "isLatin1", desc := "()Z", sig := { parameters := [], returnType := some .boolean }, accessFlags := 0, code := some k7c9 }
def k7c10 : Code := { maxStack := 3, maxLocals := 2, code := jdk_42_method_155_code, exceptionTable := #[], attributes := #[] }
def k7m10 : Method := { name := "checkIndex", desc := "(II)V", sig := { parameters := [.int, .int], returnType := none }, accessFlags := 8, code := some k7c10 }
/-- java/lang/String -/
def k7 : Class := { plain "java/lang/String" (some 0) with
  accessFlags := 49
  interfaces := #[2, 3, 4, 5, 6]
  cf := some (fileOf pool7 10 #[.nestMembers #[1103]] #[{ accessFlags := 1, nameIndex := 5, descriptorIndex := 6, attributes := #[] }, { accessFlags := 1, nameIndex := 5, descriptorIndex := 1010, attributes := #[] }, { accessFlags := 1, nameIndex := 5, descriptorIndex := 1233, attributes := #[] }, { accessFlags := 1, nameIndex := 507, descriptorIndex := 334, attributes := #[] }, { accessFlags := 1, nameIndex := 497, descriptorIndex := 427, attributes := #[] }, { accessFlags := 0, nameIndex := 532, descriptorIndex := 821, attributes := #[] }, { accessFlags := 2, nameIndex := 5, descriptorIndex := 29, attributes := #[] }, { accessFlags := 0, nameIndex := 5, descriptorIndex := 491, attributes := #[] }, { accessFlags := 0, nameIndex := 17, descriptorIndex := 337, attributes := #[] }, { accessFlags := 0, nameIndex := 494, descriptorIndex := 142, attributes := #[] }, { accessFlags := 8, nameIndex := 501, descriptorIndex := 391, attributes := #[] }] 49 2 #[1106, 1108, 575, 1110, 1112] #[{ accessFlags := 18, nameIndex := 13, descriptorIndex := 14, attributes := #[] }, { accessFlags := 18, nameIndex := 17, descriptorIndex := 18, attributes := #[] }, { accessFlags := 2, nameIndex := 21, descriptorIndex := 22, attributes := #[] }, { accessFlags := 2, nameIndex := 25, descriptorIndex := 26, attributes := #[] }, { accessFlags := 26, nameIndex := 1116, descriptorIndex := 1117, attributes := #[] }, { accessFlags := 24, nameIndex := 40, descriptorIndex := 26, attributes := #[] }, { accessFlags := 26, nameIndex := 1101, descriptorIndex := 1102, attributes := #[] }, { accessFlags := 26, nameIndex := 1121, descriptorIndex := 1122, attributes := #[] }, { accessFlags := 25, nameIndex := 599, descriptorIndex := 600, attributes := #[] }, { accessFlags := 24, nameIndex := 1125, descriptorIndex := 18, attributes := #[] }, { accessFlags := 24, nameIndex := 1127, descriptorIndex := 18, attributes := #[] }])
  fields := #[{ name := "value", type := (.array .byte), accessFlags := 18, slot := 0, constantValue := 0 }, { name := "coder", type := .byte, accessFlags := 18, slot := 1, constantValue := 0 }, { name := "hash", type := .int, accessFlags := 2, slot := 2, constantValue := 0 }, { name := "hashIsZero", type := .boolean, accessFlags := 2, slot := 3, constantValue := 0 }, { name := "serialVersionUID", type := .long, accessFlags := 26, slot := 0, constantValue := 0 }, { name := "COMPACT_STRINGS", type := .boolean, accessFlags := 24, slot := 1, constantValue := 0 }, { name := "serialPersistentFields", type := (.array (.object "java/io/ObjectStreamField")), accessFlags := 26, slot := 2, constantValue := 0 }, { name := "REPL", type := .char, accessFlags := 26, slot := 3, constantValue := 0 }, { name := "CASE_INSENSITIVE_ORDER", type := (.object "java/util/Comparator"), accessFlags := 25, slot := 4, constantValue := 0 }, { name := "LATIN1", type := .byte, accessFlags := 24, slot := 5, constantValue := 0 }, { name := "UTF16", type := .byte, accessFlags := 24, slot := 6, constantValue := 0 }]
  methods := #[k7m0, k7m1, k7m2, k7m3, k7m4, k7m5, k7m6, k7m7, k7m8, k7m9, k7m10]
  instanceTypes := #[(.array .byte), .byte, .int, .boolean]
  staticTypes := #[.long, .boolean, (.array (.object "java/io/ObjectStreamField")), .char, (.object "java/util/Comparator"), .byte, .byte]
  resolved := Array.replicate 1451 none
  statics := some 0 }

def pool8 : Array CpInfo := pool [(1, .methodref 2 3), (0, .class_ 4), (0, .nameAndType 5 6), (0, u "java/lang/Object"), (0, u "<init>"), (0, u "()V"), (0, .class_ 8), (0, u "java/lang/Record")] 13

def k8c0 : Code := { maxStack := 1, maxLocals := 1, code := jdk_30_method_1_code, exceptionTable := #[], attributes := #[] }
def k8m0 : Method := { name := "<init>", desc := "()V", sig := { parameters := [], returnType := none }, accessFlags := 4, code := some k8c0 }
/-- java/lang/Record -/
def k8 : Class := { plain "java/lang/Record" (some 0) with
  accessFlags := 1057
  interfaces := #[]
  cf := some (fileOf pool8 7 #[] #[{ accessFlags := 4, nameIndex := 5, descriptorIndex := 6, attributes := #[] }] 1057 2 #[] #[])
  fields := #[]
  methods := #[k8m0]
  instanceTypes := #[]
  staticTypes := #[]
  resolved := Array.replicate 22 none
  statics := none }

def pool9 : Array CpInfo := pool [(1, .methodref 2 3), (0, .class_ 4), (0, .nameAndType 5 6), (0, u "java/lang/Record"), (0, u "<init>"), (0, u "()V"), (0, .fieldref 8 9), (0, .class_ 10), (0, .nameAndType 11 12), (0, u "com/example/slatewipe/slatewipe/Table"), (0, u "schema"), (0, u "Ljava/lang/String;"), (0, .fieldref 8 14), (0, .nameAndType 15 12), (0, u "name"), (0, .class_ 17), (0, u "java/lang/StringBuilder"), (0, .methodref 16 3), (0, .methodref 16 20), (0, .nameAndType 21 22), (0, u "append"), (0, u "(Ljava/lang/String;)Ljava/lang/StringBuilder;"), (0, .string 24), (0, u "."), (0, .methodref 16 26), (0, .nameAndType 27 28), (0, u "toString"), (0, u "()Ljava/lang/String;"), (11, u "(Ljava/lang/String;Ljava/lang/String;)V"), (3, u "qualifiedName")] 23

def k9c0 : Code := { maxStack := 2, maxLocals := 3, code := prog_16_method_1_code, exceptionTable := #[], attributes := #[] }
def k9m0 : Method := { name := "<init>", desc := "(Ljava/lang/String;Ljava/lang/String;)V", sig := { parameters := [(.object "java/lang/String"), (.object "java/lang/String")], returnType := none }, accessFlags := 1, code := some k9c0 }
def k9c1 : Code := { maxStack := 2, maxLocals := 1, code := prog_16_method_2_code, exceptionTable := #[], attributes := #[] }
def k9m1 : Method := { name := "qualifiedName", desc := "()Ljava/lang/String;", sig := { parameters := [], returnType := some (.object "java/lang/String") }, accessFlags := 1, code := some k9c1 }
/-- com/example/slatewipe/slatewipe/Table -/
def k9 : Class := { plain "com/example/slatewipe/slatewipe/Table" (some 8) with
  accessFlags := 49
  interfaces := #[]
  cf := some (fileOf pool9 8 #[] #[{ accessFlags := 1, nameIndex := 5, descriptorIndex := 40, attributes := #[] }, { accessFlags := 1, nameIndex := 44, descriptorIndex := 28, attributes := #[] }] 49 2 #[] #[{ accessFlags := 18, nameIndex := 11, descriptorIndex := 12, attributes := #[] }, { accessFlags := 18, nameIndex := 15, descriptorIndex := 12, attributes := #[] }])
  fields := #[{ name := "schema", type := (.object "java/lang/String"), accessFlags := 18, slot := 0, constantValue := 0 }, { name := "name", type := (.object "java/lang/String"), accessFlags := 18, slot := 1, constantValue := 0 }]
  methods := #[k9m0, k9m1]
  instanceTypes := #[(.object "java/lang/String"), (.object "java/lang/String")]
  staticTypes := #[]
  resolved := Array.replicate 68 none
  statics := none }

def pool10 : Array CpInfo := pool [(1, .class_ 2), (0, u "java/lang/Appendable"), (0, .class_ 4), (0, u "java/lang/Object")] 9

/-- java/lang/Appendable -/
def k10 : Class := { plain "java/lang/Appendable" (some 0) with
  accessFlags := 1537
  interfaces := #[]
  cf := some (fileOf pool10 1 #[] #[] 1537 3 #[] #[])
  fields := #[]
  methods := #[]
  instanceTypes := #[]
  staticTypes := #[]
  resolved := Array.replicate 14 none
  statics := none }

def pool11 : Array CpInfo := pool [(1, .class_ 2), (0, u "java/lang/String"), (0, .methodref 4 5), (0, .class_ 6), (0, .nameAndType 7 8), (0, u "java/lang/Object"), (0, u "<init>"), (0, u "()V"), (1, .class_ 12), (1, u "java/lang/AbstractStringBuilder"), (0, u "EMPTYVALUE"), (0, u "[B"), (0, .fieldref 10 16), (0, .nameAndType 17 14), (0, u "value"), (0, .fieldref 1 19), (0, .nameAndType 20 21), (0, u "COMPACT_STRINGS"), (0, u "Z"), (0, .fieldref 10 23), (0, .nameAndType 24 25), (0, u "coder"), (0, u "B"), (6, .methodref 1 33), (0, .nameAndType 34 35), (0, u "length"), (0, u "()I"), (4, .methodref 1 41), (0, .nameAndType 24 42), (0, u "()B"), (2, u "append"), (0, u "(Ljava/lang/String;)Ljava/lang/AbstractStringBuilder;"), (1, .class_ 49), (0, u "java/lang/CharSequence"), (19, u "(Ljava/lang/String;)V"), (5, u "maybeLatin1"), (3, .fieldref 10 80), (0, .nameAndType 81 82), (0, u "count"), (0, u "I"), (2, u "isLatin1"), (0, u "()Z"), (13, .methodref 10 101), (0, .nameAndType 102 103), (0, u "ensureCapacityInternal"), (0, u "(I)V"), (104, .methodref 10 209), (0, .nameAndType 210 211), (0, u "putStringAt"), (0, u "(ILjava/lang/String;)V"), (5, u "inflateIfNeededFor"), (2, .nameAndType 221 222), (0, u "getBytes"), (0, u "([BIB)V"), (174, .methodref 10 398), (0, .nameAndType 217 69), (0, .methodref 1 220), (3, u "()[B"), (40, .class_ 445), (0, u "java/lang/Appendable"), (106, u "getValue")] 56

def k11m0 : Method := { name := "<init>", desc := "()V", sig := { parameters := [], returnType := none }, accessFlags := 0, code := none }
def k11c1 : Code := { maxStack := 2, maxLocals := 2, code := jdk_68_method_2_code, exceptionTable := #[], attributes := #[] }
def k11m1 : Method := { name := "<init>", desc := "(I)V", sig := { parameters := [.int], returnType := none }, accessFlags := 0, code := some k11c1 }
def k11c2 : Code := { maxStack := 1, maxLocals := 1, code := jdk_68_method_6_code, exceptionTable := #[], attributes := #[] }
def k11m2 : Method := { name := "length", desc := "()I", sig := { parameters := [], returnType := some .int }, accessFlags := 1, code := some k11c2 }
def k11c3 : Code := { maxStack := 4, maxLocals := 3, code := jdk_68_method_9_code, exceptionTable := #[], attributes := #[] }
def k11m3 : Method := { name := "ensureCapacityInternal", desc := "(I)V", sig := { parameters := [.int], returnType := none }, accessFlags := 2, code := some k11c3 }
def k11c4 : Code := { maxStack := 3, maxLocals := 3, code := jdk_68_method_22_code, exceptionTable := #[], attributes := #[] }
def k11m4 : Method := { name := "append", desc := "(Ljava/lang/String;)Ljava/lang/AbstractStringBuilder;", sig := { parameters := [(.object "java/lang/String")], returnType := some (.object "java/lang/AbstractStringBuilder") }, accessFlags := 1, code := some k11c4 }
def k11c5 : Code := { maxStack := 1, maxLocals := 1, code := jdk_68_method_64_code, exceptionTable := #[], attributes := #[] }
def k11m5 : Method := { name := "getValue", desc := "()[B", sig := { parameters := [], returnType := some (.array .byte) }, accessFlags := 16, code := some k11c5 }
def k11c6 : Code := { maxStack := 1, maxLocals := 1, code := jdk_68_method_68_code, exceptionTable := #[], attributes := #[] }
def k11m6 : Method := { name := "isLatin1", desc := "()Z", sig := { parameters := [], returnType := some .boolean }, accessFlags := 16, code := some k11c6 }
def k11c7 : Code := { maxStack := 2, maxLocals := 2, code := jdk_68_method_71_code, exceptionTable := #[], attributes := #[] }
def k11m7 : Method := { name := "inflateIfNeededFor", desc := "(Ljava/lang/String;)V", sig := { parameters := [(.object "java/lang/String")], returnType := none }, accessFlags := 2, code := some k11c7 }
def k11c8 : Code := { maxStack := 4, maxLocals := 3, code := jdk_68_method_73_code, exceptionTable := #[], attributes := #[] }
def k11m8 : Method := { name := "putStringAt", desc := "(ILjava/lang/String;)V", sig := { parameters := [.int, (.object "java/lang/String")], returnType := none }, accessFlags := 2, code := some k11c8 }
/-- java/lang/AbstractStringBuilder -/
def k11 : Class := { plain "java/lang/AbstractStringBuilder" (some 0) with
  accessFlags := 1056
  interfaces := #[10, 4]
  cf := some (fileOf pool11 10 #[] #[{ accessFlags := 0, nameIndex := 7, descriptorIndex := 8, attributes := #[] }, { accessFlags := 0, nameIndex := 7, descriptorIndex := 103, attributes := #[] }, { accessFlags := 1, nameIndex := 34, descriptorIndex := 35, attributes := #[] }, { accessFlags := 2, nameIndex := 102, descriptorIndex := 103, attributes := #[] }, { accessFlags := 1, nameIndex := 45, descriptorIndex := 46, attributes := #[] }, { accessFlags := 16, nameIndex := 552, descriptorIndex := 403, attributes := #[] }, { accessFlags := 16, nameIndex := 85, descriptorIndex := 86, attributes := #[] }, { accessFlags := 2, nameIndex := 217, descriptorIndex := 69, attributes := #[] }, { accessFlags := 2, nameIndex := 210, descriptorIndex := 211, attributes := #[] }] 1056 4 #[444, 48] #[{ accessFlags := 0, nameIndex := 17, descriptorIndex := 14, attributes := #[] }, { accessFlags := 0, nameIndex := 24, descriptorIndex := 25, attributes := #[] }, { accessFlags := 0, nameIndex := 75, descriptorIndex := 21, attributes := #[] }, { accessFlags := 0, nameIndex := 81, descriptorIndex := 82, attributes := #[] }, { accessFlags := 26, nameIndex := 13, descriptorIndex := 14, attributes := #[] }])
  fields := #[{ name := "value", type := (.array .byte), accessFlags := 0, slot := 0, constantValue := 0 }, { name := "coder", type := .byte, accessFlags := 0, slot := 1, constantValue := 0 }, { name := "maybeLatin1", type := .boolean, accessFlags := 0, slot := 2, constantValue := 0 }, { name := "count", type := .int, accessFlags := 0, slot := 3, constantValue := 0 }, { name := "EMPTYVALUE", type := (.array .byte), accessFlags := 26, slot := 0, constantValue := 0 }]
  methods := #[k11m0, k11m1, k11m2, k11m3, k11m4, k11m5, k11m6, k11m7, k11m8]
  instanceTypes := #[(.array .byte), .byte, .boolean, .int]
  staticTypes := #[(.array .byte)]
  resolved := Array.replicate 609 none
  statics := none }

def pool12 : Array CpInfo := pool [(1, .methodref 2 3), (0, .class_ 4), (0, .nameAndType 5 6), (0, u "java/lang/AbstractStringBuilder"), (0, u "<init>"), (0, u "(I)V"), (11, .class_ 20), (1, u "java/lang/String"), (3, .class_ 26), (1, u "java/lang/StringBuilder"), (0, u "append"), (0, u "(Ljava/lang/String;)Ljava/lang/StringBuilder;"), (0, .methodref 2 30), (0, .nameAndType 27 31), (0, u "(Ljava/lang/String;)Ljava/lang/AbstractStringBuilder;"), (105, .methodref 18 138), (0, .nameAndType 5 139), (0, u "(Ljava/lang/StringBuilder;)V"), (5, u "()V"), (10, u "()I"), (186, .methodref 2 344), (0, .nameAndType 345 156), (0, u "length"), (3, .class_ 350), (0, u "java/lang/Appendable"), (0, .class_ 352), (0, u "java/io/Serializable"), (0, .class_ 354), (0, u "java/lang/Comparable"), (0, .class_ 356), (0, u "java/lang/CharSequence"), (0, u "serialVersionUID"), (0, u "J"), (40, u "toString"), (0, u "()Ljava/lang/String;")] 21

def k12c0 : Code := { maxStack := 2, maxLocals := 1, code := jdk_67_method_1_code, exceptionTable := #[], attributes := #[] }
def k12m0 : Method := { name := "<init>", desc := "()V", sig := { parameters := [], returnType := none }, accessFlags := 1, code := some k12c0 }
def k12c1 : Code := { maxStack := 2, maxLocals := 2, code := jdk_67_method_7_code, exceptionTable := #[], attributes := #[] }
def k12m1 : Method := { name := "append", desc := "(Ljava/lang/String;)Ljava/lang/StringBuilder;", sig := { parameters := [(.object "java/lang/String")], returnType := some (.object "java/lang/StringBuilder") }, accessFlags := 1, code := some k12c1 }
def k12c2 : Code := { maxStack := 3, maxLocals := 1, code := jdk_67_method_42_code, exceptionTable := #[], attributes := #[] }
def k12m2 : Method := { name := "toString", desc := "()Ljava/lang/String;", sig := { parameters := [], returnType := some (.object "java/lang/String") }, accessFlags := 1, code := some k12c2 }
def k12c3 : Code := { maxStack := 1, maxLocals := 1, code := jdk_67_method_93_code, exceptionTable := #[], attributes := #[] }
def k12m3 : Method := { name := "length", desc := "()I", sig := { parameters := [], returnType := some .int }, accessFlags := 4161, code := some k12c3 }
/-- java/lang/StringBuilder -/
def k12 : Class := { plain "java/lang/StringBuilder" (some 11) with
  accessFlags := 49
  interfaces := #[10, 2, 3, 4]
  cf := some (fileOf pool12 24 #[] #[{ accessFlags := 1, nameIndex := 5, descriptorIndex := 145, attributes := #[] }, { accessFlags := 1, nameIndex := 27, descriptorIndex := 28, attributes := #[] }, { accessFlags := 1, nameIndex := 399, descriptorIndex := 400, attributes := #[] }, { accessFlags := 4161, nameIndex := 345, descriptorIndex := 156, attributes := #[] }] 49 2 #[349, 351, 353, 355] #[{ accessFlags := 24, nameIndex := 357, descriptorIndex := 358, attributes := #[] }])
  fields := #[{ name := "serialVersionUID", type := .long, accessFlags := 24, slot := 0, constantValue := 0 }]
  methods := #[k12m0, k12m1, k12m2, k12m3]
  instanceTypes := #[(.array .byte), .byte, .boolean, .int]
  staticTypes := #[.long]
  resolved := Array.replicate 422 none
  statics := none }

def pool13 : Array CpInfo := pool [(2, .class_ 4), (1, u "java/lang/Object"), (0, u "<init>"), (0, u "()V"), (1, .class_ 10), (1, u "java/lang/System"), (0, u "allowSecurityManager"), (0, u "I"), (16, u "cons"), (0, u "Ljava/io/Console;"), (77, .class_ 110), (1, u "java/lang/System$CallersHolder"), (43, u "initialErrStream"), (0, u "Ljava/io/PrintStream;"), (19, u "security"), (0, u "Ljava/lang/SecurityManager;"), (31, .class_ 209), (0, u "java/lang/System$1"), (7, u "props"), (0, u "Ljava/util/Properties;"), (2, u "lineSeparator"), (0, u "Ljava/lang/String;"), (96, .class_ 321), (1, u "java/lang/System$LoggerFinder"), (5, .class_ 328), (0, u "java/lang/System$Logger"), (67, u "err"), (2, u "out"), (91, u "notSupportedJnuEncoding"), (15, u "in"), (17, u "initialIn"), (0, u "Ljava/io/InputStream;"), (35, u "bootLayer"), (0, u "Ljava/lang/ModuleLayer;"), (99, .class_ 664), (0, u "java/lang/System$2"), (9, u "NEVER"), (2, u "MAYBE"), (49, u "arraycopy"), (0, u "(Ljava/lang/Object;ILjava/lang/Object;II)V"), (72, .class_ 802), (0, u "java/lang/System$Logger$Level")] 31

def k13m0 : Method := { name := "<init>", desc := "()V", sig := { parameters := [], returnType := none }, accessFlags := 2, code := none }
def k13m1 : Method := { name := "arraycopy", desc := "(Ljava/lang/Object;ILjava/lang/Object;II)V", sig := { parameters := [(.object "java/lang/Object"), .int, (.object "java/lang/Object"), .int, .int], returnType := none }, accessFlags := 265, code := none }
/-- java/lang/System -/
def k13 : Class := { plain "java/lang/System" (some 0) with
  accessFlags := 49
  interfaces := #[]
  cf := some (fileOf pool13 8 #[.nestMembers #[319, 327, 801, 108, 663, 208]] #[{ accessFlags := 2, nameIndex := 5, descriptorIndex := 6, attributes := #[] }, { accessFlags := 265, nameIndex := 727, descriptorIndex := 728, attributes := #[] }] 49 2 #[] #[{ accessFlags := 25, nameIndex := 507, descriptorIndex := 526, attributes := #[] }, { accessFlags := 25, nameIndex := 399, descriptorIndex := 155, attributes := #[] }, { accessFlags := 25, nameIndex := 396, descriptorIndex := 155, attributes := #[] }, { accessFlags := 10, nameIndex := 525, descriptorIndex := 526, attributes := #[] }, { accessFlags := 26, nameIndex := 674, descriptorIndex := 12, attributes := #[] }, { accessFlags := 26, nameIndex := 677, descriptorIndex := 12, attributes := #[] }, { accessFlags := 10, nameIndex := 11, descriptorIndex := 12, attributes := #[] }, { accessFlags := 74, nameIndex := 175, descriptorIndex := 176, attributes := #[] }, { accessFlags := 10, nameIndex := 491, descriptorIndex := 222, attributes := #[] }, { accessFlags := 74, nameIndex := 29, descriptorIndex := 30, attributes := #[] }, { accessFlags := 74, nameIndex := 154, descriptorIndex := 155, attributes := #[] }, { accessFlags := 10, nameIndex := 217, descriptorIndex := 218, attributes := #[] }, { accessFlags := 10, nameIndex := 221, descriptorIndex := 222, attributes := #[] }, { accessFlags := 8, nameIndex := 562, descriptorIndex := 563, attributes := #[] }])
  fields := #[{ name := "in", type := (.object "java/io/InputStream"), accessFlags := 25, slot := 0, constantValue := 0 }, { name := "out", type := (.object "java/io/PrintStream"), accessFlags := 25, slot := 1, constantValue := 0 }, { name := "err", type := (.object "java/io/PrintStream"), accessFlags := 25, slot := 2, constantValue := 0 }, { name := "initialIn", type := (.object "java/io/InputStream"), accessFlags := 10, slot := 3, constantValue := 0 }, { name := "NEVER", type := .int, accessFlags := 26, slot := 4, constantValue := 0 }, { name := "MAYBE", type := .int, accessFlags := 26, slot := 5, constantValue := 0 }, { name := "allowSecurityManager", type := .int, accessFlags := 10, slot := 6, constantValue := 0 }, { name := "security", type := (.object "java/lang/SecurityManager"), accessFlags := 74, slot := 7, constantValue := 0 }, { name := "notSupportedJnuEncoding", type := (.object "java/lang/String"), accessFlags := 10, slot := 8, constantValue := 0 }, { name := "cons", type := (.object "java/io/Console"), accessFlags := 74, slot := 9, constantValue := 0 }, { name := "initialErrStream", type := (.object "java/io/PrintStream"), accessFlags := 74, slot := 10, constantValue := 0 }, { name := "props", type := (.object "java/util/Properties"), accessFlags := 10, slot := 11, constantValue := 0 }, { name := "lineSeparator", type := (.object "java/lang/String"), accessFlags := 10, slot := 12, constantValue := 0 }, { name := "bootLayer", type := (.object "java/lang/ModuleLayer"), accessFlags := 8, slot := 13, constantValue := 0 }]
  methods := #[k13m0, k13m1]
  instanceTypes := #[]
  staticTypes := #[(.object "java/io/InputStream"), (.object "java/io/PrintStream"), (.object "java/io/PrintStream"), (.object "java/io/InputStream"), .int, .int, .int, (.object "java/lang/SecurityManager"), (.object "java/lang/String"), (.object "java/io/Console"), (.object "java/io/PrintStream"), (.object "java/util/Properties"), (.object "java/lang/String"), (.object "java/lang/ModuleLayer")]
  resolved := Array.replicate 834 none
  statics := none }

def pool14 : Array CpInfo := pool [(2, .class_ 4), (1, u "java/lang/Object"), (0, u "<init>"), (0, u "()V"), (7, .class_ 16), (1, u "java/util/Arrays"), (57, .class_ 76), (1, u "java/util/Arrays$NaturalOrder"), (36, .class_ 115), (1, u "java/util/Arrays$LegacyMergeSort"), (1, u "Z"), (21, u "copyOfRange"), (10, .methodref 151 152), (0, .class_ 153), (0, .nameAndType 154 155), (0, u "java/lang/System"), (0, u "arraycopy"), (0, u "(Ljava/lang/Object;ILjava/lang/Object;II)V"), (148, .methodref 305 306), (0, .class_ 307), (0, .nameAndType 308 309), (0, u "java/lang/Math"), (0, u "min"), (0, u "(II)I"), (29, .methodref 14 340), (0, .nameAndType 341 342), (0, u "copyOfRangeByte"), (0, u "([BII)[B"), (0, .methodref 14 344), (0, .nameAndType 345 346), (0, u "checkLength"), (0, u "(II)V"), (28, .class_ 376), (0, u "java/util/Arrays$ArrayList"), (68, u "$assertionsDisabled"), (269, u "MIN_ARRAY_SORT_GRAN"), (0, u "I"), (2, u "INSERTIONSORT_THRESHOLD"), (255, .class_ 976), (0, u "java/util/Arrays$ArrayItr")] 52

def k14m0 : Method := { name := "<init>", desc := "()V", sig := { parameters := [], returnType := none }, accessFlags := 2, code := none }
def k14c1 : Code := { maxStack := 4, maxLocals := 2, code := jdk_65_method_131_code, exceptionTable := #[], attributes := #[] }
def k14m1 : Method := { name := "checkLength", desc := "(II)V", sig := { parameters := [.int, .int], returnType := none }, accessFlags := 10, code := some k14c1 }
def k14c2 : Code := { maxStack := 3, maxLocals := 3, code := jdk_65_method_132_code, exceptionTable := #[], attributes := #[] }
def k14m2 : Method := { name := "copyOfRange", desc := "([BII)[B", sig := { parameters := [(.array .byte), .int, .int], returnType := some (.array .byte) }, accessFlags := 9, code := some k14c2 }
def k14c3 : Code := { maxStack := 6, maxLocals := 5, code := jdk_65_method_133_code, exceptionTable := #[], attributes := #[] }
def k14m3 : Method := { name := "copyOfRangeByte", desc := "([BII)[B", sig := { parameters := [(.array .byte), .int, .int], returnType := some (.array .byte) }, accessFlags := 10, code := some k14c3 }
/-- java/util/Arrays -/
def k14 : Class := { plain "java/util/Arrays" (some 0) with
  accessFlags := 49
  interfaces := #[]
  cf := some (fileOf pool14 14 #[.nestMembers #[975, 375, 113, 74]] #[{ accessFlags := 2, nameIndex := 5, descriptorIndex := 6, attributes := #[] }, { accessFlags := 10, nameIndex := 345, descriptorIndex := 346, attributes := #[] }, { accessFlags := 9, nameIndex := 139, descriptorIndex := 342, attributes := #[] }, { accessFlags := 10, nameIndex := 341, descriptorIndex := 342, attributes := #[] }] 49 2 #[] #[{ accessFlags := 26, nameIndex := 715, descriptorIndex := 716, attributes := #[] }, { accessFlags := 26, nameIndex := 719, descriptorIndex := 716, attributes := #[] }, { accessFlags := 4120, nameIndex := 445, descriptorIndex := 117, attributes := #[] }])
  fields := #[{ name := "MIN_ARRAY_SORT_GRAN", type := .int, accessFlags := 26, slot := 0, constantValue := 0 }, { name := "INSERTIONSORT_THRESHOLD", type := .int, accessFlags := 26, slot := 1, constantValue := 0 }, { name := "$assertionsDisabled", type := .boolean, accessFlags := 4120, slot := 2, constantValue := 0 }]
  methods := #[k14m0, k14m1, k14m2, k14m3]
  instanceTypes := #[]
  staticTypes := #[.int, .int, .boolean]
  resolved := Array.replicate 1029 none
  statics := none }

def pool15 : Array CpInfo := pool [(1, .class_ 2), (0, u "java/lang/Math"), (1, .class_ 6), (1, u "java/lang/Object"), (0, u "<init>"), (0, u "()V"), (89, .class_ 100), (1, u "java/lang/Math$RandomNumberGeneratorHolder"), (71, u "negativeZeroFloatBits"), (0, u "J"), (2, u "negativeZeroDoubleBits"), (24, u "min"), (43, u "$assertionsDisabled"), (0, u "Z"), (88, u "(II)I"), (2, u "twoToTheDoubleScaleDown"), (0, u "D"), (4, u "twoToTheDoubleScaleUp"), (9, u "E"), (3, u "PI"), (2, u "TAU"), (2, u "DEGREES_TO_RADIANS"), (0, u "RADIANS_TO_DEGREES")] 94

def k15m0 : Method := { name := "<init>", desc := "()V", sig := { parameters := [], returnType := none }, accessFlags := 2, code := none }
def k15c1 : Code := { maxStack := 2, maxLocals := 2, code := jdk_29_method_69_code, exceptionTable := #[], attributes := #[] }
def k15m1 : Method := { name := "min", desc := "(II)I", sig := { parameters := [.int, .int], returnType := some .int }, accessFlags := 9, code := some k15c1 }
/-- java/lang/Math -/
def k15 : Class := { plain "java/lang/Math" (some 0) with
  accessFlags := 49
  interfaces := #[]
  cf := some (fileOf pool15 1 #[.nestMembers #[98]] #[{ accessFlags := 2, nameIndex := 7, descriptorIndex := 8, attributes := #[] }, { accessFlags := 9, nameIndex := 201, descriptorIndex := 335, attributes := #[] }] 49 4 #[] #[{ accessFlags := 25, nameIndex := 354, descriptorIndex := 339, attributes := #[] }, { accessFlags := 25, nameIndex := 358, descriptorIndex := 339, attributes := #[] }, { accessFlags := 25, nameIndex := 361, descriptorIndex := 339, attributes := #[] }, { accessFlags := 26, nameIndex := 364, descriptorIndex := 339, attributes := #[] }, { accessFlags := 26, nameIndex := 365, descriptorIndex := 339, attributes := #[] }, { accessFlags := 26, nameIndex := 172, descriptorIndex := 173, attributes := #[] }, { accessFlags := 26, nameIndex := 176, descriptorIndex := 173, attributes := #[] }, { accessFlags := 8, nameIndex := 344, descriptorIndex := 339, attributes := #[] }, { accessFlags := 8, nameIndex := 338, descriptorIndex := 339, attributes := #[] }, { accessFlags := 4120, nameIndex := 245, descriptorIndex := 246, attributes := #[] }])
  fields := #[{ name := "E", type := .double, accessFlags := 25, slot := 0, constantValue := 0 }, { name := "PI", type := .double, accessFlags := 25, slot := 1, constantValue := 0 }, { name := "TAU", type := .double, accessFlags := 25, slot := 2, constantValue := 0 }, { name := "DEGREES_TO_RADIANS", type := .double, accessFlags := 26, slot := 3, constantValue := 0 }, { name := "RADIANS_TO_DEGREES", type := .double, accessFlags := 26, slot := 4, constantValue := 0 }, { name := "negativeZeroFloatBits", type := .long, accessFlags := 26, slot := 5, constantValue := 0 }, { name := "negativeZeroDoubleBits", type := .long, accessFlags := 26, slot := 6, constantValue := 0 }, { name := "twoToTheDoubleScaleUp", type := .double, accessFlags := 8, slot := 7, constantValue := 0 }, { name := "twoToTheDoubleScaleDown", type := .double, accessFlags := 8, slot := 8, constantValue := 0 }, { name := "$assertionsDisabled", type := .boolean, accessFlags := 4120, slot := 9, constantValue := 0 }]
  methods := #[k15m0, k15m1]
  instanceTypes := #[]
  staticTypes := #[.double, .double, .double, .double, .double, .long, .long, .double, .double, .boolean]
  resolved := Array.replicate 460 none
  statics := none }

def pool16 : Array CpInfo := pool [(1, .class_ 2), (0, u "java/lang/String"), (1, .class_ 6), (1, u "java/lang/Object"), (0, u "<init>"), (0, u "()V"), (0, .methodref 1 10), (0, .nameAndType 11 12), (0, u "checkIndex"), (0, u "(II)V"), (1, .class_ 16), (1, u "java/lang/StringLatin1"), (36, u "([BI)C"), (67, u "$assertionsDisabled"), (0, u "Z"), (98, .class_ 223), (1, u "java/lang/StringLatin1$LinesSpliterator"), (28, u "charAt"), (137, .class_ 391), (0, u "java/lang/StringLatin1$CharsSpliterator")] 3

def k16m0 : Method := { name := "<init>", desc := "()V", sig := { parameters := [], returnType := none }, accessFlags := 0, code := none }
def k16c1 : Code := { maxStack := 2, maxLocals := 2, code := jdk_43_method_2_code, exceptionTable := #[], attributes := #[] }
def k16m1 : Method := { name := "charAt", desc := "([BI)C", sig := { parameters := [(.array .byte), .int], returnType := some .char }, accessFlags := 9, code := some k16c1 }
/-- java/lang/StringLatin1 -/
def k16 : Class := { plain "java/lang/StringLatin1" (some 0) with
  accessFlags := 48
  interfaces := #[]
  cf := some (fileOf pool16 14 #[.nestMembers #[390, 221]] #[{ accessFlags := 0, nameIndex := 7, descriptorIndex := 8, attributes := #[] }, { accessFlags := 9, nameIndex := 252, descriptorIndex := 53, attributes := #[] }] 48 4 #[] #[{ accessFlags := 4120, nameIndex := 121, descriptorIndex := 122, attributes := #[] }])
  fields := #[{ name := "$assertionsDisabled", type := .boolean, accessFlags := 4120, slot := 0, constantValue := 0 }]
  methods := #[k16m0, k16m1]
  instanceTypes := #[]
  staticTypes := #[.boolean]
  resolved := Array.replicate 395 none
  statics := none }

def pool17 : Array CpInfo := pool [(2, .class_ 4), (1, u "java/lang/Object"), (0, u "<init>"), (0, u "()V"), (17, .class_ 26), (1, u "jdk/internal/util/Preconditions"), (6, u "checkIndex"), (21, .class_ 56), (0, u "jdk/internal/util/Preconditions$4"), (57, .class_ 115), (0, u "jdk/internal/util/Preconditions$1"), (7, u "SIOOBE_FORMATTER"), (0, u "Ljava/util/function/BiFunction;"), (0, .class_ 126), (0, u "jdk/internal/util/Preconditions$2"), (3, u "AIOOBE_FORMATTER"), (0, .class_ 132), (0, u "jdk/internal/util/Preconditions$3"), (3, u "IOOBE_FORMATTER"), (41, u "(IILjava/util/function/BiFunction;)I")] 15

def k17m0 : Method := { name := "<init>", desc := "()V", sig := { parameters := [], returnType := none }, accessFlags := 1, code := none }
def k17c1 : Code := { maxStack := 3, maxLocals := 3, code := jdk_41_method_11_code, exceptionTable := #[], attributes := #[] }
def k17m1 : Method := { name := "checkIndex", desc := "(IILjava/util/function/BiFunction;)I", sig := { parameters := [.int, .int, (.object "java/util/function/BiFunction")], returnType := some .int }, accessFlags := 9, code := some k17c1 }
/-- jdk/internal/util/Preconditions -/
def k17 : Class := { plain "jdk/internal/util/Preconditions" (some 0) with
  accessFlags := 33
  interfaces := #[]
  cf := some (fileOf pool17 24 #[.nestMembers #[55, 131, 125, 114]] #[{ accessFlags := 1, nameIndex := 5, descriptorIndex := 6, attributes := #[] }, { accessFlags := 9, nameIndex := 33, descriptorIndex := 178, attributes := #[] }] 33 2 #[] #[{ accessFlags := 25, nameIndex := 123, descriptorIndex := 124, attributes := #[] }, { accessFlags := 25, nameIndex := 130, descriptorIndex := 124, attributes := #[] }, { accessFlags := 25, nameIndex := 136, descriptorIndex := 124, attributes := #[] }])
  fields := #[{ name := "SIOOBE_FORMATTER", type := (.object "java/util/function/BiFunction"), accessFlags := 25, slot := 0, constantValue := 0 }, { name := "AIOOBE_FORMATTER", type := (.object "java/util/function/BiFunction"), accessFlags := 25, slot := 1, constantValue := 0 }, { name := "IOOBE_FORMATTER", type := (.object "java/util/function/BiFunction"), accessFlags := 25, slot := 2, constantValue := 0 }]
  methods := #[k17m0, k17m1]
  instanceTypes := #[]
  staticTypes := #[(.object "java/util/function/BiFunction"), (.object "java/util/function/BiFunction"), (.object "java/util/function/BiFunction")]
  resolved := Array.replicate 194 none
  statics := some 1 }

def pool18 : Array CpInfo := pool [(6, .class_ 8), (1, u "java/lang/Object"), (0, u "<init>"), (0, u "()V"), (1, .class_ 14), (1, u "java/lang/StringUTF16"), (31, u "$assertionsDisabled"), (0, u "Z"), (13, u "HI_BYTE_SHIFT"), (0, u "I"), (2, u "LO_BYTE_SHIFT"), (49, .methodref 12 116), (0, .nameAndType 117 118), (0, u "compress"), (0, u "([CI[BII)I"), (3, u "([CII)[B"), (138, u "coderFromArrayLen"), (0, u "([BI)B"), (106, .class_ 371), (1, u "java/lang/StringUTF16$LinesSpliterator"), (58, u "MAX_LENGTH"), (196, .class_ 628), (0, u "java/lang/StringUTF16$CodePointsSpliterator"), (0, .class_ 630), (0, u "java/lang/StringUTF16$CharsSpliterator")] 4

def k18m0 : Method := { name := "<init>", desc := "()V", sig := { parameters := [], returnType := none }, accessFlags := 0, code := none }
def k18c1 : Code := { maxStack := 2, maxLocals := 2, code := jdk_52_method_15_code, exceptionTable := #[], attributes := #[] }
def k18m1 : Method := { name := "coderFromArrayLen", desc := "([BI)B", sig := { parameters := [(.array .byte), .int], returnType := some .byte }, accessFlags := 8, code := some k18c1 }
def k18c2 : Code := { maxStack := 5, maxLocals := 6, code := jdk_52_method_16_code, exceptionTable := #[], attributes := #[] }
def k18m2 : Method := { name := "compress", desc := "([CII)[B", sig := { parameters := [(.array .char), .int, .int], returnType := some (.array .byte) }, accessFlags := 9, code := some k18c2 }
def k18c3 : Code := { maxStack := 3, maxLocals := 7, code := jdk_52_method_21_code, exceptionTable := #[], attributes := #[] }
def k18m3 : Method := { name := "compress", desc := "([CI[BII)I", sig := { parameters := [(.array .char), .int, (.array .byte), .int, .int], returnType := some .int }, accessFlags := 9, code := some k18c3 }
/-- java/lang/StringUTF16 -/
def k18 : Class := { plain "java/lang/StringUTF16" (some 0) with
  accessFlags := 48
  interfaces := #[]
  cf := some (fileOf pool18 12 #[.nestMembers #[627, 629, 369]] #[{ accessFlags := 0, nameIndex := 9, descriptorIndex := 10, attributes := #[] }, { accessFlags := 8, nameIndex := 261, descriptorIndex := 262, attributes := #[] }, { accessFlags := 9, nameIndex := 117, descriptorIndex := 122, attributes := #[] }, { accessFlags := 9, nameIndex := 117, descriptorIndex := 118, attributes := #[] }] 48 6 #[] #[{ accessFlags := 26, nameIndex := 61, descriptorIndex := 62, attributes := #[] }, { accessFlags := 26, nameIndex := 65, descriptorIndex := 62, attributes := #[] }, { accessFlags := 24, nameIndex := 430, descriptorIndex := 62, attributes := #[] }, { accessFlags := 4120, nameIndex := 46, descriptorIndex := 47, attributes := #[] }])
  fields := #[{ name := "HI_BYTE_SHIFT", type := .int, accessFlags := 26, slot := 0, constantValue := 0 }, { name := "LO_BYTE_SHIFT", type := .int, accessFlags := 26, slot := 1, constantValue := 0 }, { name := "MAX_LENGTH", type := .int, accessFlags := 24, slot := 2, constantValue := 0 }, { name := "$assertionsDisabled", type := .boolean, accessFlags := 4120, slot := 3, constantValue := 0 }]
  methods := #[k18m0, k18m1, k18m2, k18m3]
  instanceTypes := #[]
  staticTypes := #[.int, .int, .int, .boolean]
  resolved := Array.replicate 635 none
  statics := none }

def pool19 : Array CpInfo := pool [(9, u "<init>"), (6, .class_ 18), (1, u "java/lang/Object"), (0, u "()V"), (1, .class_ 23), (1, u "jdk/internal/util/ArraysSupport"), (0, u "LOG2_ARRAY_LONG_INDEX_SCALE"), (0, u "I"), (2, u "U"), (0, u "Ljdk/internal/misc/Unsafe;"), (8, u "BIG_ENDIAN"), (0, u "Z"), (8, u "LOG2_BYTE_BIT_SIZE"), (4, u "LOG2_ARRAY_INT_INDEX_SCALE"), (54, u "JLA"), (0, u "Ljdk/internal/access/JavaLangAccess;"), (11, u "LOG2_ARRAY_BOOLEAN_INDEX_SCALE"), (9, u "LOG2_ARRAY_BYTE_INDEX_SCALE"), (5, u "LOG2_ARRAY_CHAR_INDEX_SCALE"), (5, u "LOG2_ARRAY_SHORT_INDEX_SCALE"), (18, u "LOG2_ARRAY_FLOAT_INDEX_SCALE"), (24, u "LOG2_ARRAY_DOUBLE_INDEX_SCALE"), (89, u "T_BOOLEAN"), (2, u "T_CHAR"), (1, u "T_FLOAT"), (1, u "T_DOUBLE"), (1, u "T_BYTE"), (1, u "T_SHORT"), (1, u "T_INT"), (1, u "T_LONG"), (1, u "SOFT_MAX_ARRAY_LENGTH")] 83

def k19m0 : Method := { name := "<init>", desc := "()V", sig := { parameters := [], returnType := none }, accessFlags := 2, code := none }
/-- jdk/internal/util/ArraysSupport -/
def k19 : Class := { plain "jdk/internal/util/ArraysSupport" (some 0) with
  accessFlags := 33
  interfaces := #[]
  cf := some (fileOf pool19 21 #[] #[{ accessFlags := 2, nameIndex := 9, descriptorIndex := 19, attributes := #[] }] 33 16 #[] #[{ accessFlags := 24, nameIndex := 28, descriptorIndex := 29, attributes := #[] }, { accessFlags := 26, nameIndex := 38, descriptorIndex := 39, attributes := #[] }, { accessFlags := 25, nameIndex := 121, descriptorIndex := 25, attributes := #[] }, { accessFlags := 25, nameIndex := 131, descriptorIndex := 25, attributes := #[] }, { accessFlags := 25, nameIndex := 137, descriptorIndex := 25, attributes := #[] }, { accessFlags := 25, nameIndex := 143, descriptorIndex := 25, attributes := #[] }, { accessFlags := 25, nameIndex := 53, descriptorIndex := 25, attributes := #[] }, { accessFlags := 25, nameIndex := 24, descriptorIndex := 25, attributes := #[] }, { accessFlags := 25, nameIndex := 162, descriptorIndex := 25, attributes := #[] }, { accessFlags := 25, nameIndex := 187, descriptorIndex := 25, attributes := #[] }, { accessFlags := 26, nameIndex := 48, descriptorIndex := 25, attributes := #[] }, { accessFlags := 25, nameIndex := 277, descriptorIndex := 25, attributes := #[] }, { accessFlags := 25, nameIndex := 280, descriptorIndex := 25, attributes := #[] }, { accessFlags := 25, nameIndex := 282, descriptorIndex := 25, attributes := #[] }, { accessFlags := 25, nameIndex := 284, descriptorIndex := 25, attributes := #[] }, { accessFlags := 25, nameIndex := 286, descriptorIndex := 25, attributes := #[] }, { accessFlags := 25, nameIndex := 288, descriptorIndex := 25, attributes := #[] }, { accessFlags := 25, nameIndex := 290, descriptorIndex := 25, attributes := #[] }, { accessFlags := 25, nameIndex := 292, descriptorIndex := 25, attributes := #[] }, { accessFlags := 26, nameIndex := 108, descriptorIndex := 109, attributes := #[] }, { accessFlags := 25, nameIndex := 294, descriptorIndex := 25, attributes := #[] }])
  fields := #[{ name := "U", type := (.object "jdk/internal/misc/Unsafe"), accessFlags := 24, slot := 0, constantValue := 0 }, { name := "BIG_ENDIAN", type := .boolean, accessFlags := 26, slot := 1, constantValue := 0 }, { name := "LOG2_ARRAY_BOOLEAN_INDEX_SCALE", type := .int, accessFlags := 25, slot := 2, constantValue := 0 }, { name := "LOG2_ARRAY_BYTE_INDEX_SCALE", type := .int, accessFlags := 25, slot := 3, constantValue := 0 }, { name := "LOG2_ARRAY_CHAR_INDEX_SCALE", type := .int, accessFlags := 25, slot := 4, constantValue := 0 }, { name := "LOG2_ARRAY_SHORT_INDEX_SCALE", type := .int, accessFlags := 25, slot := 5, constantValue := 0 }, { name := "LOG2_ARRAY_INT_INDEX_SCALE", type := .int, accessFlags := 25, slot := 6, constantValue := 0 }, { name := "LOG2_ARRAY_LONG_INDEX_SCALE", type := .int, accessFlags := 25, slot := 7, constantValue := 0 }, { name := "LOG2_ARRAY_FLOAT_INDEX_SCALE", type := .int, accessFlags := 25, slot := 8, constantValue := 0 }, { name := "LOG2_ARRAY_DOUBLE_INDEX_SCALE", type := .int, accessFlags := 25, slot := 9, constantValue := 0 }, { name := "LOG2_BYTE_BIT_SIZE", type := .int, accessFlags := 26, slot := 10, constantValue := 0 }, { name := "T_BOOLEAN", type := .int, accessFlags := 25, slot := 11, constantValue := 0 }, { name := "T_CHAR", type := .int, accessFlags := 25, slot := 12, constantValue := 0 }, { name := "T_FLOAT", type := .int, accessFlags := 25, slot := 13, constantValue := 0 }, { name := "T_DOUBLE", type := .int, accessFlags := 25, slot := 14, constantValue := 0 }, { name := "T_BYTE", type := .int, accessFlags := 25, slot := 15, constantValue := 0 }, { name := "T_SHORT", type := .int, accessFlags := 25, slot := 16, constantValue := 0 }, { name := "T_INT", type := .int, accessFlags := 25, slot := 17, constantValue := 0 }, { name := "T_LONG", type := .int, accessFlags := 25, slot := 18, constantValue := 0 }, { name := "JLA", type := (.object "jdk/internal/access/JavaLangAccess"), accessFlags := 26, slot := 19, constantValue := 0 }, { name := "SOFT_MAX_ARRAY_LENGTH", type := .int, accessFlags := 25, slot := 20, constantValue := 0 }]
  methods := #[k19m0]
  instanceTypes := #[]
  staticTypes := #[(.object "jdk/internal/misc/Unsafe"), .boolean, .int, .int, .int, .int, .int, .int, .int, .int, .int, .int, .int, .int, .int, .int, .int, .int, .int, (.object "jdk/internal/access/JavaLangAccess"), .int]
  resolved := Array.replicate 378 none
  statics := none }

def pool20 : Array CpInfo := pool [(1, u "java/lang/Cloneable"), (0, .class_ 1), (0, u "java/lang/Object"), (0, .class_ 3)] 3

/-- java/lang/Cloneable -/
def k20 : Class := { plain "java/lang/Cloneable" (some 0) with
  accessFlags := 1537
  interfaces := #[]
  cf := some (fileOf pool20 2 #[] #[] 1537 4 #[] #[])
  fields := #[]
  methods := #[]
  instanceTypes := #[]
  staticTypes := #[]
  resolved := Array.replicate 8 none
  statics := none }

/-- the primitive byte -/
def k21 : Class := { plain "byte" none with kind := .primitive 'B', accessFlags := 0x411 }
/-- [B -/
def k22 : Class := { plain "[B" (some 0) with kind := .array 21 .byte, interfaces := #[20, 2], accessFlags := 1041 }

/-- the primitive char -/
def k23 : Class := { plain "char" none with kind := .primitive 'C', accessFlags := 0x411 }
/-- [C -/
def k24 : Class := { plain "[C" (some 0) with kind := .array 23 .char, interfaces := #[20, 2], accessFlags := 1041 }

/-- the primitive int -/
def k25 : Class := { plain "int" none with kind := .primitive 'I', accessFlags := 0x411 }
/-- [I -/
def k26 : Class := { plain "[I" (some 0) with kind := .array 25 .int, interfaces := #[20, 2], accessFlags := 1041 }

def heap : Heap := #[{ cls := 7, slots := #[.long 0, .int 1, .null, .int 0, .null, .int 0, .int 0], vm := .statics 7 },
  { cls := 17, slots := #[.null, .null, .null], vm := .statics 17 }]
def classes : Array Class := #[k0, k1, k2, k3, k4, k5, k6, k7, k8, k9, k10, k11, k12, k13, k14, k15, k16, k17, k18, k19, k20, k21, k22, k23, k24, k25, k26]
def interned : List (Array UInt16 × Addr) := []
def slotsUsed : Nat := 10
def theMethod : MethodId := ⟨1, 1⟩
def args0 : Array Value := #[.int 1, .int 65, .int 66, .int 67, .int 68]
def aboutOver (below : List Frame) : State where
  vm := { classes := classes, interned := interned.toArray }
  heap := heap
  slotsUsed := slotsUsed
  threads := #[{ frames := .invoking theMethod args0 :: below }]
def below0 : List Frame := [.native { method := ⟨0, 0⟩, args := #[] }]
def about1 : State := aboutOver below0
def p0 : Program := .bare "" "" ""
def e0 : Env := launch0.env 0 0 0
theorem w_frames : about1.frames = Frame.invoking theMethod args0 :: below0 := rfl
set_option maxRecDepth 65536 in
theorem w_args : argsFit about1.vm theMethod args0 = true := by decide +kernel
set_option maxRecDepth 65536 in
theorem w_heap : heapFits about1 = true := by decide +kernel
set_option maxRecDepth 65536 in
theorem w_runnable : about1.curStatus? = some .runnable := by decide +kernel
set_option maxRecDepth 65536 in
theorem w_alone : about1.alone = true := by decide +kernel
set_option maxRecDepth 65536 in
theorem w_named : about1.methodNamed? x = some theMethod := by decide +kernel
set_option maxRecDepth 65536 in
theorem w_hears : about1.hears theMethod below0 = true := by decide +kernel
set_option maxRecDepth 65536 in
theorem w_ripe : about1.ripe theMethod args0 below0 = true := by decide +kernel
theorem w_running : about1.status = .running := rfl
set_option maxRecDepth 65536 in
theorem w_room : about1.hasRoom e0.platform room_1 = true :=
  launch0.hasRoom_least _ room_1 (by decide +kernel) (by decide +kernel) (by decide +kernel) (by decide +kernel) (by decide +kernel) (by decide +kernel)
theorem allAtoms_all (ts : List Jvm.Cond) (a : Array Jvm.Value) (st : Jvm.State) : (allAtoms ts).before a st = ts.all (fun c => c.before a st) := by
  induction ts with
  | nil => rfl
  | cons c t ih =>
    show (Jvm.Cond.and c (allAtoms t)).before a st = _
    rw [Jvm.Cond.before_and, ih, List.all_cons]
def words1 : List Jvm.Cond := Jvm.Cond.code x code maxLocals ret :: tables_1
/-- a 'code' word, met by the world's own term for the bytes: nothing is compared byte by byte -/
theorem code_word {y : MethodName} {bytes : ByteArray} {mx : Nat} {rt : Option FieldType} {a : Array Value} {s : State} {m : MethodId} {meth : Method} {c : Code} (h1 : s.methodNamed? y = some m) (h2 : s.vm.method? m = some meth) (h3 : meth.code = some c) (h4 : c.code = bytes)
    (h5 : (c.maxLocals == mx && c.exceptionTable.isEmpty && decide (c.maxStack ≤ mostOperands) && decide (meth.sig.returnType = rt) && !meth.locks && decide (parseMethodDescriptor y.desc = some meth.sig)) = true) : (Jvm.Cond.code y bytes mx rt).before a s = true := by
  simp only [Bool.and_eq_true, beq_iff_eq, Bool.not_eq_true', decide_eq_true_eq] at h5
  obtain ⟨⟨⟨⟨⟨g1, g2⟩, g3⟩, g4⟩, g5⟩, g6⟩ := h5
  simp [Cond.before, Cond.holds, Cond.value, h1, h2, h3, h4, g1, g2, g3, g4, g5, g6]
def isCode : Jvm.Cond → Bool
  | .code _ _ _ _ => true
  | _ => false
theorem all_split {L : List Jvm.Cond} {P : Jvm.Cond → Bool} (h1 : L.all (fun c => isCode c || P c) = true) (h2 : ∀ c ∈ L.filter isCode, P c = true) : L.all P = true := by
  refine List.all_eq_true.mpr fun c hc => ?_
  have h := List.all_eq_true.mp h1 c hc
  rcases Bool.eq_false_or_eq_true (isCode c) with hi | hi
  · exact h2 c (List.mem_filter.mpr ⟨hc, hi⟩)
  · simpa [hi] using h
set_option maxRecDepth 65536 in
theorem w_c0 : (Jvm.Cond.code x code maxLocals ret).before args0 about1 = true := code_word (m := ⟨1, 1⟩) (meth := k1m1) (c := k1c1) (by decide +kernel) rfl rfl rfl (by decide +kernel)
set_option maxRecDepth 65536 in
theorem w_c1 : (Jvm.Cond.code ({ cls := "com/example/slatewipe/slatewipe/TableQualifiedNamePinLaw", name := "make", desc := "(ICC)Ljava/lang/String;" } : Jvm.MethodName) method_3_code (4 : Nat) (Option.some (Jvm.ClassFile.FieldType.object "java/lang/String"))).before args0 about1 = true := code_word (m := ⟨1, 2⟩) (meth := k1m2) (c := k1c2) (by decide +kernel) rfl rfl rfl (by decide +kernel)
set_option maxRecDepth 65536 in
theorem w_c2 : (Jvm.Cond.code ({ cls := "java/lang/String", name := "<init>", desc := "([C)V" } : Jvm.MethodName) jdk_42_method_3_code (2 : Nat) (Option.none : Option Jvm.ClassFile.FieldType)).before args0 about1 = true := code_word (m := ⟨7, 1⟩) (meth := k7m1) (c := k7c1) (by decide +kernel) rfl rfl rfl (by decide +kernel)
set_option maxRecDepth 65536 in
theorem w_c3 : (Jvm.Cond.code ({ cls := "java/lang/String", name := "<init>", desc := "([CIILjava/lang/Void;)V" } : Jvm.MethodName) jdk_42_method_149_code (6 : Nat) (Option.none : Option Jvm.ClassFile.FieldType)).before args0 about1 = true := code_word (m := ⟨7, 6⟩) (meth := k7m6) (c := k7c6) (by decide +kernel) rfl rfl rfl (by decide +kernel)
set_option maxRecDepth 65536 in
theorem w_c4 : (Jvm.Cond.code ({ cls := "java/lang/Object", name := "<init>", desc := "()V" } : Jvm.MethodName) object_method_1_code (1 : Nat) (Option.none : Option Jvm.ClassFile.FieldType)).before args0 about1 = true := code_word (m := ⟨0, 0⟩) (meth := k0m0) (c := k0c0) (by decide +kernel) rfl rfl rfl (by decide +kernel)
set_option maxRecDepth 65536 in
theorem w_c5 : (Jvm.Cond.code ({ cls := "com/example/slatewipe/slatewipe/Table", name := "<init>", desc := "(Ljava/lang/String;Ljava/lang/String;)V" } : Jvm.MethodName) prog_16_method_1_code (3 : Nat) (Option.none : Option Jvm.ClassFile.FieldType)).before args0 about1 = true := code_word (m := ⟨9, 0⟩) (meth := k9m0) (c := k9c0) (by decide +kernel) rfl rfl rfl (by decide +kernel)
set_option maxRecDepth 65536 in
theorem w_c6 : (Jvm.Cond.code ({ cls := "java/lang/Record", name := "<init>", desc := "()V" } : Jvm.MethodName) jdk_30_method_1_code (1 : Nat) (Option.none : Option Jvm.ClassFile.FieldType)).before args0 about1 = true := code_word (m := ⟨8, 0⟩) (meth := k8m0) (c := k8c0) (by decide +kernel) rfl rfl rfl (by decide +kernel)
set_option maxRecDepth 65536 in
theorem w_c7 : (Jvm.Cond.code ({ cls := "com/example/slatewipe/slatewipe/Table", name := "qualifiedName", desc := "()Ljava/lang/String;" } : Jvm.MethodName) prog_16_method_2_code (1 : Nat) (Option.some (Jvm.ClassFile.FieldType.object "java/lang/String"))).before args0 about1 = true := code_word (m := ⟨9, 1⟩) (meth := k9m1) (c := k9c1) (by decide +kernel) rfl rfl rfl (by decide +kernel)
set_option maxRecDepth 65536 in
theorem w_c8 : (Jvm.Cond.code ({ cls := "java/lang/StringBuilder", name := "<init>", desc := "()V" } : Jvm.MethodName) jdk_67_method_1_code (1 : Nat) (Option.none : Option Jvm.ClassFile.FieldType)).before args0 about1 = true := code_word (m := ⟨12, 0⟩) (meth := k12m0) (c := k12c0) (by decide +kernel) rfl rfl rfl (by decide +kernel)
set_option maxRecDepth 65536 in
theorem w_c9 : (Jvm.Cond.code ({ cls := "java/lang/AbstractStringBuilder", name := "<init>", desc := "(I)V" } : Jvm.MethodName) jdk_68_method_2_code (2 : Nat) (Option.none : Option Jvm.ClassFile.FieldType)).before args0 about1 = true := code_word (m := ⟨11, 1⟩) (meth := k11m1) (c := k11c1) (by decide +kernel) rfl rfl rfl (by decide +kernel)
set_option maxRecDepth 65536 in
theorem w_c10 : (Jvm.Cond.code ({ cls := "java/lang/StringBuilder", name := "append", desc := "(Ljava/lang/String;)Ljava/lang/StringBuilder;" } : Jvm.MethodName) jdk_67_method_7_code (2 : Nat) (Option.some (Jvm.ClassFile.FieldType.object "java/lang/StringBuilder"))).before args0 about1 = true := code_word (m := ⟨12, 1⟩) (meth := k12m1) (c := k12c1) (by decide +kernel) rfl rfl rfl (by decide +kernel)
set_option maxRecDepth 65536 in
theorem w_c11 : (Jvm.Cond.code ({ cls := "java/lang/AbstractStringBuilder", name := "append", desc := "(Ljava/lang/String;)Ljava/lang/AbstractStringBuilder;" } : Jvm.MethodName) jdk_68_method_22_code (3 : Nat) (Option.some (Jvm.ClassFile.FieldType.object "java/lang/AbstractStringBuilder"))).before args0 about1 = true := code_word (m := ⟨11, 4⟩) (meth := k11m4) (c := k11c4) (by decide +kernel) rfl rfl rfl (by decide +kernel)
set_option maxRecDepth 65536 in
theorem w_c12 : (Jvm.Cond.code ({ cls := "java/lang/String", name := "length", desc := "()I" } : Jvm.MethodName) jdk_42_method_54_code (1 : Nat) (Option.some Jvm.ClassFile.FieldType.int)).before args0 about1 = true := code_word (m := ⟨7, 3⟩) (meth := k7m3) (c := k7c3) (by decide +kernel) rfl rfl rfl (by decide +kernel)
set_option maxRecDepth 65536 in
theorem w_c13 : (Jvm.Cond.code ({ cls := "java/lang/String", name := "coder", desc := "()B" } : Jvm.MethodName) jdk_42_method_152_code (1 : Nat) (Option.some Jvm.ClassFile.FieldType.byte)).before args0 about1 = true := code_word (m := ⟨7, 8⟩) (meth := k7m8) (c := k7c8) (by decide +kernel) rfl rfl rfl (by decide +kernel)
set_option maxRecDepth 65536 in
theorem w_c14 : (Jvm.Cond.code ({ cls := "java/lang/AbstractStringBuilder", name := "ensureCapacityInternal", desc := "(I)V" } : Jvm.MethodName) jdk_68_method_9_code (3 : Nat) (Option.none : Option Jvm.ClassFile.FieldType)).before args0 about1 = true := code_word (m := ⟨11, 3⟩) (meth := k11m3) (c := k11c3) (by decide +kernel) rfl rfl rfl (by decide +kernel)
set_option maxRecDepth 65536 in
theorem w_c15 : (Jvm.Cond.code ({ cls := "java/lang/AbstractStringBuilder", name := "putStringAt", desc := "(ILjava/lang/String;)V" } : Jvm.MethodName) jdk_68_method_73_code (3 : Nat) (Option.none : Option Jvm.ClassFile.FieldType)).before args0 about1 = true := code_word (m := ⟨11, 8⟩) (meth := k11m8) (c := k11c8) (by decide +kernel) rfl rfl rfl (by decide +kernel)
set_option maxRecDepth 65536 in
theorem w_c16 : (Jvm.Cond.code ({ cls := "java/lang/AbstractStringBuilder", name := "inflateIfNeededFor", desc := "(Ljava/lang/String;)V" } : Jvm.MethodName) jdk_68_method_71_code (2 : Nat) (Option.none : Option Jvm.ClassFile.FieldType)).before args0 about1 = true := code_word (m := ⟨11, 7⟩) (meth := k11m7) (c := k11c7) (by decide +kernel) rfl rfl rfl (by decide +kernel)
set_option maxRecDepth 65536 in
theorem w_c17 : (Jvm.Cond.code ({ cls := "java/lang/String", name := "getBytes", desc := "([BIB)V" } : Jvm.MethodName) jdk_42_method_147_code (4 : Nat) (Option.none : Option Jvm.ClassFile.FieldType)).before args0 about1 = true := code_word (m := ⟨7, 5⟩) (meth := k7m5) (c := k7c5) (by decide +kernel) rfl rfl rfl (by decide +kernel)
set_option maxRecDepth 65536 in
theorem w_c18 : (Jvm.Cond.code ({ cls := "java/lang/StringBuilder", name := "toString", desc := "()Ljava/lang/String;" } : Jvm.MethodName) jdk_67_method_42_code (1 : Nat) (Option.some (Jvm.ClassFile.FieldType.object "java/lang/String"))).before args0 about1 = true := code_word (m := ⟨12, 2⟩) (meth := k12m2) (c := k12c2) (by decide +kernel) rfl rfl rfl (by decide +kernel)
set_option maxRecDepth 65536 in
theorem w_c19 : (Jvm.Cond.code ({ cls := "java/lang/String", name := "<init>", desc := "(Ljava/lang/StringBuilder;)V" } : Jvm.MethodName) jdk_42_method_53_code (2 : Nat) (Option.none : Option Jvm.ClassFile.FieldType)).before args0 about1 = true := code_word (m := ⟨7, 2⟩) (meth := k7m2) (c := k7c2) (by decide +kernel) rfl rfl rfl (by decide +kernel)
set_option maxRecDepth 65536 in
theorem w_c20 : (Jvm.Cond.code ({ cls := "java/lang/String", name := "<init>", desc := "(Ljava/lang/AbstractStringBuilder;Ljava/lang/Void;)V" } : Jvm.MethodName) jdk_42_method_150_code (5 : Nat) (Option.none : Option Jvm.ClassFile.FieldType)).before args0 about1 = true := code_word (m := ⟨7, 7⟩) (meth := k7m7) (c := k7c7) (by decide +kernel) rfl rfl rfl (by decide +kernel)
set_option maxRecDepth 65536 in
theorem w_c21 : (Jvm.Cond.code ({ cls := "java/lang/AbstractStringBuilder", name := "getValue", desc := "()[B" } : Jvm.MethodName) jdk_68_method_64_code (1 : Nat) (Option.some (Jvm.ClassFile.FieldType.array Jvm.ClassFile.FieldType.byte))).before args0 about1 = true := code_word (m := ⟨11, 5⟩) (meth := k11m5) (c := k11c5) (by decide +kernel) rfl rfl rfl (by decide +kernel)
set_option maxRecDepth 65536 in
theorem w_c22 : (Jvm.Cond.code ({ cls := "java/lang/StringBuilder", name := "length", desc := "()I" } : Jvm.MethodName) jdk_67_method_93_code (1 : Nat) (Option.some Jvm.ClassFile.FieldType.int)).before args0 about1 = true := code_word (m := ⟨12, 3⟩) (meth := k12m3) (c := k12c3) (by decide +kernel) rfl rfl rfl (by decide +kernel)
set_option maxRecDepth 65536 in
theorem w_c23 : (Jvm.Cond.code ({ cls := "java/lang/AbstractStringBuilder", name := "length", desc := "()I" } : Jvm.MethodName) jdk_68_method_6_code (1 : Nat) (Option.some Jvm.ClassFile.FieldType.int)).before args0 about1 = true := code_word (m := ⟨11, 2⟩) (meth := k11m2) (c := k11c2) (by decide +kernel) rfl rfl rfl (by decide +kernel)
set_option maxRecDepth 65536 in
theorem w_c24 : (Jvm.Cond.code ({ cls := "java/lang/AbstractStringBuilder", name := "isLatin1", desc := "()Z" } : Jvm.MethodName) jdk_68_method_68_code (1 : Nat) (Option.some Jvm.ClassFile.FieldType.boolean)).before args0 about1 = true := code_word (m := ⟨11, 6⟩) (meth := k11m6) (c := k11c6) (by decide +kernel) rfl rfl rfl (by decide +kernel)
set_option maxRecDepth 65536 in
theorem w_c25 : (Jvm.Cond.code ({ cls := "java/util/Arrays", name := "copyOfRange", desc := "([BII)[B" } : Jvm.MethodName) jdk_65_method_132_code (3 : Nat) (Option.some (Jvm.ClassFile.FieldType.array Jvm.ClassFile.FieldType.byte))).before args0 about1 = true := code_word (m := ⟨14, 2⟩) (meth := k14m2) (c := k14c2) (by decide +kernel) rfl rfl rfl (by decide +kernel)
set_option maxRecDepth 65536 in
theorem w_c26 : (Jvm.Cond.code ({ cls := "java/util/Arrays", name := "copyOfRangeByte", desc := "([BII)[B" } : Jvm.MethodName) jdk_65_method_133_code (5 : Nat) (Option.some (Jvm.ClassFile.FieldType.array Jvm.ClassFile.FieldType.byte))).before args0 about1 = true := code_word (m := ⟨14, 3⟩) (meth := k14m3) (c := k14c3) (by decide +kernel) rfl rfl rfl (by decide +kernel)
set_option maxRecDepth 65536 in
theorem w_c27 : (Jvm.Cond.code ({ cls := "java/util/Arrays", name := "checkLength", desc := "(II)V" } : Jvm.MethodName) jdk_65_method_131_code (2 : Nat) (Option.none : Option Jvm.ClassFile.FieldType)).before args0 about1 = true := code_word (m := ⟨14, 1⟩) (meth := k14m1) (c := k14c1) (by decide +kernel) rfl rfl rfl (by decide +kernel)
set_option maxRecDepth 65536 in
theorem w_c28 : (Jvm.Cond.code ({ cls := "java/lang/Math", name := "min", desc := "(II)I" } : Jvm.MethodName) jdk_29_method_69_code (2 : Nat) (Option.some Jvm.ClassFile.FieldType.int)).before args0 about1 = true := code_word (m := ⟨15, 1⟩) (meth := k15m1) (c := k15c1) (by decide +kernel) rfl rfl rfl (by decide +kernel)
set_option maxRecDepth 65536 in
theorem w_c29 : (Jvm.Cond.code ({ cls := "com/example/slatewipe/slatewipe/TableQualifiedNamePinLaw", name := "at", desc := "(Ljava/lang/String;IIICCCC)Z" } : Jvm.MethodName) method_4_code (10 : Nat) (Option.some Jvm.ClassFile.FieldType.boolean)).before args0 about1 = true := code_word (m := ⟨1, 3⟩) (meth := k1m3) (c := k1c3) (by decide +kernel) rfl rfl rfl (by decide +kernel)
set_option maxRecDepth 65536 in
theorem w_c30 : (Jvm.Cond.code ({ cls := "java/lang/String", name := "charAt", desc := "(I)C" } : Jvm.MethodName) jdk_42_method_56_code (2 : Nat) (Option.some Jvm.ClassFile.FieldType.char)).before args0 about1 = true := code_word (m := ⟨7, 4⟩) (meth := k7m4) (c := k7c4) (by decide +kernel) rfl rfl rfl (by decide +kernel)
set_option maxRecDepth 65536 in
theorem w_c31 : (Jvm.Cond.code ({ cls := "java/lang/String", name := "isLatin1", desc := "()Z" } : Jvm.MethodName) jdk_42_method_154_code (1 : Nat) (Option.some Jvm.ClassFile.FieldType.boolean)).before args0 about1 = true := code_word (m := ⟨7, 9⟩) (meth := k7m9) (c := k7c9) (by decide +kernel) rfl rfl rfl (by decide +kernel)
set_option maxRecDepth 65536 in
theorem w_c32 : (Jvm.Cond.code ({ cls := "java/lang/StringLatin1", name := "charAt", desc := "([BI)C" } : Jvm.MethodName) jdk_43_method_2_code (2 : Nat) (Option.some Jvm.ClassFile.FieldType.char)).before args0 about1 = true := code_word (m := ⟨16, 1⟩) (meth := k16m1) (c := k16c1) (by decide +kernel) rfl rfl rfl (by decide +kernel)
set_option maxRecDepth 65536 in
theorem w_c33 : (Jvm.Cond.code ({ cls := "java/lang/String", name := "checkIndex", desc := "(II)V" } : Jvm.MethodName) jdk_42_method_155_code (2 : Nat) (Option.none : Option Jvm.ClassFile.FieldType)).before args0 about1 = true := code_word (m := ⟨7, 10⟩) (meth := k7m10) (c := k7c10) (by decide +kernel) rfl rfl rfl (by decide +kernel)
set_option maxRecDepth 65536 in
theorem w_c34 : (Jvm.Cond.code ({ cls := "jdk/internal/util/Preconditions", name := "checkIndex", desc := "(IILjava/util/function/BiFunction;)I" } : Jvm.MethodName) jdk_41_method_11_code (3 : Nat) (Option.some Jvm.ClassFile.FieldType.int)).before args0 about1 = true := code_word (m := ⟨17, 1⟩) (meth := k17m1) (c := k17c1) (by decide +kernel) rfl rfl rfl (by decide +kernel)
set_option maxRecDepth 65536 in
theorem w_c35 : (Jvm.Cond.code ({ cls := "java/lang/StringUTF16", name := "compress", desc := "([CII)[B" } : Jvm.MethodName) jdk_52_method_16_code (6 : Nat) (Option.some (Jvm.ClassFile.FieldType.array Jvm.ClassFile.FieldType.byte))).before args0 about1 = true := code_word (m := ⟨18, 2⟩) (meth := k18m2) (c := k18c2) (by decide +kernel) rfl rfl rfl (by decide +kernel)
set_option maxRecDepth 65536 in
theorem w_c36 : (Jvm.Cond.code ({ cls := "java/lang/StringUTF16", name := "compress", desc := "([CI[BII)I" } : Jvm.MethodName) jdk_52_method_21_code (7 : Nat) (Option.some Jvm.ClassFile.FieldType.int)).before args0 about1 = true := code_word (m := ⟨18, 3⟩) (meth := k18m3) (c := k18c3) (by decide +kernel) rfl rfl rfl (by decide +kernel)
set_option maxRecDepth 65536 in
theorem w_c37 : (Jvm.Cond.code ({ cls := "java/lang/StringUTF16", name := "coderFromArrayLen", desc := "([BI)B" } : Jvm.MethodName) jdk_52_method_15_code (2 : Nat) (Option.some Jvm.ClassFile.FieldType.byte)).before args0 about1 = true := code_word (m := ⟨18, 1⟩) (meth := k18m1) (c := k18c1) (by decide +kernel) rfl rfl rfl (by decide +kernel)
def codes1 : List Jvm.Cond := [Jvm.Cond.code x code maxLocals ret, Jvm.Cond.code ({ cls := "com/example/slatewipe/slatewipe/TableQualifiedNamePinLaw", name := "make", desc := "(ICC)Ljava/lang/String;" } : Jvm.MethodName) method_3_code (4 : Nat) (Option.some (Jvm.ClassFile.FieldType.object "java/lang/String")), Jvm.Cond.code ({ cls := "java/lang/String", name := "<init>", desc := "([C)V" } : Jvm.MethodName) jdk_42_method_3_code (2 : Nat) (Option.none : Option Jvm.ClassFile.FieldType), Jvm.Cond.code ({ cls := "java/lang/String", name := "<init>", desc := "([CIILjava/lang/Void;)V" } : Jvm.MethodName) jdk_42_method_149_code (6 : Nat) (Option.none : Option Jvm.ClassFile.FieldType), Jvm.Cond.code ({ cls := "java/lang/Object", name := "<init>", desc := "()V" } : Jvm.MethodName) object_method_1_code (1 : Nat) (Option.none : Option Jvm.ClassFile.FieldType), Jvm.Cond.code ({ cls := "com/example/slatewipe/slatewipe/Table", name := "<init>", desc := "(Ljava/lang/String;Ljava/lang/String;)V" } : Jvm.MethodName) prog_16_method_1_code (3 : Nat) (Option.none : Option Jvm.ClassFile.FieldType), Jvm.Cond.code ({ cls := "java/lang/Record", name := "<init>", desc := "()V" } : Jvm.MethodName) jdk_30_method_1_code (1 : Nat) (Option.none : Option Jvm.ClassFile.FieldType), Jvm.Cond.code ({ cls := "com/example/slatewipe/slatewipe/Table", name := "qualifiedName", desc := "()Ljava/lang/String;" } : Jvm.MethodName) prog_16_method_2_code (1 : Nat) (Option.some (Jvm.ClassFile.FieldType.object "java/lang/String")), Jvm.Cond.code ({ cls := "java/lang/StringBuilder", name := "<init>", desc := "()V" } : Jvm.MethodName) jdk_67_method_1_code (1 : Nat) (Option.none : Option Jvm.ClassFile.FieldType), Jvm.Cond.code ({ cls := "java/lang/AbstractStringBuilder", name := "<init>", desc := "(I)V" } : Jvm.MethodName) jdk_68_method_2_code (2 : Nat) (Option.none : Option Jvm.ClassFile.FieldType), Jvm.Cond.code ({ cls := "java/lang/StringBuilder", name := "append", desc := "(Ljava/lang/String;)Ljava/lang/StringBuilder;" } : Jvm.MethodName) jdk_67_method_7_code (2 : Nat) (Option.some (Jvm.ClassFile.FieldType.object "java/lang/StringBuilder")), Jvm.Cond.code ({ cls := "java/lang/AbstractStringBuilder", name := "append", desc := "(Ljava/lang/String;)Ljava/lang/AbstractStringBuilder;" } : Jvm.MethodName) jdk_68_method_22_code (3 : Nat) (Option.some (Jvm.ClassFile.FieldType.object "java/lang/AbstractStringBuilder")), Jvm.Cond.code ({ cls := "java/lang/String", name := "length", desc := "()I" } : Jvm.MethodName) jdk_42_method_54_code (1 : Nat) (Option.some Jvm.ClassFile.FieldType.int), Jvm.Cond.code ({ cls := "java/lang/String", name := "coder", desc := "()B" } : Jvm.MethodName) jdk_42_method_152_code (1 : Nat) (Option.some Jvm.ClassFile.FieldType.byte), Jvm.Cond.code ({ cls := "java/lang/AbstractStringBuilder", name := "ensureCapacityInternal", desc := "(I)V" } : Jvm.MethodName) jdk_68_method_9_code (3 : Nat) (Option.none : Option Jvm.ClassFile.FieldType), Jvm.Cond.code ({ cls := "java/lang/AbstractStringBuilder", name := "putStringAt", desc := "(ILjava/lang/String;)V" } : Jvm.MethodName) jdk_68_method_73_code (3 : Nat) (Option.none : Option Jvm.ClassFile.FieldType), Jvm.Cond.code ({ cls := "java/lang/AbstractStringBuilder", name := "inflateIfNeededFor", desc := "(Ljava/lang/String;)V" } : Jvm.MethodName) jdk_68_method_71_code (2 : Nat) (Option.none : Option Jvm.ClassFile.FieldType), Jvm.Cond.code ({ cls := "java/lang/String", name := "getBytes", desc := "([BIB)V" } : Jvm.MethodName) jdk_42_method_147_code (4 : Nat) (Option.none : Option Jvm.ClassFile.FieldType), Jvm.Cond.code ({ cls := "java/lang/StringBuilder", name := "toString", desc := "()Ljava/lang/String;" } : Jvm.MethodName) jdk_67_method_42_code (1 : Nat) (Option.some (Jvm.ClassFile.FieldType.object "java/lang/String")), Jvm.Cond.code ({ cls := "java/lang/String", name := "<init>", desc := "(Ljava/lang/StringBuilder;)V" } : Jvm.MethodName) jdk_42_method_53_code (2 : Nat) (Option.none : Option Jvm.ClassFile.FieldType), Jvm.Cond.code ({ cls := "java/lang/String", name := "<init>", desc := "(Ljava/lang/AbstractStringBuilder;Ljava/lang/Void;)V" } : Jvm.MethodName) jdk_42_method_150_code (5 : Nat) (Option.none : Option Jvm.ClassFile.FieldType), Jvm.Cond.code ({ cls := "java/lang/AbstractStringBuilder", name := "getValue", desc := "()[B" } : Jvm.MethodName) jdk_68_method_64_code (1 : Nat) (Option.some (Jvm.ClassFile.FieldType.array Jvm.ClassFile.FieldType.byte)), Jvm.Cond.code ({ cls := "java/lang/StringBuilder", name := "length", desc := "()I" } : Jvm.MethodName) jdk_67_method_93_code (1 : Nat) (Option.some Jvm.ClassFile.FieldType.int), Jvm.Cond.code ({ cls := "java/lang/AbstractStringBuilder", name := "length", desc := "()I" } : Jvm.MethodName) jdk_68_method_6_code (1 : Nat) (Option.some Jvm.ClassFile.FieldType.int), Jvm.Cond.code ({ cls := "java/lang/AbstractStringBuilder", name := "isLatin1", desc := "()Z" } : Jvm.MethodName) jdk_68_method_68_code (1 : Nat) (Option.some Jvm.ClassFile.FieldType.boolean), Jvm.Cond.code ({ cls := "java/util/Arrays", name := "copyOfRange", desc := "([BII)[B" } : Jvm.MethodName) jdk_65_method_132_code (3 : Nat) (Option.some (Jvm.ClassFile.FieldType.array Jvm.ClassFile.FieldType.byte)), Jvm.Cond.code ({ cls := "java/util/Arrays", name := "copyOfRangeByte", desc := "([BII)[B" } : Jvm.MethodName) jdk_65_method_133_code (5 : Nat) (Option.some (Jvm.ClassFile.FieldType.array Jvm.ClassFile.FieldType.byte)), Jvm.Cond.code ({ cls := "java/util/Arrays", name := "checkLength", desc := "(II)V" } : Jvm.MethodName) jdk_65_method_131_code (2 : Nat) (Option.none : Option Jvm.ClassFile.FieldType), Jvm.Cond.code ({ cls := "java/lang/Math", name := "min", desc := "(II)I" } : Jvm.MethodName) jdk_29_method_69_code (2 : Nat) (Option.some Jvm.ClassFile.FieldType.int), Jvm.Cond.code ({ cls := "com/example/slatewipe/slatewipe/TableQualifiedNamePinLaw", name := "at", desc := "(Ljava/lang/String;IIICCCC)Z" } : Jvm.MethodName) method_4_code (10 : Nat) (Option.some Jvm.ClassFile.FieldType.boolean), Jvm.Cond.code ({ cls := "java/lang/String", name := "charAt", desc := "(I)C" } : Jvm.MethodName) jdk_42_method_56_code (2 : Nat) (Option.some Jvm.ClassFile.FieldType.char), Jvm.Cond.code ({ cls := "java/lang/String", name := "isLatin1", desc := "()Z" } : Jvm.MethodName) jdk_42_method_154_code (1 : Nat) (Option.some Jvm.ClassFile.FieldType.boolean), Jvm.Cond.code ({ cls := "java/lang/StringLatin1", name := "charAt", desc := "([BI)C" } : Jvm.MethodName) jdk_43_method_2_code (2 : Nat) (Option.some Jvm.ClassFile.FieldType.char), Jvm.Cond.code ({ cls := "java/lang/String", name := "checkIndex", desc := "(II)V" } : Jvm.MethodName) jdk_42_method_155_code (2 : Nat) (Option.none : Option Jvm.ClassFile.FieldType), Jvm.Cond.code ({ cls := "jdk/internal/util/Preconditions", name := "checkIndex", desc := "(IILjava/util/function/BiFunction;)I" } : Jvm.MethodName) jdk_41_method_11_code (3 : Nat) (Option.some Jvm.ClassFile.FieldType.int), Jvm.Cond.code ({ cls := "java/lang/StringUTF16", name := "compress", desc := "([CII)[B" } : Jvm.MethodName) jdk_52_method_16_code (6 : Nat) (Option.some (Jvm.ClassFile.FieldType.array Jvm.ClassFile.FieldType.byte)), Jvm.Cond.code ({ cls := "java/lang/StringUTF16", name := "compress", desc := "([CI[BII)I" } : Jvm.MethodName) jdk_52_method_21_code (7 : Nat) (Option.some Jvm.ClassFile.FieldType.int), Jvm.Cond.code ({ cls := "java/lang/StringUTF16", name := "coderFromArrayLen", desc := "([BI)B" } : Jvm.MethodName) jdk_52_method_15_code (2 : Nat) (Option.some Jvm.ClassFile.FieldType.byte)]
set_option maxRecDepth 65536 in
theorem codes_eq : words1.filter isCode = codes1 := rfl
theorem w_codes : ∀ c ∈ words1.filter isCode, c.before args0 about1 = true := by
  rw [codes_eq]
  intro c hc
  simp only [codes1, List.mem_cons, List.not_mem_nil, or_false] at hc
  rcases hc with rfl | rfl | rfl | rfl | rfl | rfl | rfl | rfl | rfl | rfl | rfl | rfl | rfl | rfl | rfl | rfl | rfl | rfl | rfl | rfl | rfl | rfl | rfl | rfl | rfl | rfl | rfl | rfl | rfl | rfl | rfl | rfl | rfl | rfl | rfl | rfl | rfl | rfl
  · exact w_c0
  · exact w_c1
  · exact w_c2
  · exact w_c3
  · exact w_c4
  · exact w_c5
  · exact w_c6
  · exact w_c7
  · exact w_c8
  · exact w_c9
  · exact w_c10
  · exact w_c11
  · exact w_c12
  · exact w_c13
  · exact w_c14
  · exact w_c15
  · exact w_c16
  · exact w_c17
  · exact w_c18
  · exact w_c19
  · exact w_c20
  · exact w_c21
  · exact w_c22
  · exact w_c23
  · exact w_c24
  · exact w_c25
  · exact w_c26
  · exact w_c27
  · exact w_c28
  · exact w_c29
  · exact w_c30
  · exact w_c31
  · exact w_c32
  · exact w_c33
  · exact w_c34
  · exact w_c35
  · exact w_c36
  · exact w_c37
set_option maxRecDepth 65536 in
theorem w_t1 : (words1.take 24).all (fun c => isCode c || c.before args0 about1) = true := by decide +kernel
set_option maxRecDepth 65536 in
theorem w_t2 : ((words1.drop 24).take 24).all (fun c => isCode c || c.before args0 about1) = true := by decide +kernel
set_option maxRecDepth 65536 in
theorem w_t3 : (((words1.drop 24).drop 24).take 24).all (fun c => isCode c || c.before args0 about1) = true := by decide +kernel
set_option maxRecDepth 65536 in
theorem w_t4 : ((((words1.drop 24).drop 24).drop 24).take 24).all (fun c => isCode c || c.before args0 about1) = true := by decide +kernel
set_option maxRecDepth 65536 in
theorem w_t5 : (((((words1.drop 24).drop 24).drop 24).drop 24).take 24).all (fun c => isCode c || c.before args0 about1) = true := by decide +kernel
set_option maxRecDepth 65536 in
theorem w_t6 : ((((((words1.drop 24).drop 24).drop 24).drop 24).drop 24).take 24).all (fun c => isCode c || c.before args0 about1) = true := by decide +kernel
set_option maxRecDepth 65536 in
theorem w_t7 : (((((((words1.drop 24).drop 24).drop 24).drop 24).drop 24).drop 24).take 24).all (fun c => isCode c || c.before args0 about1) = true := by decide +kernel
set_option maxRecDepth 65536 in
theorem w_t8 : ((((((((words1.drop 24).drop 24).drop 24).drop 24).drop 24).drop 24).drop 24).take 24).all (fun c => isCode c || c.before args0 about1) = true := by decide +kernel
set_option maxRecDepth 65536 in
theorem w_t9 : ((((((((words1.drop 24).drop 24).drop 24).drop 24).drop 24).drop 24).drop 24).drop 24).all (fun c => isCode c || c.before args0 about1) = true := by decide +kernel
theorem w_tables : (allAtoms (Jvm.Cond.code x code maxLocals ret :: tables_1)).before args0 about1 = true := by
  rw [allAtoms_all]
  show words1.all (fun c => c.before args0 about1) = true
  refine all_split ?_ w_codes
  rw [← List.take_append_drop 24 words1, List.all_append, w_t1, ← List.take_append_drop 24 (words1.drop 24), List.all_append, w_t2, ← List.take_append_drop 24 ((words1.drop 24).drop 24), List.all_append, w_t3, ← List.take_append_drop 24 (((words1.drop 24).drop 24).drop 24), List.all_append, w_t4, ← List.take_append_drop 24 ((((words1.drop 24).drop 24).drop 24).drop 24), List.all_append, w_t5, ← List.take_append_drop 24 (((((words1.drop 24).drop 24).drop 24).drop 24).drop 24), List.all_append, w_t6, ← List.take_append_drop 24 ((((((words1.drop 24).drop 24).drop 24).drop 24).drop 24).drop 24), List.all_append, w_t7, ← List.take_append_drop 24 (((((((words1.drop 24).drop 24).drop 24).drop 24).drop 24).drop 24).drop 24), List.all_append, w_t8, w_t9]
  rfl
set_option maxRecDepth 65536 in
theorem w_rest : rest_1_c.before args0 about1 = true := by decide +kernel
set_option maxRecDepth 65536 in
theorem w_case : (Jvm.Cond.and given_1 narrow_1).before args0 about1 = true := by decide +kernel
set_option maxRecDepth 65536 in
theorem w_consts : constsHeld consts_1 about1 := Jvm.Lit.constsHeldB_iff.mp (by decide +kernel)
theorem w_applies : (headSpec (Jvm.Cond.code x code maxLocals ret :: tables_1) room_1).applies x e0.platform about1 = true :=
  (Spec.applies_iff w_frames).mpr ⟨w_running, w_runnable, w_alone, w_named, w_hears, w_ripe, w_room, w_tables⟩
theorem atStart : AtStart classFile x code maxLocals ret World_1 tables_1 room_1 Calls_1 rest_1 Pre_1 launch0 p0 e0 about1 theMethod args0 below0 :=
  ⟨lists_1, trivial, launch0.admits_env _ _ _, launch0.least_env, fairChoices_fair.cas, fairChoices_fair.clock, w_frames, w_args, w_heap, w_applies, ⟨w_consts, trivial⟩, w_rest, w_case⟩
end start1
theorem witness_1 : WitnessClaimed_1 := ⟨start1.p0, start1.e0, start1.about1, start1.theMethod, start1.args0, start1.below0, start1.atStart⟩
end Jvm.Pilot.@@N@@
