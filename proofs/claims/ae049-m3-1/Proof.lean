import JvmDerived
import JvmDerived.Pilot.@@N@@Statement
import JvmDerived.Pilot.@@N@@Code
set_option linter.unusedVariables false
set_option linter.unusedSimpArgs false
namespace Jvm.Pilot.@@N@@
open Jvm Jvm.ClassFile Sem Op Lib Jvm.Free Jvm.Stand Jvm.LawKit Jvm.RoadKit Bundle Jvm.Pilot.@@N@@.Jvm.D
/-! my own words: Go (the run comes from T to a state with P), a step, a return -/
def Go (tb : Tables) (e : Env) (below : List Frame) (P : State → Prop) (T : State) : Prop := ∃ u, P u ∧ ∀ t, Steps tb e below u t → Steps tb e below T t
theorem Go.by' {tb : Tables} {e : Env} {below : List Frame} {P : State → Prop} {T T' : State} (h : ∀ t, Steps tb e below T' t → Steps tb e below T t) (k : Go tb e below P T') : Go tb e below P T :=
  k.elim fun u q => ⟨u, q.1, fun t z => h t (q.2 t z)⟩
theorem Go.cast {tb : Tables} {e : Env} {below : List Frame} {P : State → Prop} {T : State} {g g' : JFrame} (q : g = g') (k : Go tb e below P (T.setTop g')) : Go tb e below P (T.setTop g) := q ▸ k
theorem Go.castF {tb : Tables} {e : Env} {below : List Frame} {P : State → Prop} {T : State} {α : Type} (F : α → JFrame) {a b : α} (q : a = b) (k : Go tb e below P (T.setTop (F b))) : Go tb e below P (T.setTop (F a)) := q ▸ k
def Fin' (s : State) (below : List Frame) (ce sl : Nat) (Q : Option Value → Heap → List Loc → Prop) (u : State) : Prop := u.status = .running ∧ ∃ o, Ended u below o ∧ ∃ v L, o = .returned v ∧ Q v u.heap L ∧ FrameEnd s o u L ce sl
theorem Go.body {tb : Tables} {e : Env} {below : List Frame} {s : State} {ce sl : Nat} {Q : Option Value → Heap → List Loc → Prop} {T : State} (h : Go tb e below (Fin' s below ce sl Q) T) :
    ∃ s₂ o, Steps tb e below T s₂ ∧ s₂.status = .running ∧ Ended s₂ below o ∧ ∃ v L, o = .returned v ∧ Q v s₂.heap L ∧ FrameEnd s o s₂ L ce sl := by
  obtain ⟨u, ⟨h1, o, h2, h3⟩, h4⟩ := h
  exact ⟨u, o, h4 u (Steps.refl _), h1, h2, h3⟩
section OwnStand
variable {p : Program} {l : Launch} {e : Env} {R : Room} {s : State} {m : MethodId} {args : Array Value} {below : List Frame} {meth : Method} {c : Code} {T : State} {locs : List Loc} {cells slots : Nat}
def Like (X : Stand p l e R s m args below meth c T locs cells slots) (T' : State) : Prop := Stand p l e R s m args below meth c T' locs cells slots
theorem Go.out (X : Stand p l e R s m args below meth c T locs cells slots) {v : Option Value} (hv : meth.sig.returnType = none → v = none) (hlocks : meth.locks = false) {g : JFrame} {ce sl : Nat} {Q : Option Value → Heap → List Loc → Prop}
    (st : ∀ fs : List Frame, (∀ (f : JFrame) (acts : List Action), f.method = m → f.locked = none → f.entered = [] → (doReturn e (T.setTop f) acts v).1 = T.setFrames fs) → Steps p.tables e below (T.setTop g) (T.setFrames fs))
    (hc : cells ≤ ce) (hs : slots ≤ sl) (q : Q v T.heap locs) : Go p.tables e below (Fin' s below ce sl Q) (T.setTop g) := by
  obtain ⟨fs, hr, hrun, hended, hW, hsame⟩ := X.leave (v := v) hv hlocks
  exact ⟨T.setFrames fs, ⟨hrun, _, hended, v, locs, rfl, q, ⟨_, rfl⟩, hW, hsame.mono hc hs⟩, fun t k => (st fs hr).trans k⟩
theorem Go.retI' (X : Stand p l e R s m args below meth c T locs cells slots) (hx : p.tables.exec = Jvm.exec) {pc : Nat} {Ls : Array Slot} {z : Int32} {rest : List Value} {t : FieldType} (hret : meth.sig.returnType = some t) (hlocks : meth.locks = false)
    (ht : t = .int ∨ t = .boolean ∨ t = .byte ∨ t = .char ∨ t = .short) (hn : narrow t (.int z) = .int z) (hd : decode c.code pc = .ok (.ireturn, 1)) {ce sl : Nat} {Q : Option Value → Heap → List Loc → Prop} (hc : cells ≤ ce) (hs : slots ≤ sl) (q : Q (some (.int z)) T.heap locs) :
    Go p.tables e below (Fin' s below ce sl Q) (T.setTop (mkF m pc Ls (.int z :: rest))) :=
  Go.out X (fun h => by rw [hret] at h; cases h) hlocks (fun _ hl => retOut X hx hret hn (Or.inl ⟨rfl, ht, z, rfl⟩) hd hl) hc hs q
theorem Go.retA' (X : Stand p l e R s m args below meth c T locs cells slots) (hx : p.tables.exec = Jvm.exec) {pc : Nat} {Ls : Array Slot} {w : Value} {rest : List Value} {t : FieldType} (hret : meth.sig.returnType = some t) (hlocks : meth.locks = false)
    (ht : t.isReference = true) (hw : w.isRef = true) (hd : decode c.code pc = .ok (.areturn, 1)) {ce sl : Nat} {Q : Option Value → Heap → List Loc → Prop} (hc : cells ≤ ce) (hs : slots ≤ sl) (q : Q (some w) T.heap locs) :
    Go p.tables e below (Fin' s below ce sl Q) (T.setTop (mkF m pc Ls (w :: rest))) :=
  Go.out X (fun h => by rw [hret] at h; cases h) hlocks (fun _ hl => retOut X hx hret (by cases t <;> first | (cases ht; done) | (rcases ref_cases hw with rfl | ⟨z, rfl⟩ <;> rfl)) (Or.inr (Or.inr (Or.inr (Or.inr ⟨rfl, ht, hw⟩)))) hd hl) hc hs q
theorem Go.retD' (X : Stand p l e R s m args below meth c T locs cells slots) (hx : p.tables.exec = Jvm.exec) {pc : Nat} {Ls : Array Slot} {z : UInt64} {rest : List Value} (hret : meth.sig.returnType = some .double) (hlocks : meth.locks = false)
    (hd : decode c.code pc = .ok (.dreturn, 1)) {ce sl : Nat} {Q : Option Value → Heap → List Loc → Prop} (hc : cells ≤ ce) (hs : slots ≤ sl) (q : Q (some (.double z)) T.heap locs) :
    Go p.tables e below (Fin' s below ce sl Q) (T.setTop (mkF m pc Ls (.double z :: rest))) :=
  Go.out X (fun h => by rw [hret] at h; cases h) hlocks (fun _ hl => retOut X hx hret rfl (Or.inr (Or.inr (Or.inl ⟨rfl, rfl, z, rfl⟩))) hd hl) hc hs q
theorem Go.retV' (X : Stand p l e R s m args below meth c T locs cells slots) (hx : p.tables.exec = Jvm.exec) {pc : Nat} {Ls : Array Slot} (hret : meth.sig.returnType = none) (hlocks : meth.locks = false)
    (hd : decode c.code pc = .ok (.return_, 1)) {ce sl : Nat} {Q : Option Value → Heap → List Loc → Prop} (hc : cells ≤ ce) (hs : slots ≤ sl) (q : Q none T.heap locs) :
    Go p.tables e below (Fin' s below ce sl Q) (T.setTop (mkF m pc Ls [])) :=
  Go.out X (fun _ => rfl) hlocks (fun _ hl => X.returnOut hx hret hd hl) hc hs q
theorem own_nil (X : Stand p l e R s m args below meth c T (locs ++ []) cells slots) : Stand p l e R s m args below meth c T locs cells slots := by rw [List.append_nil] at X; exact X
theorem own_pack {k : Nat} (X : Stand p l e R s m args below meth c T locs cells slots) (N : Fr k locs) : ∃ ll, Stand p l e R s m args below meth c T ll cells slots ∧ Fr k ll := ⟨_, X, N⟩
end OwnStand
theorem own_nb {z : Int32} (h : z = 0 ∨ z = 1) : narrow .boolean (.int z) = .int z := by rcases h with rfl | rfl <;> rfl
theorem own_fb {z : Int32} (h : z = 0 ∨ z = 1) : fits .boolean (.int z) = true := by rcases h with rfl | rfl <;> rfl
theorem own_bb {x : Int32} : nar .byte (x.toInt8.toInt32) = x.toInt8.toInt32 := by show x.toInt8.toInt32.toInt8.toInt32 = x.toInt8.toInt32; simp
theorem own_nm (x : Int32) : nar .char (x &&& (255 : Int32)) = (x &&& (255 : Int32)) := i2c_mask x
theorem own_i2c {x : Int32} (h0 : ¬ x < (0 : Int32)) (h1 : ¬ (255 : Int32) < x) : x.toUInt32.toUInt16.toUInt32.toInt32 = x := by
  have a := c_i2c x
  have z0 : (0 : Int32).toInt = 0 := rfl
  have z1 : (255 : Int32).toInt = 255 := rfl
  rw [Int32.lt_iff_toInt_lt] at h0 h1
  rw [← Int32.toInt_inj]; omega
theorem own_nc {x : Int32} (h0 : ¬ x < (0 : Int32)) (h1 : ¬ (255 : Int32) < x) : nar .char x = x := own_i2c h0 h1
theorem own_b8 {x y : Int32} (h0 : ¬ x < (0 : Int32)) (h1 : ¬ (255 : Int32) < x) (h2 : ¬ y < (0 : Int32)) (h3 : ¬ (255 : Int32) < y) : (x.toInt8.toInt32) = (y.toInt8.toInt32) ↔ x = y := by
  have a := c_i2b x
  have b := c_i2b y
  have z0 : (0 : Int32).toInt = 0 := rfl
  have z1 : (255 : Int32).toInt = 255 := rfl
  rw [Int32.lt_iff_toInt_lt] at h0 h1 h2 h3
  rw [← Int32.toInt_inj, ← Int32.toInt_inj]; omega
theorem own_m (x : Int32) : ¬ (x &&& (255 : Int32)) < (0 : Int32) ∧ ¬ (255 : Int32) < (x &&& (255 : Int32)) := by
  have h := c_mask x 255 8 (by decide) (by decide)
  have z0 : (0 : Int32).toInt = 0 := rfl
  have z1 : (255 : Int32).toInt = 255 := rfl
  rw [Int32.lt_iff_toInt_lt, Int32.lt_iff_toInt_lt]; omega
theorem own_le {Z : State} {n0 : Nat} {h : Heap} (X : Old Z n0 h) : n0 ≤ h.size := X.1 ▸ X.2.1
def Gh (Z : State) (w0 : Addr) (w1 : Addr) (w2 : Addr) (w3 : Addr) (w4 : Addr) (w5 : Addr) (w6 : Addr) (w7 : Addr) (w8 : Addr) (w9 : Addr) (w10 : Addr) (w11 : Addr) (w12 : Addr) (w13 : Addr) (w14 : Addr) (w15 : Addr) (w16 : Addr) (w17 : Addr) (w18 : Addr) (w19 : Addr) : Prop := (Sta Z Z.heap "com/example/kull/kull/prune/PruningStrategy" "PP" "Lcom/example/kull/kull/prune/PruningStrategy;" (.ref w0)) ∧ (Exa Z Z.heap w0 "com/example/kull/kull/prune/PruningStrategy") ∧ (Sta Z Z.heap "com/example/kull/kull/prune/PruningStrategy" "PP_QV" "Lcom/example/kull/kull/prune/PruningStrategy;" (.ref w1)) ∧ (Exa Z Z.heap w1 "com/example/kull/kull/prune/PruningStrategy") ∧ (Sta Z Z.heap "com/example/kull/kull/prune/PruningStrategy" "TCP" "Lcom/example/kull/kull/prune/PruningStrategy;" (.ref w2)) ∧ (Exa Z Z.heap w2 "com/example/kull/kull/prune/PruningStrategy") ∧ (Sta Z Z.heap "com/example/kull/kull/prune/PruningStrategy" "TCP_QV" "Lcom/example/kull/kull/prune/PruningStrategy;" (.ref w3)) ∧ (Exa Z Z.heap w3 "com/example/kull/kull/prune/PruningStrategy") ∧ (Sta Z Z.heap "com/example/kull/kull/prune/PruningStrategy" "DCP" "Lcom/example/kull/kull/prune/PruningStrategy;" (.ref w4)) ∧ (Exa Z Z.heap w4 "com/example/kull/kull/prune/PruningStrategy") ∧ (Sta Z Z.heap "com/example/kull/kull/prune/PruningStrategy" "DCP_QV" "Lcom/example/kull/kull/prune/PruningStrategy;" (.ref w5)) ∧ (Exa Z Z.heap w5 "com/example/kull/kull/prune/PruningStrategy") ∧ (Sta Z Z.heap "com/example/kull/kull/prune/PruningStrategy" "ATCP" "Lcom/example/kull/kull/prune/PruningStrategy;" (.ref w6)) ∧ (Exa Z Z.heap w6 "com/example/kull/kull/prune/PruningStrategy") ∧ (Sta Z Z.heap "com/example/kull/kull/prune/PruningStrategy" "ATCP_QV" "Lcom/example/kull/kull/prune/PruningStrategy;" (.ref w7)) ∧ (Exa Z Z.heap w7 "com/example/kull/kull/prune/PruningStrategy") ∧ (Sta Z Z.heap "com/example/kull/kull/prune/PruningStrategy" "ADCP" "Lcom/example/kull/kull/prune/PruningStrategy;" (.ref w8)) ∧ (Exa Z Z.heap w8 "com/example/kull/kull/prune/PruningStrategy") ∧ (Sta Z Z.heap "com/example/kull/kull/prune/PruningStrategy" "ADCP_QV" "Lcom/example/kull/kull/prune/PruningStrategy;" (.ref w9)) ∧ (Exa Z Z.heap w9 "com/example/kull/kull/prune/PruningStrategy") ∧ (Sta Z Z.heap "com/example/kull/kull/prune/PruningStrategy" "EKS" "Lcom/example/kull/kull/prune/PruningStrategy;" (.ref w10)) ∧ (Exa Z Z.heap w10 "com/example/kull/kull/prune/PruningStrategy") ∧ (Sta Z Z.heap "com/example/kull/kull/prune/PruningStrategy" "PP_TCP" "Lcom/example/kull/kull/prune/PruningStrategy;" (.ref w11)) ∧ (Exa Z Z.heap w11 "com/example/kull/kull/prune/PruningStrategy") ∧ (Sta Z Z.heap "com/example/kull/kull/prune/PruningStrategy" "PP_TCP_QV" "Lcom/example/kull/kull/prune/PruningStrategy;" (.ref w12)) ∧ (Exa Z Z.heap w12 "com/example/kull/kull/prune/PruningStrategy") ∧ (Sta Z Z.heap "com/example/kull/kull/prune/PruningStrategy" "PP_DCP" "Lcom/example/kull/kull/prune/PruningStrategy;" (.ref w13)) ∧ (Exa Z Z.heap w13 "com/example/kull/kull/prune/PruningStrategy") ∧ (Sta Z Z.heap "com/example/kull/kull/prune/PruningStrategy" "PP_DCP_QV" "Lcom/example/kull/kull/prune/PruningStrategy;" (.ref w14)) ∧ (Exa Z Z.heap w14 "com/example/kull/kull/prune/PruningStrategy") ∧ (Sta Z Z.heap "com/example/kull/kull/prune/PruningStrategy" "PP_ATCP" "Lcom/example/kull/kull/prune/PruningStrategy;" (.ref w15)) ∧ (Exa Z Z.heap w15 "com/example/kull/kull/prune/PruningStrategy") ∧ (Sta Z Z.heap "com/example/kull/kull/prune/PruningStrategy" "PP_ATCP_QV" "Lcom/example/kull/kull/prune/PruningStrategy;" (.ref w16)) ∧ (Exa Z Z.heap w16 "com/example/kull/kull/prune/PruningStrategy") ∧ (Sta Z Z.heap "com/example/kull/kull/prune/PruningStrategy" "PP_ADCP" "Lcom/example/kull/kull/prune/PruningStrategy;" (.ref w17)) ∧ (Exa Z Z.heap w17 "com/example/kull/kull/prune/PruningStrategy") ∧ (Sta Z Z.heap "com/example/kull/kull/prune/PruningStrategy" "PP_ADCP_QV" "Lcom/example/kull/kull/prune/PruningStrategy;" (.ref w18)) ∧ (Exa Z Z.heap w18 "com/example/kull/kull/prune/PruningStrategy") ∧ (Sta Z Z.heap "com/example/kull/kull/prune/PruningStrategy" "PP_EKS" "Lcom/example/kull/kull/prune/PruningStrategy;" (.ref w19)) ∧ (Exa Z Z.heap w19 "com/example/kull/kull/prune/PruningStrategy") ∧ (w0 ≠ w19) ∧ (w1 ≠ w19) ∧ (w2 ≠ w19) ∧ (w3 ≠ w19) ∧ (w4 ≠ w19) ∧ (w5 ≠ w19) ∧ (w6 ≠ w19) ∧ (w7 ≠ w19) ∧ (w8 ≠ w19) ∧ (w9 ≠ w19) ∧ (w10 ≠ w19) ∧ (w11 ≠ w19) ∧ (w12 ≠ w19) ∧ (w13 ≠ w19) ∧ (w14 ≠ w19) ∧ (w15 ≠ w19) ∧ (w16 ≠ w19) ∧ (w17 ≠ w19) ∧ (w18 ≠ w19)
theorem own_k_n : ∀ n : Nat, n < 20 → (n.toInt32 = (0 : Int32) ∨ n.toInt32 = (1 : Int32) ∨ n.toInt32 = (2 : Int32) ∨ n.toInt32 = (3 : Int32) ∨ n.toInt32 = (4 : Int32) ∨ n.toInt32 = (5 : Int32) ∨ n.toInt32 = (6 : Int32) ∨ n.toInt32 = (7 : Int32) ∨ n.toInt32 = (8 : Int32) ∨ n.toInt32 = (9 : Int32) ∨ n.toInt32 = (10 : Int32) ∨ n.toInt32 = (11 : Int32) ∨ n.toInt32 = (12 : Int32) ∨ n.toInt32 = (13 : Int32) ∨ n.toInt32 = (14 : Int32) ∨ n.toInt32 = (15 : Int32) ∨ n.toInt32 = (16 : Int32) ∨ n.toInt32 = (17 : Int32) ∨ n.toInt32 = (18 : Int32) ∨ n.toInt32 = (19 : Int32)) := by decide +kernel
theorem own_k (x : Int32) : ((x &&& (2147483647 : Int32)) % (20 : Int32)) = (0 : Int32) ∨ ((x &&& (2147483647 : Int32)) % (20 : Int32)) = (1 : Int32) ∨ ((x &&& (2147483647 : Int32)) % (20 : Int32)) = (2 : Int32) ∨ ((x &&& (2147483647 : Int32)) % (20 : Int32)) = (3 : Int32) ∨ ((x &&& (2147483647 : Int32)) % (20 : Int32)) = (4 : Int32) ∨ ((x &&& (2147483647 : Int32)) % (20 : Int32)) = (5 : Int32) ∨ ((x &&& (2147483647 : Int32)) % (20 : Int32)) = (6 : Int32) ∨ ((x &&& (2147483647 : Int32)) % (20 : Int32)) = (7 : Int32) ∨ ((x &&& (2147483647 : Int32)) % (20 : Int32)) = (8 : Int32) ∨ ((x &&& (2147483647 : Int32)) % (20 : Int32)) = (9 : Int32) ∨ ((x &&& (2147483647 : Int32)) % (20 : Int32)) = (10 : Int32) ∨ ((x &&& (2147483647 : Int32)) % (20 : Int32)) = (11 : Int32) ∨ ((x &&& (2147483647 : Int32)) % (20 : Int32)) = (12 : Int32) ∨ ((x &&& (2147483647 : Int32)) % (20 : Int32)) = (13 : Int32) ∨ ((x &&& (2147483647 : Int32)) % (20 : Int32)) = (14 : Int32) ∨ ((x &&& (2147483647 : Int32)) % (20 : Int32)) = (15 : Int32) ∨ ((x &&& (2147483647 : Int32)) % (20 : Int32)) = (16 : Int32) ∨ ((x &&& (2147483647 : Int32)) % (20 : Int32)) = (17 : Int32) ∨ ((x &&& (2147483647 : Int32)) % (20 : Int32)) = (18 : Int32) ∨ ((x &&& (2147483647 : Int32)) % (20 : Int32)) = (19 : Int32) := by
  have h := c_mask x 2147483647 31 (by decide) (by decide)
  have h2 := (c_irem (x &&& 2147483647) 20 20 rfl).1 (by omega)
  obtain ⟨n, hn⟩ : ∃ n : Nat, (((x &&& (2147483647 : Int32)) % (20 : Int32))).toInt = n := ⟨_, (Int.toNat_of_nonneg (by omega)).symm⟩
  have hx : ((x &&& (2147483647 : Int32)) % (20 : Int32)) = n.toInt32 := by rw [← Int32.toInt_inj, hn, len_toInt (by omega)]
  rw [hx]
  exact own_k_n n (by omega)
theorem d1_0 : decode prog_39_method_8_code 0 = .ok (.aload_n 0, 1) := by decide +kernel
theorem d1_1 : decode prog_39_method_8_code 1 = .ok (.getstatic 61, 3) := by decide +kernel
theorem d1_4 : decode prog_39_method_8_code 4 = .ok (.if_acmp .ne 7, 3) := by decide +kernel
theorem d1_11 : decode prog_39_method_8_code 11 = .ok (.iconst 0, 1) := by decide +kernel
theorem d1_12 : decode prog_39_method_8_code 12 = .ok (.ireturn, 1) := by decide +kernel
theorem pn_1 : plainName "com/example/kull/kull/prune/PruningStrategy" = true := by first | (simp [plainName, overriddenIn]; done) | decide +kernel
set_option maxHeartbeats 4000000 in
theorem ef_rmK0 (m : MethodId) {aw : Addr} : entryFrame m #[(.ref aw)] 1 = mkF m 0 #[.val (.ref aw)] [] := by first | (simp [entryFrame, mkF, argsToLocals, Value.category]; done) | rfl
def QrmK0 (Z : State) (w0 : Addr) (w1 : Addr) (w2 : Addr) (w3 : Addr) (w4 : Addr) (w5 : Addr) (w6 : Addr) (w7 : Addr) (w8 : Addr) (w9 : Addr) (w10 : Addr) (w11 : Addr) (w12 : Addr) (w13 : Addr) (w14 : Addr) (w15 : Addr) (w16 : Addr) (w17 : Addr) (w18 : Addr) (w19 : Addr) (aw : Addr) (h0 : Heap) (n0 : Nat) (v : Option Value) (h : Heap) (L : List Loc) : Prop := (v = some (.int (0 : Int32))) ∧ (L = []) ∧ (h = h0)
set_option maxRecDepth 65536 in
set_option maxHeartbeats 40000000 in
theorem rmK0 (l : Launch) (Z : State) (a0 : Array Value) (hw : ∀ d ∈ tables_1, d.before a0 Z = true) (ws : List Jvm.Cond) (w0 : Addr) (w1 : Addr) (w2 : Addr) (w3 : Addr) (w4 : Addr) (w5 : Addr) (w6 : Addr) (w7 : Addr) (w8 : Addr) (w9 : Addr) (w10 : Addr) (w11 : Addr) (w12 : Addr) (w13 : Addr) (w14 : Addr) (w15 : Addr) (w16 : Addr) (w17 : Addr) (w18 : Addr) (w19 : Addr) (G : Gh Z w0 w1 w2 w3 w4 w5 w6 w7 w8 w9 w10 w11 w12 w13 w14 w15 w16 w17 w18 w19) (aw : Addr) (h0 : Heap) (n0 : Nat) (O0 : Old Z n0 h0) (hne : aw ≠ w19) :
    MetFree l (⟨"com/example/kull/kull/prune/PruningStrategy", "readsKeywordLevel", "()Z"⟩ : MethodName) (head1 (Jvm.Cond.code (⟨"com/example/kull/kull/prune/PruningStrategy", "readsKeywordLevel", "()Z"⟩ : MethodName) prog_39_method_8_code 1 (some .boolean) :: ws) ({ frames := 0, cells := 0, slots := 0, locals := 0 } : Room)) (fun aa' UU' => aa' = #[(.ref aw)] ∧ Z.Warmed39 UU'.vm ∧ UU'.heap = h0) (fun _ _ _ _ _ => True) (fun _ UU' oo' VV' => ∃ v' L', oo' = .returned v' ∧ QrmK0 Z w0 w1 w2 w3 w4 w5 w6 w7 w8 w9 w10 w11 w12 w13 w14 w15 w16 w17 w18 w19 aw h0 n0 v' VV'.heap L' ∧ FrameEnd UU' oo' VV' L' ({ frames := 0, cells := 0, slots := 0, locals := 0 } : Room).cells ({ frames := 0, cells := 0, slots := 0, locals := 0 } : Room).slots) := by
  refine MetFree.of_bodySF (plainFor_of_name pn_1) hisR ?_
  intro p e s m args below meth c s₁ Bd hml0 hP hK
  obtain ⟨rfl, hZ, hh⟩ := hP
  have hx := Bd.exec
  have hby := Bd.bytes
  have hlk := Bd.notSynchronized
  have hml : c.maxLocals = 1 := hml0
  have hown : s.vm.findClass "com/example/kull/kull/prune/PruningStrategy" = some m.cls := findClass_of_methodNamed Bd.named
  have hnm := (name_of_methodNamed Bd.named Bd.method).1
  have hret := Bd.returns
  have X0 : Stand p l e ({ frames := 0, cells := 0, slots := 0, locals := 0 } : Room) s m #[(.ref aw)] below meth c s₁ [] 0 0 := Stand.of_body Bd
  have e0 : s₁.heap = h0 := by rw [← hh, Bd.state]; rfl
  have N0 := Fr.nil n0
  refine Go.body ?_
  obtain ⟨Pf, hPf⟩ : ∃ P, P = Fin' s below ({ frames := 0, cells := 0, slots := 0, locals := 0 } : Room).cells ({ frames := 0, cells := 0, slots := 0, locals := 0 } : Room).slots (QrmK0 Z w0 w1 w2 w3 w4 w5 w6 w7 w8 w9 w10 w11 w12 w13 w14 w15 w16 w17 w18 w19 aw h0 n0) := ⟨_, rfl⟩
  rw [← hPf]
  refine Go.cast (ef_rmK0 m) ?_
  have hw50 := (hw _ (List.mem_of_getElem? (i := 50) rfl))
  show Go p.tables e below Pf (s₁.setTop (mkF m 0 #[.val (.ref aw)] []))
  refine Go.by' (fun t k => (XS.aloadN X0.here hx rfl (hb hby d1_0) rfl rfl k)) ?_
  show Go p.tables e below Pf (s₁.setTop (mkF m 1 #[.val (.ref aw)] [(.ref aw)]))
  obtain ⟨T1, X1, e1, st1⟩ := getS2 X0 hx hZ hown (host := "") (Or.inl hw50) Via.refl e0 (G.2.2.2.2.2.2.2.2.2.2.2.2.2.2.2.2.2.2.2.2.2.2.2.2.2.2.2.2.2.2.2.2.2.2.2.2.2.2.1.ext O0.2) (g := (mkF m 1 #[.val (.ref aw)] [(.ref aw)])) rfl (hb hby d1_1)
  refine Go.by' st1 ?_
  show Go p.tables e below Pf (T1.setTop (mkF m 4 #[.val (.ref aw)] [(.ref w19), (.ref aw)]))
  refine Go.by' (fun t k => Jvm.RoadKit.acmp (g := (mkF m 4 #[.val (.ref aw)] [(.ref w19), (.ref aw)])) X1 hx rfl rfl rfl (pc0 := 4) (pc' := 11) (same := false) rfl (hb hby d1_4) rfl (decide_eq_false (fun q => hne (Value.ref.inj q))) (by decide) (by decide) k) ?_
  show Go p.tables e below Pf (T1.setTop (mkF m 11 #[.val (.ref aw)] []))
  refine Go.by' (fun t k => (XS.iconst X1.here hx rfl (hb hby d1_11) k)) ?_
  show Go p.tables e below Pf (T1.setTop (mkF m 12 #[.val (.ref aw)] [(.int (0 : Int32))]))
  rw [hPf]
  exact Go.retI' X1 hx hret hlk (by simp) rfl (hb hby d1_12) (by decide) (by decide) ⟨rfl, rfl, e1⟩
theorem d1_7 : decode prog_39_method_8_code 7 = .ok (.iconst 1, 1) := by decide +kernel
theorem d1_8 : decode prog_39_method_8_code 8 = .ok (.goto 4, 3) := by decide +kernel
set_option maxHeartbeats 4000000 in
theorem ef_rmK1 (m : MethodId) {w19 : Addr} : entryFrame m #[(.ref w19)] 1 = mkF m 0 #[.val (.ref w19)] [] := by first | (simp [entryFrame, mkF, argsToLocals, Value.category]; done) | rfl
def QrmK1 (Z : State) (w0 : Addr) (w1 : Addr) (w2 : Addr) (w3 : Addr) (w4 : Addr) (w5 : Addr) (w6 : Addr) (w7 : Addr) (w8 : Addr) (w9 : Addr) (w10 : Addr) (w11 : Addr) (w12 : Addr) (w13 : Addr) (w14 : Addr) (w15 : Addr) (w16 : Addr) (w17 : Addr) (w18 : Addr) (w19 : Addr)  (h0 : Heap) (n0 : Nat) (v : Option Value) (h : Heap) (L : List Loc) : Prop := (v = some (.int (1 : Int32))) ∧ (L = []) ∧ (h = h0)
set_option maxRecDepth 65536 in
set_option maxHeartbeats 40000000 in
theorem rmK1 (l : Launch) (Z : State) (a0 : Array Value) (hw : ∀ d ∈ tables_1, d.before a0 Z = true) (ws : List Jvm.Cond) (w0 : Addr) (w1 : Addr) (w2 : Addr) (w3 : Addr) (w4 : Addr) (w5 : Addr) (w6 : Addr) (w7 : Addr) (w8 : Addr) (w9 : Addr) (w10 : Addr) (w11 : Addr) (w12 : Addr) (w13 : Addr) (w14 : Addr) (w15 : Addr) (w16 : Addr) (w17 : Addr) (w18 : Addr) (w19 : Addr) (G : Gh Z w0 w1 w2 w3 w4 w5 w6 w7 w8 w9 w10 w11 w12 w13 w14 w15 w16 w17 w18 w19)  (h0 : Heap) (n0 : Nat) (O0 : Old Z n0 h0) :
    MetFree l (⟨"com/example/kull/kull/prune/PruningStrategy", "readsKeywordLevel", "()Z"⟩ : MethodName) (head1 (Jvm.Cond.code (⟨"com/example/kull/kull/prune/PruningStrategy", "readsKeywordLevel", "()Z"⟩ : MethodName) prog_39_method_8_code 1 (some .boolean) :: ws) ({ frames := 0, cells := 0, slots := 0, locals := 0 } : Room)) (fun aa' UU' => aa' = #[(.ref w19)] ∧ Z.Warmed39 UU'.vm ∧ UU'.heap = h0) (fun _ _ _ _ _ => True) (fun _ UU' oo' VV' => ∃ v' L', oo' = .returned v' ∧ QrmK1 Z w0 w1 w2 w3 w4 w5 w6 w7 w8 w9 w10 w11 w12 w13 w14 w15 w16 w17 w18 w19  h0 n0 v' VV'.heap L' ∧ FrameEnd UU' oo' VV' L' ({ frames := 0, cells := 0, slots := 0, locals := 0 } : Room).cells ({ frames := 0, cells := 0, slots := 0, locals := 0 } : Room).slots) := by
  refine MetFree.of_bodySF (plainFor_of_name pn_1) hisR ?_
  intro p e s m args below meth c s₁ Bd hml0 hP hK
  obtain ⟨rfl, hZ, hh⟩ := hP
  have hx := Bd.exec
  have hby := Bd.bytes
  have hlk := Bd.notSynchronized
  have hml : c.maxLocals = 1 := hml0
  have hown : s.vm.findClass "com/example/kull/kull/prune/PruningStrategy" = some m.cls := findClass_of_methodNamed Bd.named
  have hnm := (name_of_methodNamed Bd.named Bd.method).1
  have hret := Bd.returns
  have X0 : Stand p l e ({ frames := 0, cells := 0, slots := 0, locals := 0 } : Room) s m #[(.ref w19)] below meth c s₁ [] 0 0 := Stand.of_body Bd
  have e0 : s₁.heap = h0 := by rw [← hh, Bd.state]; rfl
  have N0 := Fr.nil n0
  refine Go.body ?_
  obtain ⟨Pf, hPf⟩ : ∃ P, P = Fin' s below ({ frames := 0, cells := 0, slots := 0, locals := 0 } : Room).cells ({ frames := 0, cells := 0, slots := 0, locals := 0 } : Room).slots (QrmK1 Z w0 w1 w2 w3 w4 w5 w6 w7 w8 w9 w10 w11 w12 w13 w14 w15 w16 w17 w18 w19  h0 n0) := ⟨_, rfl⟩
  rw [← hPf]
  refine Go.cast (ef_rmK1 m) ?_
  have hw50 := (hw _ (List.mem_of_getElem? (i := 50) rfl))
  show Go p.tables e below Pf (s₁.setTop (mkF m 0 #[.val (.ref w19)] []))
  refine Go.by' (fun t k => (XS.aloadN X0.here hx rfl (hb hby d1_0) rfl rfl k)) ?_
  show Go p.tables e below Pf (s₁.setTop (mkF m 1 #[.val (.ref w19)] [(.ref w19)]))
  obtain ⟨T2, X2, e2, st2⟩ := getS2 X0 hx hZ hown (host := "") (Or.inl hw50) Via.refl e0 (G.2.2.2.2.2.2.2.2.2.2.2.2.2.2.2.2.2.2.2.2.2.2.2.2.2.2.2.2.2.2.2.2.2.2.2.2.2.2.1.ext O0.2) (g := (mkF m 1 #[.val (.ref w19)] [(.ref w19)])) rfl (hb hby d1_1)
  refine Go.by' st2 ?_
  show Go p.tables e below Pf (T2.setTop (mkF m 4 #[.val (.ref w19)] [(.ref w19), (.ref w19)]))
  refine Go.by' (fun t k => Jvm.RoadKit.acmp (g := (mkF m 4 #[.val (.ref w19)] [(.ref w19), (.ref w19)])) X2 hx rfl rfl rfl (pc0 := 4) (pc' := 7) (same := true) rfl (hb hby d1_4) rfl (decide_eq_true rfl) (by decide) (by decide) k) ?_
  show Go p.tables e below Pf (T2.setTop (mkF m 7 #[.val (.ref w19)] []))
  refine Go.by' (fun t k => (XS.iconst X2.here hx rfl (hb hby d1_7) (XS.goto X2.here hx rfl (pc0 := 8) (pc' := 12) rfl (hb hby d1_8) (by decide) (by decide) k))) ?_
  show Go p.tables e below Pf (T2.setTop (mkF m 12 #[.val (.ref w19)] [(.int (1 : Int32))]))
  rw [hPf]
  exact Go.retI' X2 hx hret hlk (by simp) rfl (hb hby d1_12) (by decide) (by decide) ⟨rfl, rfl, e2⟩
theorem pd_0 : parseMethodDescriptor "()Z" = some ⟨[], some .boolean⟩ := by decide +kernel
theorem pn_0 : plainName "com/example/kull/kull/prune/PruningStrategyReadsKeywordLevelPinLaw" = true := by first | (simp [plainName, overriddenIn]; done) | decide +kernel
set_option maxHeartbeats 4000000 in
theorem ef_rm0 (m : MethodId) {ip : Int32} : entryFrame m #[(.int ip)] maxLocals = mkF m 0 #[.val (.int ip), .unset, .unset, .unset] [] := by first | (simp [entryFrame, mkF, argsToLocals, Value.category, maxLocals]; done) | rfl
def Qrm0 (Z : State) (w0 : Addr) (w1 : Addr) (w2 : Addr) (w3 : Addr) (w4 : Addr) (w5 : Addr) (w6 : Addr) (w7 : Addr) (w8 : Addr) (w9 : Addr) (w10 : Addr) (w11 : Addr) (w12 : Addr) (w13 : Addr) (w14 : Addr) (w15 : Addr) (w16 : Addr) (w17 : Addr) (w18 : Addr) (w19 : Addr) (ip : Int32) (h0 : Heap) (n0 : Nat) (v : Option Value) (h : Heap) (L : List Loc) : Prop := (v = some (.int (1 : Int32))) ∧ (Fr n0 L) ∧ (Keep h0 h [])
set_option maxRecDepth 65536 in
set_option maxHeartbeats 40000000 in
theorem rm0 (l : Launch) (Z : State) (a0 : Array Value) (hw : ∀ d ∈ tables_1, d.before a0 Z = true) (ws : List Jvm.Cond) (w0 : Addr) (w1 : Addr) (w2 : Addr) (w3 : Addr) (w4 : Addr) (w5 : Addr) (w6 : Addr) (w7 : Addr) (w8 : Addr) (w9 : Addr) (w10 : Addr) (w11 : Addr) (w12 : Addr) (w13 : Addr) (w14 : Addr) (w15 : Addr) (w16 : Addr) (w17 : Addr) (w18 : Addr) (w19 : Addr) (G : Gh Z w0 w1 w2 w3 w4 w5 w6 w7 w8 w9 w10 w11 w12 w13 w14 w15 w16 w17 w18 w19) (ip : Int32) (h0 : Heap) (n0 : Nat) (O0 : Old Z n0 h0) :
    MetFree l x (head1 (Jvm.Cond.code x code maxLocals ret :: ws) room_1) (fun aa' UU' => aa' = #[(.int ip)] ∧ Z.Warmed39 UU'.vm ∧ UU'.heap = h0) (fun _ _ _ _ _ => True) (fun _ UU' oo' VV' => ∃ v' L', oo' = .returned v' ∧ Qrm0 Z w0 w1 w2 w3 w4 w5 w6 w7 w8 w9 w10 w11 w12 w13 w14 w15 w16 w17 w18 w19 ip h0 n0 v' VV'.heap L' ∧ FrameEnd UU' oo' VV' L' 1 20) := by
  refine MetFree.of_bodySF (plainFor_of_name pn_0) hisR ?_
  intro p e s m args below meth c s₁ Bd hml0 hP hK
  obtain ⟨rfl, hZ, hh⟩ := hP
  have hx := Bd.exec
  have hby := Bd.bytes
  have hlk := Bd.notSynchronized
  have hml : c.maxLocals = 4 := hml0
  have hown : s.vm.findClass "com/example/kull/kull/prune/PruningStrategyReadsKeywordLevelPinLaw" = some m.cls := findClass_of_methodNamed Bd.named
  have hnm := (name_of_methodNamed Bd.named Bd.method).1
  have hret := Bd.returns
  have X0 : Stand p l e room_1 s m #[(.int ip)] below meth c s₁ [] 0 0 := Stand.of_body Bd
  have e0 : s₁.heap = h0 := by rw [← hh, Bd.state]; rfl
  have N0 := Fr.nil n0
  have KC0 : Keep h0 h0 [] := Keep.refl _ _
  refine Go.body ?_
  obtain ⟨Pf, hPf⟩ : ∃ P, P = Fin' s below 1 20 (Qrm0 Z w0 w1 w2 w3 w4 w5 w6 w7 w8 w9 w10 w11 w12 w13 w14 w15 w16 w17 w18 w19 ip h0 n0) := ⟨_, rfl⟩
  rw [← hPf]
  refine Go.cast (ef_rm0 m) ?_
  have hw0 := (hw _ (List.mem_of_getElem? (i := 0) rfl))
  have hw1 := (hw _ (List.mem_of_getElem? (i := 1) rfl))
  have hw2 := (hw _ (List.mem_of_getElem? (i := 2) rfl))
  have hw3 := (hw _ (List.mem_of_getElem? (i := 3) rfl))
  have hw6 := (hw _ (List.mem_of_getElem? (i := 6) rfl))
  have hw8 := (hw _ (List.mem_of_getElem? (i := 8) rfl))
  have hw10 := (hw _ (List.mem_of_getElem? (i := 10) rfl))
  have hw12 := (hw _ (List.mem_of_getElem? (i := 12) rfl))
  have hw14 := (hw _ (List.mem_of_getElem? (i := 14) rfl))
  have hw16 := (hw _ (List.mem_of_getElem? (i := 16) rfl))
  have hw18 := (hw _ (List.mem_of_getElem? (i := 18) rfl))
  have hw20 := (hw _ (List.mem_of_getElem? (i := 20) rfl))
  have hw22 := (hw _ (List.mem_of_getElem? (i := 22) rfl))
  have hw24 := (hw _ (List.mem_of_getElem? (i := 24) rfl))
  have hw26 := (hw _ (List.mem_of_getElem? (i := 26) rfl))
  have hw28 := (hw _ (List.mem_of_getElem? (i := 28) rfl))
  have hw30 := (hw _ (List.mem_of_getElem? (i := 30) rfl))
  have hw32 := (hw _ (List.mem_of_getElem? (i := 32) rfl))
  have hw34 := (hw _ (List.mem_of_getElem? (i := 34) rfl))
  have hw36 := (hw _ (List.mem_of_getElem? (i := 36) rfl))
  have hw38 := (hw _ (List.mem_of_getElem? (i := 38) rfl))
  have hw40 := (hw _ (List.mem_of_getElem? (i := 40) rfl))
  have hw42 := (hw _ (List.mem_of_getElem? (i := 42) rfl))
  have hw44 := (hw _ (List.mem_of_getElem? (i := 44) rfl))
  have hw45 := (hw _ (List.mem_of_getElem? (i := 45) rfl))
  have hw46 := (hw _ (List.mem_of_getElem? (i := 46) rfl))
  have hw47 := (hw _ (List.mem_of_getElem? (i := 47) rfl))
  have hw48 := (hw _ (List.mem_of_getElem? (i := 48) rfl))
  have hw49 := (hw _ (List.mem_of_getElem? (i := 49) rfl))
  show Go p.tables e below Pf (s₁.setTop (mkF m 0 #[.val (.int ip), .unset, .unset, .unset] []))
  refine Go.by' (fun t k => (XS.bipush X0.here hx rfl (hb hby at_0) k)) ?_
  show Go p.tables e below Pf (s₁.setTop (mkF m 2 #[.val (.int ip), .unset, .unset, .unset] [(.int (20 : Int32))]))
  obtain ⟨T3, h3, k3, X3, e3, E3, A3, Ov3, st3⟩ := newR X0 hx hZ hown hw0 hw1 e0 (g := (mkF m 2 #[.val (.int ip), .unset, .unset, .unset] [(.int (20 : Int32))])) rfl (hb hby at_2) rfl (by decide) (cap := 20) (by decide) (by decide) (by decide) (by decide)
  obtain ⟨b3, g3⟩ : ∃ z, z = h0.size := ⟨_, rfl⟩
  rw [← g3] at A3 st3
  refine Go.by' st3 ?_
  have g_b3 : n0 ≤ b3 := Nat.le_trans (own_le O0) (Nat.le_of_eq g3.symm)
  have sz_b3 : h0.size ≤ b3 := Nat.le_trans KC0.1 (Nat.le_of_eq g3.symm)
  have O3 := O0.ext E3
  have KC3 : Keep h0 h3 [] := KC0.ext E3
  have V3 : Arv Z h3 b3 k3 (.object "com/example/kull/kull/prune/PruningStrategy") (20 : Int32) [.null, .null, .null, .null, .null, .null, .null, .null, .null, .null, .null, .null, .null, .null, .null, .null, .null, .null, .null, .null] Value.null := (Arv.new A3 (by decide)).pad (pad_rep [] Value.null 20)
  show Go p.tables e below Pf (T3.setTop (mkF m 5 #[.val (.int ip), .unset, .unset, .unset] [(.ref b3)]))
  refine Go.by' (fun t k => (XS.dup X3.here hx rfl (hb hby at_5) rfl rfl (XS.iconst X3.here hx rfl (hb hby at_6) k))) ?_
  show Go p.tables e below Pf (T3.setTop (mkF m 7 #[.val (.int ip), .unset, .unset, .unset] [(.int (0 : Int32)), (.ref b3), (.ref b3)]))
  obtain ⟨T4, X4, e4, st4⟩ := getS2 X3 hx hZ hown (host := "") (Or.inl hw2) Via.refl e3 (G.1.ext O3.2) (g := (mkF m 7 #[.val (.int ip), .unset, .unset, .unset] [(.int (0 : Int32)), (.ref b3), (.ref b3)])) rfl (hb hby at_7)
  refine Go.by' st4 ?_
  show Go p.tables e below Pf (T4.setTop (mkF m 10 #[.val (.int ip), .unset, .unset, .unset] [(.ref w0), (.int (0 : Int32)), (.ref b3), (.ref b3)]))
  obtain ⟨cl5, Ar5, q5, S5, P5, H5, G5⟩ := (id V3)
  have hin5 : ¬ ((0 : Int32) < 0 ∨ cl5.slots.size ≤ ((0 : Int32)).toNatClampNeg) := inb_of S5 ⟨by decide, by decide⟩
  obtain ⟨T6, h6, X6, e6, W6, st6⟩ := stR X4 hx hZ e4 Ar5 (j := (0 : Int32)) hin5 rfl (Sto.ofV Ar5 q5 Ov3 (Ins.self (G.2.1.ext O3.2))) (g := (mkF m 10 #[.val (.int ip), .unset, .unset, .unset] [(.ref w0), (.int (0 : Int32)), (.ref b3), (.ref b3)])) rfl rfl (hb hby at_10)
  refine Go.by' st6 ?_
  have V6 : Arv Z h6 b3 k3 (.object "com/example/kull/kull/prune/PruningStrategy") (20 : Int32) [(.ref w0), .null, .null, .null, .null, .null, .null, .null, .null, .null, .null, .null, .null, .null, .null, .null, .null, .null, .null, .null] Value.null := Arv.set Ar5 q5 S5 P5 H5 G5 rfl W6 0 rfl (Nat.le_of_ble_eq_true rfl)
  have N6 := Fr.snoc X6 N0 g_b3
  obtain ⟨lc6, X6, N6⟩ := own_pack X6 N6
  have O6 := O3.wr W6 g_b3
  have KC6 : Keep h0 h6 [] := KC3.wr W6 (Or.inr sz_b3)
  show Go p.tables e below Pf (T6.setTop (mkF m 11 #[.val (.int ip), .unset, .unset, .unset] [(.ref b3)]))
  refine Go.by' (fun t k => (XS.dup X6.here hx rfl (hb hby at_11) rfl rfl (XS.iconst X6.here hx rfl (hb hby at_12) k))) ?_
  show Go p.tables e below Pf (T6.setTop (mkF m 13 #[.val (.int ip), .unset, .unset, .unset] [(.int (1 : Int32)), (.ref b3), (.ref b3)]))
  obtain ⟨T7, X7, e7, st7⟩ := getS2 X6 hx hZ hown (host := "") (Or.inl hw6) Via.refl e6 (G.2.2.1.ext O6.2) (g := (mkF m 13 #[.val (.int ip), .unset, .unset, .unset] [(.int (1 : Int32)), (.ref b3), (.ref b3)])) rfl (hb hby at_13)
  refine Go.by' st7 ?_
  show Go p.tables e below Pf (T7.setTop (mkF m 16 #[.val (.int ip), .unset, .unset, .unset] [(.ref w1), (.int (1 : Int32)), (.ref b3), (.ref b3)]))
  obtain ⟨cl8, Ar8, q8, S8, P8, H8, G8⟩ := (id V6)
  have hin8 : ¬ ((1 : Int32) < 0 ∨ cl8.slots.size ≤ ((1 : Int32)).toNatClampNeg) := inb_of S8 ⟨by decide, by decide⟩
  obtain ⟨T9, h9, X9, e9, W9, st9⟩ := stR X7 hx hZ e7 Ar8 (j := (1 : Int32)) hin8 rfl (Sto.ofV Ar8 q8 Ov3 (Ins.self (G.2.2.2.1.ext O6.2))) (g := (mkF m 16 #[.val (.int ip), .unset, .unset, .unset] [(.ref w1), (.int (1 : Int32)), (.ref b3), (.ref b3)])) rfl rfl (hb hby at_16)
  refine Go.by' st9 ?_
  have V9 : Arv Z h9 b3 k3 (.object "com/example/kull/kull/prune/PruningStrategy") (20 : Int32) [(.ref w0), (.ref w1), .null, .null, .null, .null, .null, .null, .null, .null, .null, .null, .null, .null, .null, .null, .null, .null, .null, .null] Value.null := Arv.set Ar8 q8 S8 P8 H8 G8 rfl W9 1 rfl (Nat.le_of_ble_eq_true rfl)
  have N9 := Fr.snoc X9 N6 g_b3
  obtain ⟨lc9, X9, N9⟩ := own_pack X9 N9
  have O9 := O6.wr W9 g_b3
  have KC9 : Keep h0 h9 [] := KC6.wr W9 (Or.inr sz_b3)
  show Go p.tables e below Pf (T9.setTop (mkF m 17 #[.val (.int ip), .unset, .unset, .unset] [(.ref b3)]))
  refine Go.by' (fun t k => (XS.dup X9.here hx rfl (hb hby at_17) rfl rfl (XS.iconst X9.here hx rfl (hb hby at_18) k))) ?_
  show Go p.tables e below Pf (T9.setTop (mkF m 19 #[.val (.int ip), .unset, .unset, .unset] [(.int (2 : Int32)), (.ref b3), (.ref b3)]))
  obtain ⟨T10, X10, e10, st10⟩ := getS2 X9 hx hZ hown (host := "") (Or.inl hw8) Via.refl e9 (G.2.2.2.2.1.ext O9.2) (g := (mkF m 19 #[.val (.int ip), .unset, .unset, .unset] [(.int (2 : Int32)), (.ref b3), (.ref b3)])) rfl (hb hby at_19)
  refine Go.by' st10 ?_
  show Go p.tables e below Pf (T10.setTop (mkF m 22 #[.val (.int ip), .unset, .unset, .unset] [(.ref w2), (.int (2 : Int32)), (.ref b3), (.ref b3)]))
  obtain ⟨cl11, Ar11, q11, S11, P11, H11, G11⟩ := (id V9)
  have hin11 : ¬ ((2 : Int32) < 0 ∨ cl11.slots.size ≤ ((2 : Int32)).toNatClampNeg) := inb_of S11 ⟨by decide, by decide⟩
  obtain ⟨T12, h12, X12, e12, W12, st12⟩ := stR X10 hx hZ e10 Ar11 (j := (2 : Int32)) hin11 rfl (Sto.ofV Ar11 q11 Ov3 (Ins.self (G.2.2.2.2.2.1.ext O9.2))) (g := (mkF m 22 #[.val (.int ip), .unset, .unset, .unset] [(.ref w2), (.int (2 : Int32)), (.ref b3), (.ref b3)])) rfl rfl (hb hby at_22)
  refine Go.by' st12 ?_
  have V12 : Arv Z h12 b3 k3 (.object "com/example/kull/kull/prune/PruningStrategy") (20 : Int32) [(.ref w0), (.ref w1), (.ref w2), .null, .null, .null, .null, .null, .null, .null, .null, .null, .null, .null, .null, .null, .null, .null, .null, .null] Value.null := Arv.set Ar11 q11 S11 P11 H11 G11 rfl W12 2 rfl (Nat.le_of_ble_eq_true rfl)
  have N12 := Fr.snoc X12 N9 g_b3
  obtain ⟨lc12, X12, N12⟩ := own_pack X12 N12
  have O12 := O9.wr W12 g_b3
  have KC12 : Keep h0 h12 [] := KC9.wr W12 (Or.inr sz_b3)
  show Go p.tables e below Pf (T12.setTop (mkF m 23 #[.val (.int ip), .unset, .unset, .unset] [(.ref b3)]))
  refine Go.by' (fun t k => (XS.dup X12.here hx rfl (hb hby at_23) rfl rfl (XS.iconst X12.here hx rfl (hb hby at_24) k))) ?_
  show Go p.tables e below Pf (T12.setTop (mkF m 25 #[.val (.int ip), .unset, .unset, .unset] [(.int (3 : Int32)), (.ref b3), (.ref b3)]))
  obtain ⟨T13, X13, e13, st13⟩ := getS2 X12 hx hZ hown (host := "") (Or.inl hw10) Via.refl e12 (G.2.2.2.2.2.2.1.ext O12.2) (g := (mkF m 25 #[.val (.int ip), .unset, .unset, .unset] [(.int (3 : Int32)), (.ref b3), (.ref b3)])) rfl (hb hby at_25)
  refine Go.by' st13 ?_
  show Go p.tables e below Pf (T13.setTop (mkF m 28 #[.val (.int ip), .unset, .unset, .unset] [(.ref w3), (.int (3 : Int32)), (.ref b3), (.ref b3)]))
  obtain ⟨cl14, Ar14, q14, S14, P14, H14, G14⟩ := (id V12)
  have hin14 : ¬ ((3 : Int32) < 0 ∨ cl14.slots.size ≤ ((3 : Int32)).toNatClampNeg) := inb_of S14 ⟨by decide, by decide⟩
  obtain ⟨T15, h15, X15, e15, W15, st15⟩ := stR X13 hx hZ e13 Ar14 (j := (3 : Int32)) hin14 rfl (Sto.ofV Ar14 q14 Ov3 (Ins.self (G.2.2.2.2.2.2.2.1.ext O12.2))) (g := (mkF m 28 #[.val (.int ip), .unset, .unset, .unset] [(.ref w3), (.int (3 : Int32)), (.ref b3), (.ref b3)])) rfl rfl (hb hby at_28)
  refine Go.by' st15 ?_
  have V15 : Arv Z h15 b3 k3 (.object "com/example/kull/kull/prune/PruningStrategy") (20 : Int32) [(.ref w0), (.ref w1), (.ref w2), (.ref w3), .null, .null, .null, .null, .null, .null, .null, .null, .null, .null, .null, .null, .null, .null, .null, .null] Value.null := Arv.set Ar14 q14 S14 P14 H14 G14 rfl W15 3 rfl (Nat.le_of_ble_eq_true rfl)
  have N15 := Fr.snoc X15 N12 g_b3
  obtain ⟨lc15, X15, N15⟩ := own_pack X15 N15
  have O15 := O12.wr W15 g_b3
  have KC15 : Keep h0 h15 [] := KC12.wr W15 (Or.inr sz_b3)
  show Go p.tables e below Pf (T15.setTop (mkF m 29 #[.val (.int ip), .unset, .unset, .unset] [(.ref b3)]))
  refine Go.by' (fun t k => (XS.dup X15.here hx rfl (hb hby at_29) rfl rfl (XS.iconst X15.here hx rfl (hb hby at_30) k))) ?_
  show Go p.tables e below Pf (T15.setTop (mkF m 31 #[.val (.int ip), .unset, .unset, .unset] [(.int (4 : Int32)), (.ref b3), (.ref b3)]))
  obtain ⟨T16, X16, e16, st16⟩ := getS2 X15 hx hZ hown (host := "") (Or.inl hw12) Via.refl e15 (G.2.2.2.2.2.2.2.2.1.ext O15.2) (g := (mkF m 31 #[.val (.int ip), .unset, .unset, .unset] [(.int (4 : Int32)), (.ref b3), (.ref b3)])) rfl (hb hby at_31)
  refine Go.by' st16 ?_
  show Go p.tables e below Pf (T16.setTop (mkF m 34 #[.val (.int ip), .unset, .unset, .unset] [(.ref w4), (.int (4 : Int32)), (.ref b3), (.ref b3)]))
  obtain ⟨cl17, Ar17, q17, S17, P17, H17, G17⟩ := (id V15)
  have hin17 : ¬ ((4 : Int32) < 0 ∨ cl17.slots.size ≤ ((4 : Int32)).toNatClampNeg) := inb_of S17 ⟨by decide, by decide⟩
  obtain ⟨T18, h18, X18, e18, W18, st18⟩ := stR X16 hx hZ e16 Ar17 (j := (4 : Int32)) hin17 rfl (Sto.ofV Ar17 q17 Ov3 (Ins.self (G.2.2.2.2.2.2.2.2.2.1.ext O15.2))) (g := (mkF m 34 #[.val (.int ip), .unset, .unset, .unset] [(.ref w4), (.int (4 : Int32)), (.ref b3), (.ref b3)])) rfl rfl (hb hby at_34)
  refine Go.by' st18 ?_
  have V18 : Arv Z h18 b3 k3 (.object "com/example/kull/kull/prune/PruningStrategy") (20 : Int32) [(.ref w0), (.ref w1), (.ref w2), (.ref w3), (.ref w4), .null, .null, .null, .null, .null, .null, .null, .null, .null, .null, .null, .null, .null, .null, .null] Value.null := Arv.set Ar17 q17 S17 P17 H17 G17 rfl W18 4 rfl (Nat.le_of_ble_eq_true rfl)
  have N18 := Fr.snoc X18 N15 g_b3
  obtain ⟨lc18, X18, N18⟩ := own_pack X18 N18
  have O18 := O15.wr W18 g_b3
  have KC18 : Keep h0 h18 [] := KC15.wr W18 (Or.inr sz_b3)
  show Go p.tables e below Pf (T18.setTop (mkF m 35 #[.val (.int ip), .unset, .unset, .unset] [(.ref b3)]))
  refine Go.by' (fun t k => (XS.dup X18.here hx rfl (hb hby at_35) rfl rfl (XS.iconst X18.here hx rfl (hb hby at_36) k))) ?_
  show Go p.tables e below Pf (T18.setTop (mkF m 37 #[.val (.int ip), .unset, .unset, .unset] [(.int (5 : Int32)), (.ref b3), (.ref b3)]))
  obtain ⟨T19, X19, e19, st19⟩ := getS2 X18 hx hZ hown (host := "") (Or.inl hw14) Via.refl e18 (G.2.2.2.2.2.2.2.2.2.2.1.ext O18.2) (g := (mkF m 37 #[.val (.int ip), .unset, .unset, .unset] [(.int (5 : Int32)), (.ref b3), (.ref b3)])) rfl (hb hby at_37)
  refine Go.by' st19 ?_
  show Go p.tables e below Pf (T19.setTop (mkF m 40 #[.val (.int ip), .unset, .unset, .unset] [(.ref w5), (.int (5 : Int32)), (.ref b3), (.ref b3)]))
  obtain ⟨cl20, Ar20, q20, S20, P20, H20, G20⟩ := (id V18)
  have hin20 : ¬ ((5 : Int32) < 0 ∨ cl20.slots.size ≤ ((5 : Int32)).toNatClampNeg) := inb_of S20 ⟨by decide, by decide⟩
  obtain ⟨T21, h21, X21, e21, W21, st21⟩ := stR X19 hx hZ e19 Ar20 (j := (5 : Int32)) hin20 rfl (Sto.ofV Ar20 q20 Ov3 (Ins.self (G.2.2.2.2.2.2.2.2.2.2.2.1.ext O18.2))) (g := (mkF m 40 #[.val (.int ip), .unset, .unset, .unset] [(.ref w5), (.int (5 : Int32)), (.ref b3), (.ref b3)])) rfl rfl (hb hby at_40)
  refine Go.by' st21 ?_
  have V21 : Arv Z h21 b3 k3 (.object "com/example/kull/kull/prune/PruningStrategy") (20 : Int32) [(.ref w0), (.ref w1), (.ref w2), (.ref w3), (.ref w4), (.ref w5), .null, .null, .null, .null, .null, .null, .null, .null, .null, .null, .null, .null, .null, .null] Value.null := Arv.set Ar20 q20 S20 P20 H20 G20 rfl W21 5 rfl (Nat.le_of_ble_eq_true rfl)
  have N21 := Fr.snoc X21 N18 g_b3
  obtain ⟨lc21, X21, N21⟩ := own_pack X21 N21
  have O21 := O18.wr W21 g_b3
  have KC21 : Keep h0 h21 [] := KC18.wr W21 (Or.inr sz_b3)
  show Go p.tables e below Pf (T21.setTop (mkF m 41 #[.val (.int ip), .unset, .unset, .unset] [(.ref b3)]))
  refine Go.by' (fun t k => (XS.dup X21.here hx rfl (hb hby at_41) rfl rfl (XS.bipush X21.here hx rfl (hb hby at_42) k))) ?_
  show Go p.tables e below Pf (T21.setTop (mkF m 44 #[.val (.int ip), .unset, .unset, .unset] [(.int (6 : Int32)), (.ref b3), (.ref b3)]))
  obtain ⟨T22, X22, e22, st22⟩ := getS2 X21 hx hZ hown (host := "") (Or.inl hw16) Via.refl e21 (G.2.2.2.2.2.2.2.2.2.2.2.2.1.ext O21.2) (g := (mkF m 44 #[.val (.int ip), .unset, .unset, .unset] [(.int (6 : Int32)), (.ref b3), (.ref b3)])) rfl (hb hby at_44)
  refine Go.by' st22 ?_
  show Go p.tables e below Pf (T22.setTop (mkF m 47 #[.val (.int ip), .unset, .unset, .unset] [(.ref w6), (.int (6 : Int32)), (.ref b3), (.ref b3)]))
  obtain ⟨cl23, Ar23, q23, S23, P23, H23, G23⟩ := (id V21)
  have hin23 : ¬ ((6 : Int32) < 0 ∨ cl23.slots.size ≤ ((6 : Int32)).toNatClampNeg) := inb_of S23 ⟨by decide, by decide⟩
  obtain ⟨T24, h24, X24, e24, W24, st24⟩ := stR X22 hx hZ e22 Ar23 (j := (6 : Int32)) hin23 rfl (Sto.ofV Ar23 q23 Ov3 (Ins.self (G.2.2.2.2.2.2.2.2.2.2.2.2.2.1.ext O21.2))) (g := (mkF m 47 #[.val (.int ip), .unset, .unset, .unset] [(.ref w6), (.int (6 : Int32)), (.ref b3), (.ref b3)])) rfl rfl (hb hby at_47)
  refine Go.by' st24 ?_
  have V24 : Arv Z h24 b3 k3 (.object "com/example/kull/kull/prune/PruningStrategy") (20 : Int32) [(.ref w0), (.ref w1), (.ref w2), (.ref w3), (.ref w4), (.ref w5), (.ref w6), .null, .null, .null, .null, .null, .null, .null, .null, .null, .null, .null, .null, .null] Value.null := Arv.set Ar23 q23 S23 P23 H23 G23 rfl W24 6 rfl (Nat.le_of_ble_eq_true rfl)
  have N24 := Fr.snoc X24 N21 g_b3
  obtain ⟨lc24, X24, N24⟩ := own_pack X24 N24
  have O24 := O21.wr W24 g_b3
  have KC24 : Keep h0 h24 [] := KC21.wr W24 (Or.inr sz_b3)
  show Go p.tables e below Pf (T24.setTop (mkF m 48 #[.val (.int ip), .unset, .unset, .unset] [(.ref b3)]))
  refine Go.by' (fun t k => (XS.dup X24.here hx rfl (hb hby at_48) rfl rfl (XS.bipush X24.here hx rfl (hb hby at_49) k))) ?_
  show Go p.tables e below Pf (T24.setTop (mkF m 51 #[.val (.int ip), .unset, .unset, .unset] [(.int (7 : Int32)), (.ref b3), (.ref b3)]))
  obtain ⟨T25, X25, e25, st25⟩ := getS2 X24 hx hZ hown (host := "") (Or.inl hw18) Via.refl e24 (G.2.2.2.2.2.2.2.2.2.2.2.2.2.2.1.ext O24.2) (g := (mkF m 51 #[.val (.int ip), .unset, .unset, .unset] [(.int (7 : Int32)), (.ref b3), (.ref b3)])) rfl (hb hby at_51)
  refine Go.by' st25 ?_
  show Go p.tables e below Pf (T25.setTop (mkF m 54 #[.val (.int ip), .unset, .unset, .unset] [(.ref w7), (.int (7 : Int32)), (.ref b3), (.ref b3)]))
  obtain ⟨cl26, Ar26, q26, S26, P26, H26, G26⟩ := (id V24)
  have hin26 : ¬ ((7 : Int32) < 0 ∨ cl26.slots.size ≤ ((7 : Int32)).toNatClampNeg) := inb_of S26 ⟨by decide, by decide⟩
  obtain ⟨T27, h27, X27, e27, W27, st27⟩ := stR X25 hx hZ e25 Ar26 (j := (7 : Int32)) hin26 rfl (Sto.ofV Ar26 q26 Ov3 (Ins.self (G.2.2.2.2.2.2.2.2.2.2.2.2.2.2.2.1.ext O24.2))) (g := (mkF m 54 #[.val (.int ip), .unset, .unset, .unset] [(.ref w7), (.int (7 : Int32)), (.ref b3), (.ref b3)])) rfl rfl (hb hby at_54)
  refine Go.by' st27 ?_
  have V27 : Arv Z h27 b3 k3 (.object "com/example/kull/kull/prune/PruningStrategy") (20 : Int32) [(.ref w0), (.ref w1), (.ref w2), (.ref w3), (.ref w4), (.ref w5), (.ref w6), (.ref w7), .null, .null, .null, .null, .null, .null, .null, .null, .null, .null, .null, .null] Value.null := Arv.set Ar26 q26 S26 P26 H26 G26 rfl W27 7 rfl (Nat.le_of_ble_eq_true rfl)
  have N27 := Fr.snoc X27 N24 g_b3
  obtain ⟨lc27, X27, N27⟩ := own_pack X27 N27
  have O27 := O24.wr W27 g_b3
  have KC27 : Keep h0 h27 [] := KC24.wr W27 (Or.inr sz_b3)
  show Go p.tables e below Pf (T27.setTop (mkF m 55 #[.val (.int ip), .unset, .unset, .unset] [(.ref b3)]))
  refine Go.by' (fun t k => (XS.dup X27.here hx rfl (hb hby at_55) rfl rfl (XS.bipush X27.here hx rfl (hb hby at_56) k))) ?_
  show Go p.tables e below Pf (T27.setTop (mkF m 58 #[.val (.int ip), .unset, .unset, .unset] [(.int (8 : Int32)), (.ref b3), (.ref b3)]))
  obtain ⟨T28, X28, e28, st28⟩ := getS2 X27 hx hZ hown (host := "") (Or.inl hw20) Via.refl e27 (G.2.2.2.2.2.2.2.2.2.2.2.2.2.2.2.2.1.ext O27.2) (g := (mkF m 58 #[.val (.int ip), .unset, .unset, .unset] [(.int (8 : Int32)), (.ref b3), (.ref b3)])) rfl (hb hby at_58)
  refine Go.by' st28 ?_
  show Go p.tables e below Pf (T28.setTop (mkF m 61 #[.val (.int ip), .unset, .unset, .unset] [(.ref w8), (.int (8 : Int32)), (.ref b3), (.ref b3)]))
  obtain ⟨cl29, Ar29, q29, S29, P29, H29, G29⟩ := (id V27)
  have hin29 : ¬ ((8 : Int32) < 0 ∨ cl29.slots.size ≤ ((8 : Int32)).toNatClampNeg) := inb_of S29 ⟨by decide, by decide⟩
  obtain ⟨T30, h30, X30, e30, W30, st30⟩ := stR X28 hx hZ e28 Ar29 (j := (8 : Int32)) hin29 rfl (Sto.ofV Ar29 q29 Ov3 (Ins.self (G.2.2.2.2.2.2.2.2.2.2.2.2.2.2.2.2.2.1.ext O27.2))) (g := (mkF m 61 #[.val (.int ip), .unset, .unset, .unset] [(.ref w8), (.int (8 : Int32)), (.ref b3), (.ref b3)])) rfl rfl (hb hby at_61)
  refine Go.by' st30 ?_
  have V30 : Arv Z h30 b3 k3 (.object "com/example/kull/kull/prune/PruningStrategy") (20 : Int32) [(.ref w0), (.ref w1), (.ref w2), (.ref w3), (.ref w4), (.ref w5), (.ref w6), (.ref w7), (.ref w8), .null, .null, .null, .null, .null, .null, .null, .null, .null, .null, .null] Value.null := Arv.set Ar29 q29 S29 P29 H29 G29 rfl W30 8 rfl (Nat.le_of_ble_eq_true rfl)
  have N30 := Fr.snoc X30 N27 g_b3
  obtain ⟨lc30, X30, N30⟩ := own_pack X30 N30
  have O30 := O27.wr W30 g_b3
  have KC30 : Keep h0 h30 [] := KC27.wr W30 (Or.inr sz_b3)
  show Go p.tables e below Pf (T30.setTop (mkF m 62 #[.val (.int ip), .unset, .unset, .unset] [(.ref b3)]))
  refine Go.by' (fun t k => (XS.dup X30.here hx rfl (hb hby at_62) rfl rfl (XS.bipush X30.here hx rfl (hb hby at_63) k))) ?_
  show Go p.tables e below Pf (T30.setTop (mkF m 65 #[.val (.int ip), .unset, .unset, .unset] [(.int (9 : Int32)), (.ref b3), (.ref b3)]))
  obtain ⟨T31, X31, e31, st31⟩ := getS2 X30 hx hZ hown (host := "") (Or.inl hw22) Via.refl e30 (G.2.2.2.2.2.2.2.2.2.2.2.2.2.2.2.2.2.2.1.ext O30.2) (g := (mkF m 65 #[.val (.int ip), .unset, .unset, .unset] [(.int (9 : Int32)), (.ref b3), (.ref b3)])) rfl (hb hby at_65)
  refine Go.by' st31 ?_
  show Go p.tables e below Pf (T31.setTop (mkF m 68 #[.val (.int ip), .unset, .unset, .unset] [(.ref w9), (.int (9 : Int32)), (.ref b3), (.ref b3)]))
  obtain ⟨cl32, Ar32, q32, S32, P32, H32, G32⟩ := (id V30)
  have hin32 : ¬ ((9 : Int32) < 0 ∨ cl32.slots.size ≤ ((9 : Int32)).toNatClampNeg) := inb_of S32 ⟨by decide, by decide⟩
  obtain ⟨T33, h33, X33, e33, W33, st33⟩ := stR X31 hx hZ e31 Ar32 (j := (9 : Int32)) hin32 rfl (Sto.ofV Ar32 q32 Ov3 (Ins.self (G.2.2.2.2.2.2.2.2.2.2.2.2.2.2.2.2.2.2.2.1.ext O30.2))) (g := (mkF m 68 #[.val (.int ip), .unset, .unset, .unset] [(.ref w9), (.int (9 : Int32)), (.ref b3), (.ref b3)])) rfl rfl (hb hby at_68)
  refine Go.by' st33 ?_
  have V33 : Arv Z h33 b3 k3 (.object "com/example/kull/kull/prune/PruningStrategy") (20 : Int32) [(.ref w0), (.ref w1), (.ref w2), (.ref w3), (.ref w4), (.ref w5), (.ref w6), (.ref w7), (.ref w8), (.ref w9), .null, .null, .null, .null, .null, .null, .null, .null, .null, .null] Value.null := Arv.set Ar32 q32 S32 P32 H32 G32 rfl W33 9 rfl (Nat.le_of_ble_eq_true rfl)
  have N33 := Fr.snoc X33 N30 g_b3
  obtain ⟨lc33, X33, N33⟩ := own_pack X33 N33
  have O33 := O30.wr W33 g_b3
  have KC33 : Keep h0 h33 [] := KC30.wr W33 (Or.inr sz_b3)
  show Go p.tables e below Pf (T33.setTop (mkF m 69 #[.val (.int ip), .unset, .unset, .unset] [(.ref b3)]))
  refine Go.by' (fun t k => (XS.dup X33.here hx rfl (hb hby at_69) rfl rfl (XS.bipush X33.here hx rfl (hb hby at_70) k))) ?_
  show Go p.tables e below Pf (T33.setTop (mkF m 72 #[.val (.int ip), .unset, .unset, .unset] [(.int (10 : Int32)), (.ref b3), (.ref b3)]))
  obtain ⟨T34, X34, e34, st34⟩ := getS2 X33 hx hZ hown (host := "") (Or.inl hw24) Via.refl e33 (G.2.2.2.2.2.2.2.2.2.2.2.2.2.2.2.2.2.2.2.2.1.ext O33.2) (g := (mkF m 72 #[.val (.int ip), .unset, .unset, .unset] [(.int (10 : Int32)), (.ref b3), (.ref b3)])) rfl (hb hby at_72)
  refine Go.by' st34 ?_
  show Go p.tables e below Pf (T34.setTop (mkF m 75 #[.val (.int ip), .unset, .unset, .unset] [(.ref w10), (.int (10 : Int32)), (.ref b3), (.ref b3)]))
  obtain ⟨cl35, Ar35, q35, S35, P35, H35, G35⟩ := (id V33)
  have hin35 : ¬ ((10 : Int32) < 0 ∨ cl35.slots.size ≤ ((10 : Int32)).toNatClampNeg) := inb_of S35 ⟨by decide, by decide⟩
  obtain ⟨T36, h36, X36, e36, W36, st36⟩ := stR X34 hx hZ e34 Ar35 (j := (10 : Int32)) hin35 rfl (Sto.ofV Ar35 q35 Ov3 (Ins.self (G.2.2.2.2.2.2.2.2.2.2.2.2.2.2.2.2.2.2.2.2.2.1.ext O33.2))) (g := (mkF m 75 #[.val (.int ip), .unset, .unset, .unset] [(.ref w10), (.int (10 : Int32)), (.ref b3), (.ref b3)])) rfl rfl (hb hby at_75)
  refine Go.by' st36 ?_
  have V36 : Arv Z h36 b3 k3 (.object "com/example/kull/kull/prune/PruningStrategy") (20 : Int32) [(.ref w0), (.ref w1), (.ref w2), (.ref w3), (.ref w4), (.ref w5), (.ref w6), (.ref w7), (.ref w8), (.ref w9), (.ref w10), .null, .null, .null, .null, .null, .null, .null, .null, .null] Value.null := Arv.set Ar35 q35 S35 P35 H35 G35 rfl W36 10 rfl (Nat.le_of_ble_eq_true rfl)
  have N36 := Fr.snoc X36 N33 g_b3
  obtain ⟨lc36, X36, N36⟩ := own_pack X36 N36
  have O36 := O33.wr W36 g_b3
  have KC36 : Keep h0 h36 [] := KC33.wr W36 (Or.inr sz_b3)
  show Go p.tables e below Pf (T36.setTop (mkF m 76 #[.val (.int ip), .unset, .unset, .unset] [(.ref b3)]))
  refine Go.by' (fun t k => (XS.dup X36.here hx rfl (hb hby at_76) rfl rfl (XS.bipush X36.here hx rfl (hb hby at_77) k))) ?_
  show Go p.tables e below Pf (T36.setTop (mkF m 79 #[.val (.int ip), .unset, .unset, .unset] [(.int (11 : Int32)), (.ref b3), (.ref b3)]))
  obtain ⟨T37, X37, e37, st37⟩ := getS2 X36 hx hZ hown (host := "") (Or.inl hw26) Via.refl e36 (G.2.2.2.2.2.2.2.2.2.2.2.2.2.2.2.2.2.2.2.2.2.2.1.ext O36.2) (g := (mkF m 79 #[.val (.int ip), .unset, .unset, .unset] [(.int (11 : Int32)), (.ref b3), (.ref b3)])) rfl (hb hby at_79)
  refine Go.by' st37 ?_
  show Go p.tables e below Pf (T37.setTop (mkF m 82 #[.val (.int ip), .unset, .unset, .unset] [(.ref w11), (.int (11 : Int32)), (.ref b3), (.ref b3)]))
  obtain ⟨cl38, Ar38, q38, S38, P38, H38, G38⟩ := (id V36)
  have hin38 : ¬ ((11 : Int32) < 0 ∨ cl38.slots.size ≤ ((11 : Int32)).toNatClampNeg) := inb_of S38 ⟨by decide, by decide⟩
  obtain ⟨T39, h39, X39, e39, W39, st39⟩ := stR X37 hx hZ e37 Ar38 (j := (11 : Int32)) hin38 rfl (Sto.ofV Ar38 q38 Ov3 (Ins.self (G.2.2.2.2.2.2.2.2.2.2.2.2.2.2.2.2.2.2.2.2.2.2.2.1.ext O36.2))) (g := (mkF m 82 #[.val (.int ip), .unset, .unset, .unset] [(.ref w11), (.int (11 : Int32)), (.ref b3), (.ref b3)])) rfl rfl (hb hby at_82)
  refine Go.by' st39 ?_
  have V39 : Arv Z h39 b3 k3 (.object "com/example/kull/kull/prune/PruningStrategy") (20 : Int32) [(.ref w0), (.ref w1), (.ref w2), (.ref w3), (.ref w4), (.ref w5), (.ref w6), (.ref w7), (.ref w8), (.ref w9), (.ref w10), (.ref w11), .null, .null, .null, .null, .null, .null, .null, .null] Value.null := Arv.set Ar38 q38 S38 P38 H38 G38 rfl W39 11 rfl (Nat.le_of_ble_eq_true rfl)
  have N39 := Fr.snoc X39 N36 g_b3
  obtain ⟨lc39, X39, N39⟩ := own_pack X39 N39
  have O39 := O36.wr W39 g_b3
  have KC39 : Keep h0 h39 [] := KC36.wr W39 (Or.inr sz_b3)
  show Go p.tables e below Pf (T39.setTop (mkF m 83 #[.val (.int ip), .unset, .unset, .unset] [(.ref b3)]))
  refine Go.by' (fun t k => (XS.dup X39.here hx rfl (hb hby at_83) rfl rfl (XS.bipush X39.here hx rfl (hb hby at_84) k))) ?_
  show Go p.tables e below Pf (T39.setTop (mkF m 86 #[.val (.int ip), .unset, .unset, .unset] [(.int (12 : Int32)), (.ref b3), (.ref b3)]))
  obtain ⟨T40, X40, e40, st40⟩ := getS2 X39 hx hZ hown (host := "") (Or.inl hw28) Via.refl e39 (G.2.2.2.2.2.2.2.2.2.2.2.2.2.2.2.2.2.2.2.2.2.2.2.2.1.ext O39.2) (g := (mkF m 86 #[.val (.int ip), .unset, .unset, .unset] [(.int (12 : Int32)), (.ref b3), (.ref b3)])) rfl (hb hby at_86)
  refine Go.by' st40 ?_
  show Go p.tables e below Pf (T40.setTop (mkF m 89 #[.val (.int ip), .unset, .unset, .unset] [(.ref w12), (.int (12 : Int32)), (.ref b3), (.ref b3)]))
  obtain ⟨cl41, Ar41, q41, S41, P41, H41, G41⟩ := (id V39)
  have hin41 : ¬ ((12 : Int32) < 0 ∨ cl41.slots.size ≤ ((12 : Int32)).toNatClampNeg) := inb_of S41 ⟨by decide, by decide⟩
  obtain ⟨T42, h42, X42, e42, W42, st42⟩ := stR X40 hx hZ e40 Ar41 (j := (12 : Int32)) hin41 rfl (Sto.ofV Ar41 q41 Ov3 (Ins.self (G.2.2.2.2.2.2.2.2.2.2.2.2.2.2.2.2.2.2.2.2.2.2.2.2.2.1.ext O39.2))) (g := (mkF m 89 #[.val (.int ip), .unset, .unset, .unset] [(.ref w12), (.int (12 : Int32)), (.ref b3), (.ref b3)])) rfl rfl (hb hby at_89)
  refine Go.by' st42 ?_
  have V42 : Arv Z h42 b3 k3 (.object "com/example/kull/kull/prune/PruningStrategy") (20 : Int32) [(.ref w0), (.ref w1), (.ref w2), (.ref w3), (.ref w4), (.ref w5), (.ref w6), (.ref w7), (.ref w8), (.ref w9), (.ref w10), (.ref w11), (.ref w12), .null, .null, .null, .null, .null, .null, .null] Value.null := Arv.set Ar41 q41 S41 P41 H41 G41 rfl W42 12 rfl (Nat.le_of_ble_eq_true rfl)
  have N42 := Fr.snoc X42 N39 g_b3
  obtain ⟨lc42, X42, N42⟩ := own_pack X42 N42
  have O42 := O39.wr W42 g_b3
  have KC42 : Keep h0 h42 [] := KC39.wr W42 (Or.inr sz_b3)
  show Go p.tables e below Pf (T42.setTop (mkF m 90 #[.val (.int ip), .unset, .unset, .unset] [(.ref b3)]))
  refine Go.by' (fun t k => (XS.dup X42.here hx rfl (hb hby at_90) rfl rfl (XS.bipush X42.here hx rfl (hb hby at_91) k))) ?_
  show Go p.tables e below Pf (T42.setTop (mkF m 93 #[.val (.int ip), .unset, .unset, .unset] [(.int (13 : Int32)), (.ref b3), (.ref b3)]))
  obtain ⟨T43, X43, e43, st43⟩ := getS2 X42 hx hZ hown (host := "") (Or.inl hw30) Via.refl e42 (G.2.2.2.2.2.2.2.2.2.2.2.2.2.2.2.2.2.2.2.2.2.2.2.2.2.2.1.ext O42.2) (g := (mkF m 93 #[.val (.int ip), .unset, .unset, .unset] [(.int (13 : Int32)), (.ref b3), (.ref b3)])) rfl (hb hby at_93)
  refine Go.by' st43 ?_
  show Go p.tables e below Pf (T43.setTop (mkF m 96 #[.val (.int ip), .unset, .unset, .unset] [(.ref w13), (.int (13 : Int32)), (.ref b3), (.ref b3)]))
  obtain ⟨cl44, Ar44, q44, S44, P44, H44, G44⟩ := (id V42)
  have hin44 : ¬ ((13 : Int32) < 0 ∨ cl44.slots.size ≤ ((13 : Int32)).toNatClampNeg) := inb_of S44 ⟨by decide, by decide⟩
  obtain ⟨T45, h45, X45, e45, W45, st45⟩ := stR X43 hx hZ e43 Ar44 (j := (13 : Int32)) hin44 rfl (Sto.ofV Ar44 q44 Ov3 (Ins.self (G.2.2.2.2.2.2.2.2.2.2.2.2.2.2.2.2.2.2.2.2.2.2.2.2.2.2.2.1.ext O42.2))) (g := (mkF m 96 #[.val (.int ip), .unset, .unset, .unset] [(.ref w13), (.int (13 : Int32)), (.ref b3), (.ref b3)])) rfl rfl (hb hby at_96)
  refine Go.by' st45 ?_
  have V45 : Arv Z h45 b3 k3 (.object "com/example/kull/kull/prune/PruningStrategy") (20 : Int32) [(.ref w0), (.ref w1), (.ref w2), (.ref w3), (.ref w4), (.ref w5), (.ref w6), (.ref w7), (.ref w8), (.ref w9), (.ref w10), (.ref w11), (.ref w12), (.ref w13), .null, .null, .null, .null, .null, .null] Value.null := Arv.set Ar44 q44 S44 P44 H44 G44 rfl W45 13 rfl (Nat.le_of_ble_eq_true rfl)
  have N45 := Fr.snoc X45 N42 g_b3
  obtain ⟨lc45, X45, N45⟩ := own_pack X45 N45
  have O45 := O42.wr W45 g_b3
  have KC45 : Keep h0 h45 [] := KC42.wr W45 (Or.inr sz_b3)
  show Go p.tables e below Pf (T45.setTop (mkF m 97 #[.val (.int ip), .unset, .unset, .unset] [(.ref b3)]))
  refine Go.by' (fun t k => (XS.dup X45.here hx rfl (hb hby at_97) rfl rfl (XS.bipush X45.here hx rfl (hb hby at_98) k))) ?_
  show Go p.tables e below Pf (T45.setTop (mkF m 100 #[.val (.int ip), .unset, .unset, .unset] [(.int (14 : Int32)), (.ref b3), (.ref b3)]))
  obtain ⟨T46, X46, e46, st46⟩ := getS2 X45 hx hZ hown (host := "") (Or.inl hw32) Via.refl e45 (G.2.2.2.2.2.2.2.2.2.2.2.2.2.2.2.2.2.2.2.2.2.2.2.2.2.2.2.2.1.ext O45.2) (g := (mkF m 100 #[.val (.int ip), .unset, .unset, .unset] [(.int (14 : Int32)), (.ref b3), (.ref b3)])) rfl (hb hby at_100)
  refine Go.by' st46 ?_
  show Go p.tables e below Pf (T46.setTop (mkF m 103 #[.val (.int ip), .unset, .unset, .unset] [(.ref w14), (.int (14 : Int32)), (.ref b3), (.ref b3)]))
  obtain ⟨cl47, Ar47, q47, S47, P47, H47, G47⟩ := (id V45)
  have hin47 : ¬ ((14 : Int32) < 0 ∨ cl47.slots.size ≤ ((14 : Int32)).toNatClampNeg) := inb_of S47 ⟨by decide, by decide⟩
  obtain ⟨T48, h48, X48, e48, W48, st48⟩ := stR X46 hx hZ e46 Ar47 (j := (14 : Int32)) hin47 rfl (Sto.ofV Ar47 q47 Ov3 (Ins.self (G.2.2.2.2.2.2.2.2.2.2.2.2.2.2.2.2.2.2.2.2.2.2.2.2.2.2.2.2.2.1.ext O45.2))) (g := (mkF m 103 #[.val (.int ip), .unset, .unset, .unset] [(.ref w14), (.int (14 : Int32)), (.ref b3), (.ref b3)])) rfl rfl (hb hby at_103)
  refine Go.by' st48 ?_
  have V48 : Arv Z h48 b3 k3 (.object "com/example/kull/kull/prune/PruningStrategy") (20 : Int32) [(.ref w0), (.ref w1), (.ref w2), (.ref w3), (.ref w4), (.ref w5), (.ref w6), (.ref w7), (.ref w8), (.ref w9), (.ref w10), (.ref w11), (.ref w12), (.ref w13), (.ref w14), .null, .null, .null, .null, .null] Value.null := Arv.set Ar47 q47 S47 P47 H47 G47 rfl W48 14 rfl (Nat.le_of_ble_eq_true rfl)
  have N48 := Fr.snoc X48 N45 g_b3
  obtain ⟨lc48, X48, N48⟩ := own_pack X48 N48
  have O48 := O45.wr W48 g_b3
  have KC48 : Keep h0 h48 [] := KC45.wr W48 (Or.inr sz_b3)
  show Go p.tables e below Pf (T48.setTop (mkF m 104 #[.val (.int ip), .unset, .unset, .unset] [(.ref b3)]))
  refine Go.by' (fun t k => (XS.dup X48.here hx rfl (hb hby at_104) rfl rfl (XS.bipush X48.here hx rfl (hb hby at_105) k))) ?_
  show Go p.tables e below Pf (T48.setTop (mkF m 107 #[.val (.int ip), .unset, .unset, .unset] [(.int (15 : Int32)), (.ref b3), (.ref b3)]))
  obtain ⟨T49, X49, e49, st49⟩ := getS2 X48 hx hZ hown (host := "") (Or.inl hw34) Via.refl e48 (G.2.2.2.2.2.2.2.2.2.2.2.2.2.2.2.2.2.2.2.2.2.2.2.2.2.2.2.2.2.2.1.ext O48.2) (g := (mkF m 107 #[.val (.int ip), .unset, .unset, .unset] [(.int (15 : Int32)), (.ref b3), (.ref b3)])) rfl (hb hby at_107)
  refine Go.by' st49 ?_
  show Go p.tables e below Pf (T49.setTop (mkF m 110 #[.val (.int ip), .unset, .unset, .unset] [(.ref w15), (.int (15 : Int32)), (.ref b3), (.ref b3)]))
  obtain ⟨cl50, Ar50, q50, S50, P50, H50, G50⟩ := (id V48)
  have hin50 : ¬ ((15 : Int32) < 0 ∨ cl50.slots.size ≤ ((15 : Int32)).toNatClampNeg) := inb_of S50 ⟨by decide, by decide⟩
  obtain ⟨T51, h51, X51, e51, W51, st51⟩ := stR X49 hx hZ e49 Ar50 (j := (15 : Int32)) hin50 rfl (Sto.ofV Ar50 q50 Ov3 (Ins.self (G.2.2.2.2.2.2.2.2.2.2.2.2.2.2.2.2.2.2.2.2.2.2.2.2.2.2.2.2.2.2.2.1.ext O48.2))) (g := (mkF m 110 #[.val (.int ip), .unset, .unset, .unset] [(.ref w15), (.int (15 : Int32)), (.ref b3), (.ref b3)])) rfl rfl (hb hby at_110)
  refine Go.by' st51 ?_
  have V51 : Arv Z h51 b3 k3 (.object "com/example/kull/kull/prune/PruningStrategy") (20 : Int32) [(.ref w0), (.ref w1), (.ref w2), (.ref w3), (.ref w4), (.ref w5), (.ref w6), (.ref w7), (.ref w8), (.ref w9), (.ref w10), (.ref w11), (.ref w12), (.ref w13), (.ref w14), (.ref w15), .null, .null, .null, .null] Value.null := Arv.set Ar50 q50 S50 P50 H50 G50 rfl W51 15 rfl (Nat.le_of_ble_eq_true rfl)
  have N51 := Fr.snoc X51 N48 g_b3
  obtain ⟨lc51, X51, N51⟩ := own_pack X51 N51
  have O51 := O48.wr W51 g_b3
  have KC51 : Keep h0 h51 [] := KC48.wr W51 (Or.inr sz_b3)
  show Go p.tables e below Pf (T51.setTop (mkF m 111 #[.val (.int ip), .unset, .unset, .unset] [(.ref b3)]))
  refine Go.by' (fun t k => (XS.dup X51.here hx rfl (hb hby at_111) rfl rfl (XS.bipush X51.here hx rfl (hb hby at_112) k))) ?_
  show Go p.tables e below Pf (T51.setTop (mkF m 114 #[.val (.int ip), .unset, .unset, .unset] [(.int (16 : Int32)), (.ref b3), (.ref b3)]))
  obtain ⟨T52, X52, e52, st52⟩ := getS2 X51 hx hZ hown (host := "") (Or.inl hw36) Via.refl e51 (G.2.2.2.2.2.2.2.2.2.2.2.2.2.2.2.2.2.2.2.2.2.2.2.2.2.2.2.2.2.2.2.2.1.ext O51.2) (g := (mkF m 114 #[.val (.int ip), .unset, .unset, .unset] [(.int (16 : Int32)), (.ref b3), (.ref b3)])) rfl (hb hby at_114)
  refine Go.by' st52 ?_
  show Go p.tables e below Pf (T52.setTop (mkF m 117 #[.val (.int ip), .unset, .unset, .unset] [(.ref w16), (.int (16 : Int32)), (.ref b3), (.ref b3)]))
  obtain ⟨cl53, Ar53, q53, S53, P53, H53, G53⟩ := (id V51)
  have hin53 : ¬ ((16 : Int32) < 0 ∨ cl53.slots.size ≤ ((16 : Int32)).toNatClampNeg) := inb_of S53 ⟨by decide, by decide⟩
  obtain ⟨T54, h54, X54, e54, W54, st54⟩ := stR X52 hx hZ e52 Ar53 (j := (16 : Int32)) hin53 rfl (Sto.ofV Ar53 q53 Ov3 (Ins.self (G.2.2.2.2.2.2.2.2.2.2.2.2.2.2.2.2.2.2.2.2.2.2.2.2.2.2.2.2.2.2.2.2.2.1.ext O51.2))) (g := (mkF m 117 #[.val (.int ip), .unset, .unset, .unset] [(.ref w16), (.int (16 : Int32)), (.ref b3), (.ref b3)])) rfl rfl (hb hby at_117)
  refine Go.by' st54 ?_
  have V54 : Arv Z h54 b3 k3 (.object "com/example/kull/kull/prune/PruningStrategy") (20 : Int32) [(.ref w0), (.ref w1), (.ref w2), (.ref w3), (.ref w4), (.ref w5), (.ref w6), (.ref w7), (.ref w8), (.ref w9), (.ref w10), (.ref w11), (.ref w12), (.ref w13), (.ref w14), (.ref w15), (.ref w16), .null, .null, .null] Value.null := Arv.set Ar53 q53 S53 P53 H53 G53 rfl W54 16 rfl (Nat.le_of_ble_eq_true rfl)
  have N54 := Fr.snoc X54 N51 g_b3
  obtain ⟨lc54, X54, N54⟩ := own_pack X54 N54
  have O54 := O51.wr W54 g_b3
  have KC54 : Keep h0 h54 [] := KC51.wr W54 (Or.inr sz_b3)
  show Go p.tables e below Pf (T54.setTop (mkF m 118 #[.val (.int ip), .unset, .unset, .unset] [(.ref b3)]))
  refine Go.by' (fun t k => (XS.dup X54.here hx rfl (hb hby at_118) rfl rfl (XS.bipush X54.here hx rfl (hb hby at_119) k))) ?_
  show Go p.tables e below Pf (T54.setTop (mkF m 121 #[.val (.int ip), .unset, .unset, .unset] [(.int (17 : Int32)), (.ref b3), (.ref b3)]))
  obtain ⟨T55, X55, e55, st55⟩ := getS2 X54 hx hZ hown (host := "") (Or.inl hw38) Via.refl e54 (G.2.2.2.2.2.2.2.2.2.2.2.2.2.2.2.2.2.2.2.2.2.2.2.2.2.2.2.2.2.2.2.2.2.2.1.ext O54.2) (g := (mkF m 121 #[.val (.int ip), .unset, .unset, .unset] [(.int (17 : Int32)), (.ref b3), (.ref b3)])) rfl (hb hby at_121)
  refine Go.by' st55 ?_
  show Go p.tables e below Pf (T55.setTop (mkF m 124 #[.val (.int ip), .unset, .unset, .unset] [(.ref w17), (.int (17 : Int32)), (.ref b3), (.ref b3)]))
  obtain ⟨cl56, Ar56, q56, S56, P56, H56, G56⟩ := (id V54)
  have hin56 : ¬ ((17 : Int32) < 0 ∨ cl56.slots.size ≤ ((17 : Int32)).toNatClampNeg) := inb_of S56 ⟨by decide, by decide⟩
  obtain ⟨T57, h57, X57, e57, W57, st57⟩ := stR X55 hx hZ e55 Ar56 (j := (17 : Int32)) hin56 rfl (Sto.ofV Ar56 q56 Ov3 (Ins.self (G.2.2.2.2.2.2.2.2.2.2.2.2.2.2.2.2.2.2.2.2.2.2.2.2.2.2.2.2.2.2.2.2.2.2.2.1.ext O54.2))) (g := (mkF m 124 #[.val (.int ip), .unset, .unset, .unset] [(.ref w17), (.int (17 : Int32)), (.ref b3), (.ref b3)])) rfl rfl (hb hby at_124)
  refine Go.by' st57 ?_
  have V57 : Arv Z h57 b3 k3 (.object "com/example/kull/kull/prune/PruningStrategy") (20 : Int32) [(.ref w0), (.ref w1), (.ref w2), (.ref w3), (.ref w4), (.ref w5), (.ref w6), (.ref w7), (.ref w8), (.ref w9), (.ref w10), (.ref w11), (.ref w12), (.ref w13), (.ref w14), (.ref w15), (.ref w16), (.ref w17), .null, .null] Value.null := Arv.set Ar56 q56 S56 P56 H56 G56 rfl W57 17 rfl (Nat.le_of_ble_eq_true rfl)
  have N57 := Fr.snoc X57 N54 g_b3
  obtain ⟨lc57, X57, N57⟩ := own_pack X57 N57
  have O57 := O54.wr W57 g_b3
  have KC57 : Keep h0 h57 [] := KC54.wr W57 (Or.inr sz_b3)
  show Go p.tables e below Pf (T57.setTop (mkF m 125 #[.val (.int ip), .unset, .unset, .unset] [(.ref b3)]))
  refine Go.by' (fun t k => (XS.dup X57.here hx rfl (hb hby at_125) rfl rfl (XS.bipush X57.here hx rfl (hb hby at_126) k))) ?_
  show Go p.tables e below Pf (T57.setTop (mkF m 128 #[.val (.int ip), .unset, .unset, .unset] [(.int (18 : Int32)), (.ref b3), (.ref b3)]))
  obtain ⟨T58, X58, e58, st58⟩ := getS2 X57 hx hZ hown (host := "") (Or.inl hw40) Via.refl e57 (G.2.2.2.2.2.2.2.2.2.2.2.2.2.2.2.2.2.2.2.2.2.2.2.2.2.2.2.2.2.2.2.2.2.2.2.2.1.ext O57.2) (g := (mkF m 128 #[.val (.int ip), .unset, .unset, .unset] [(.int (18 : Int32)), (.ref b3), (.ref b3)])) rfl (hb hby at_128)
  refine Go.by' st58 ?_
  show Go p.tables e below Pf (T58.setTop (mkF m 131 #[.val (.int ip), .unset, .unset, .unset] [(.ref w18), (.int (18 : Int32)), (.ref b3), (.ref b3)]))
  obtain ⟨cl59, Ar59, q59, S59, P59, H59, G59⟩ := (id V57)
  have hin59 : ¬ ((18 : Int32) < 0 ∨ cl59.slots.size ≤ ((18 : Int32)).toNatClampNeg) := inb_of S59 ⟨by decide, by decide⟩
  obtain ⟨T60, h60, X60, e60, W60, st60⟩ := stR X58 hx hZ e58 Ar59 (j := (18 : Int32)) hin59 rfl (Sto.ofV Ar59 q59 Ov3 (Ins.self (G.2.2.2.2.2.2.2.2.2.2.2.2.2.2.2.2.2.2.2.2.2.2.2.2.2.2.2.2.2.2.2.2.2.2.2.2.2.1.ext O57.2))) (g := (mkF m 131 #[.val (.int ip), .unset, .unset, .unset] [(.ref w18), (.int (18 : Int32)), (.ref b3), (.ref b3)])) rfl rfl (hb hby at_131)
  refine Go.by' st60 ?_
  have V60 : Arv Z h60 b3 k3 (.object "com/example/kull/kull/prune/PruningStrategy") (20 : Int32) [(.ref w0), (.ref w1), (.ref w2), (.ref w3), (.ref w4), (.ref w5), (.ref w6), (.ref w7), (.ref w8), (.ref w9), (.ref w10), (.ref w11), (.ref w12), (.ref w13), (.ref w14), (.ref w15), (.ref w16), (.ref w17), (.ref w18), .null] Value.null := Arv.set Ar59 q59 S59 P59 H59 G59 rfl W60 18 rfl (Nat.le_of_ble_eq_true rfl)
  have N60 := Fr.snoc X60 N57 g_b3
  obtain ⟨lc60, X60, N60⟩ := own_pack X60 N60
  have O60 := O57.wr W60 g_b3
  have KC60 : Keep h0 h60 [] := KC57.wr W60 (Or.inr sz_b3)
  show Go p.tables e below Pf (T60.setTop (mkF m 132 #[.val (.int ip), .unset, .unset, .unset] [(.ref b3)]))
  refine Go.by' (fun t k => (XS.dup X60.here hx rfl (hb hby at_132) rfl rfl (XS.bipush X60.here hx rfl (hb hby at_133) k))) ?_
  show Go p.tables e below Pf (T60.setTop (mkF m 135 #[.val (.int ip), .unset, .unset, .unset] [(.int (19 : Int32)), (.ref b3), (.ref b3)]))
  obtain ⟨T61, X61, e61, st61⟩ := getS2 X60 hx hZ hown (host := "") (Or.inl hw42) Via.refl e60 (G.2.2.2.2.2.2.2.2.2.2.2.2.2.2.2.2.2.2.2.2.2.2.2.2.2.2.2.2.2.2.2.2.2.2.2.2.2.2.1.ext O60.2) (g := (mkF m 135 #[.val (.int ip), .unset, .unset, .unset] [(.int (19 : Int32)), (.ref b3), (.ref b3)])) rfl (hb hby at_135)
  refine Go.by' st61 ?_
  show Go p.tables e below Pf (T61.setTop (mkF m 138 #[.val (.int ip), .unset, .unset, .unset] [(.ref w19), (.int (19 : Int32)), (.ref b3), (.ref b3)]))
  obtain ⟨cl62, Ar62, q62, S62, P62, H62, G62⟩ := (id V60)
  have hin62 : ¬ ((19 : Int32) < 0 ∨ cl62.slots.size ≤ ((19 : Int32)).toNatClampNeg) := inb_of S62 ⟨by decide, by decide⟩
  obtain ⟨T63, h63, X63, e63, W63, st63⟩ := stR X61 hx hZ e61 Ar62 (j := (19 : Int32)) hin62 rfl (Sto.ofV Ar62 q62 Ov3 (Ins.self (G.2.2.2.2.2.2.2.2.2.2.2.2.2.2.2.2.2.2.2.2.2.2.2.2.2.2.2.2.2.2.2.2.2.2.2.2.2.2.2.1.ext O60.2))) (g := (mkF m 138 #[.val (.int ip), .unset, .unset, .unset] [(.ref w19), (.int (19 : Int32)), (.ref b3), (.ref b3)])) rfl rfl (hb hby at_138)
  refine Go.by' st63 ?_
  have V63 : Arv Z h63 b3 k3 (.object "com/example/kull/kull/prune/PruningStrategy") (20 : Int32) [(.ref w0), (.ref w1), (.ref w2), (.ref w3), (.ref w4), (.ref w5), (.ref w6), (.ref w7), (.ref w8), (.ref w9), (.ref w10), (.ref w11), (.ref w12), (.ref w13), (.ref w14), (.ref w15), (.ref w16), (.ref w17), (.ref w18), (.ref w19)] Value.null := Arv.set Ar62 q62 S62 P62 H62 G62 rfl W63 19 rfl (Nat.le_of_ble_eq_true rfl)
  have N63 := Fr.snoc X63 N60 g_b3
  obtain ⟨lc63, X63, N63⟩ := own_pack X63 N63
  have O63 := O60.wr W63 g_b3
  have KC63 : Keep h0 h63 [] := KC60.wr W63 (Or.inr sz_b3)
  show Go p.tables e below Pf (T63.setTop (mkF m 139 #[.val (.int ip), .unset, .unset, .unset] [(.ref b3)]))
  refine Go.by' (fun t k => (XS.astoreN X63.here hx rfl (hb hby at_139) rfl rfl (l' := #[.val (.int ip), .val (.ref b3), .unset, .unset]) rfl (XS.iloadN X63.here hx rfl (hb hby at_140) rfl (X63.ldcInt hx hown (mvT hZ hw44) (g := (mkF m 141 #[.val (.int ip), .val (.ref b3), .unset, .unset] [(.int ip)])) rfl (hb hby at_141) t (XS.iand X63.here hx rfl (hb hby at_143) rfl (XS.bipush X63.here hx rfl (hb hby at_144) k)))))) ?_
  show Go p.tables e below Pf (T63.setTop (mkF m 146 #[.val (.int ip), .val (.ref b3), .unset, .unset] [(.int (20 : Int32)), (.int (ip &&& (2147483647 : Int32)))]))
  refine Go.by' (fun t k => iremM (g := (mkF m 146 #[.val (.int ip), .val (.ref b3), .unset, .unset] [(.int (20 : Int32)), (.int (ip &&& (2147483647 : Int32)))])) X63 hx rfl (hb hby at_146) rfl (by decide) k) ?_
  show Go p.tables e below Pf (T63.setTop (mkF m 147 #[.val (.int ip), .val (.ref b3), .unset, .unset] [(.int ((ip &&& (2147483647 : Int32)) % (20 : Int32)))]))
  refine Go.by' (fun t k => (XS.istoreN X63.here hx rfl (hb hby at_147) rfl (l' := #[.val (.int ip), .val (.ref b3), .val (.int ((ip &&& (2147483647 : Int32)) % (20 : Int32))), .unset]) rfl k)) ?_
  show Go p.tables e below Pf (T63.setTop (mkF m 148 #[.val (.int ip), .val (.ref b3), .val (.int ((ip &&& (2147483647 : Int32)) % (20 : Int32))), .unset] []))
  rcases own_k ip with hk | hk | hk | hk | hk | hk | hk | hk | hk | hk | hk | hk | hk | hk | hk | hk | hk | hk | hk | hk
  · refine Go.castF (a := ((ip &&& (2147483647 : Int32)) % (20 : Int32))) (b := (0 : Int32)) (fun z' : Int32 => mkF m 148 #[.val (.int ip), .val (.ref b3), .val (.int z'), .unset] []) hk ?_
    show Go p.tables e below Pf (T63.setTop (mkF m 148 #[.val (.int ip), .val (.ref b3), .val (.int (0 : Int32)), .unset] []))
    refine Go.by' (fun t k => (XS.iloadN X63.here hx rfl (hb hby at_148) rfl (XS.bipush X63.here hx rfl (hb hby at_149) (XS.icmpYes X63.here hx rfl (pc0 := 151) (pc' := 158) rfl (hb hby at_151) rfl (feq (by decide)).2 (by decide) (by decide) (XS.iconst X63.here hx rfl (hb hby at_158) (XS.istoreN X63.here hx rfl (hb hby at_159) rfl (l' := #[.val (.int ip), .val (.ref b3), .val (.int (0 : Int32)), .val (.int (0 : Int32))]) rfl (XS.aloadN X63.here hx rfl (hb hby at_160) rfl rfl k))))))) ?_
    show Go p.tables e below Pf (T63.setTop (mkF m 161 #[.val (.int ip), .val (.ref b3), .val (.int (0 : Int32)), .val (.int (0 : Int32))] [(.ref b3)]))
    refine Go.by' (fun t k => (XS.iloadN X63.here hx rfl (hb hby at_161) rfl k)) ?_
    show Go p.tables e below Pf (T63.setTop (mkF m 162 #[.val (.int ip), .val (.ref b3), .val (.int (0 : Int32)), .val (.int (0 : Int32))] [(.int (0 : Int32)), (.ref b3)]))
    obtain ⟨cl64, Ar64, q64, S64, P64, H64, G64⟩ := (id V63)
    have hin64 : ¬ ((0 : Int32) < 0 ∨ cl64.slots.size ≤ ((0 : Int32)).toNatClampNeg) := inb_of S64 ⟨by decide, by decide⟩
    refine Go.by' (fun t k => (X63.aaload hx (j := (0 : Int32)) (v := (.ref w0)) (by rw [e63]; exact Ar64.1) (State.isArrayOf_alike hZ.alike Ar64.2.1) rfl Ar64.2.2 hin64 (H64.at hin64 rfl) (g := (mkF m 162 #[.val (.int ip), .val (.ref b3), .val (.int (0 : Int32)), .val (.int (0 : Int32))] [(.int (0 : Int32)), (.ref b3)])) rfl rfl (hb hby at_162) t k)) ?_
    show Go p.tables e below Pf (T63.setTop (mkF m 163 #[.val (.int ip), .val (.ref b3), .val (.int (0 : Int32)), .val (.int (0 : Int32))] [(.ref w0)]))
    obtain ⟨cq65, kq65, q65a, q65b, q65c⟩ := isOf hZ e63 (G.2.1.ext O63.2)
    obtain ⟨_, _, ⟨T65, L65, k65, n65⟩, -, X65, ⟨Lc65, hQ65, l65, y65, z65⟩, st65⟩ := X63.virtualBack hx (y := (⟨"com/example/kull/kull/prune/PruningStrategy", "readsKeywordLevel", "()Z"⟩ : MethodName)) (z := (⟨"com/example/kull/kull/prune/PruningStrategy", "readsKeywordLevel", "()Z"⟩ : MethodName)) hown (mvT hZ hw45) (mvT hZ hw46) (notFace_of_selects (args := #[]) (mvT hZ hw48)) (mvT hZ hw48) (mvT hZ hw47) (by decide) (backOf (W := 0) (rmK0 l Z a0 hw [] w0 w1 w2 w3 w4 w5 w6 w7 w8 w9 w10 w11 w12 w13 w14 w15 w16 w17 w18 w19 G w0 h63 n0 O63 G.2.2.2.2.2.2.2.2.2.2.2.2.2.2.2.2.2.2.2.2.2.2.2.2.2.2.2.2.2.2.2.2.2.2.2.2.2.2.2.2.1) hZ hw49 hw3 (by decide) (by decide)) q65a q65c (g := (mkF m 163 #[.val (.int ip), .val (.ref b3), .val (.int (0 : Int32)), .val (.int (0 : Int32))] [(.ref w0)])) rfl (by rw [hml]; rfl) (Steps.refl _) (argsL := []) (rest := []) (lenOf pd_0 rfl) rfl (by show 2 * 0 + _ ≤ _; exact Nat.le_of_eq rfl) (hb hby at_163) (fun _ _ => ⟨rfl, e63, (by decide : 1 + 0 ≤ _), (by decide : 20 + 0 ≤ _)⟩)
    dsimp only [Pt.U, Pt.locs, Pt.cells, Pt.slots] at X65 l65 y65 z65 st65 hQ65
    subst l65 y65 z65
    obtain ⟨rfl, rfl, e65⟩ := hQ65
    try replace X65 := own_nil X65
    refine Go.by' (fun t k => st65.trans k) ?_
    show Go p.tables e below Pf (T65.setTop (mkF m 166 #[.val (.int ip), .val (.ref b3), .val (.int (0 : Int32)), .val (.int (0 : Int32))] [(.int (0 : Int32))]))
    refine Go.by' (fun t k => (XS.iloadN X65.here hx rfl (hb hby at_166) rfl (XS.icmpNo X65.here hx rfl (hb hby at_167) rfl (teq (by decide)).2 (XS.iconst X65.here hx rfl (hb hby at_170) (XS.goto X65.here hx rfl (pc0 := 171) (pc' := 175) rfl (hb hby at_171) (by decide) (by decide) k))))) ?_
    show Go p.tables e below Pf (T65.setTop (mkF m 175 #[.val (.int ip), .val (.ref b3), .val (.int (0 : Int32)), .val (.int (0 : Int32))] [(.int (1 : Int32))]))
    rw [hPf]
    exact Go.retI' X65 hx hret hlk (by simp) rfl (hb hby at_175) (by decide) (by decide) ⟨rfl, N63, (by rw [e65]; exact KC63)⟩
  · refine Go.castF (a := ((ip &&& (2147483647 : Int32)) % (20 : Int32))) (b := (1 : Int32)) (fun z' : Int32 => mkF m 148 #[.val (.int ip), .val (.ref b3), .val (.int z'), .unset] []) hk ?_
    show Go p.tables e below Pf (T63.setTop (mkF m 148 #[.val (.int ip), .val (.ref b3), .val (.int (1 : Int32)), .unset] []))
    refine Go.by' (fun t k => (XS.iloadN X63.here hx rfl (hb hby at_148) rfl (XS.bipush X63.here hx rfl (hb hby at_149) (XS.icmpYes X63.here hx rfl (pc0 := 151) (pc' := 158) rfl (hb hby at_151) rfl (feq (by decide)).2 (by decide) (by decide) (XS.iconst X63.here hx rfl (hb hby at_158) (XS.istoreN X63.here hx rfl (hb hby at_159) rfl (l' := #[.val (.int ip), .val (.ref b3), .val (.int (1 : Int32)), .val (.int (0 : Int32))]) rfl (XS.aloadN X63.here hx rfl (hb hby at_160) rfl rfl k))))))) ?_
    show Go p.tables e below Pf (T63.setTop (mkF m 161 #[.val (.int ip), .val (.ref b3), .val (.int (1 : Int32)), .val (.int (0 : Int32))] [(.ref b3)]))
    refine Go.by' (fun t k => (XS.iloadN X63.here hx rfl (hb hby at_161) rfl k)) ?_
    show Go p.tables e below Pf (T63.setTop (mkF m 162 #[.val (.int ip), .val (.ref b3), .val (.int (1 : Int32)), .val (.int (0 : Int32))] [(.int (1 : Int32)), (.ref b3)]))
    obtain ⟨cl66, Ar66, q66, S66, P66, H66, G66⟩ := (id V63)
    have hin66 : ¬ ((1 : Int32) < 0 ∨ cl66.slots.size ≤ ((1 : Int32)).toNatClampNeg) := inb_of S66 ⟨by decide, by decide⟩
    refine Go.by' (fun t k => (X63.aaload hx (j := (1 : Int32)) (v := (.ref w1)) (by rw [e63]; exact Ar66.1) (State.isArrayOf_alike hZ.alike Ar66.2.1) rfl Ar66.2.2 hin66 (H66.at hin66 rfl) (g := (mkF m 162 #[.val (.int ip), .val (.ref b3), .val (.int (1 : Int32)), .val (.int (0 : Int32))] [(.int (1 : Int32)), (.ref b3)])) rfl rfl (hb hby at_162) t k)) ?_
    show Go p.tables e below Pf (T63.setTop (mkF m 163 #[.val (.int ip), .val (.ref b3), .val (.int (1 : Int32)), .val (.int (0 : Int32))] [(.ref w1)]))
    obtain ⟨cq67, kq67, q67a, q67b, q67c⟩ := isOf hZ e63 (G.2.2.2.1.ext O63.2)
    obtain ⟨_, _, ⟨T67, L67, k67, n67⟩, -, X67, ⟨Lc67, hQ67, l67, y67, z67⟩, st67⟩ := X63.virtualBack hx (y := (⟨"com/example/kull/kull/prune/PruningStrategy", "readsKeywordLevel", "()Z"⟩ : MethodName)) (z := (⟨"com/example/kull/kull/prune/PruningStrategy", "readsKeywordLevel", "()Z"⟩ : MethodName)) hown (mvT hZ hw45) (mvT hZ hw46) (notFace_of_selects (args := #[]) (mvT hZ hw48)) (mvT hZ hw48) (mvT hZ hw47) (by decide) (backOf (W := 0) (rmK0 l Z a0 hw [] w0 w1 w2 w3 w4 w5 w6 w7 w8 w9 w10 w11 w12 w13 w14 w15 w16 w17 w18 w19 G w1 h63 n0 O63 G.2.2.2.2.2.2.2.2.2.2.2.2.2.2.2.2.2.2.2.2.2.2.2.2.2.2.2.2.2.2.2.2.2.2.2.2.2.2.2.2.2.1) hZ hw49 hw3 (by decide) (by decide)) q67a q67c (g := (mkF m 163 #[.val (.int ip), .val (.ref b3), .val (.int (1 : Int32)), .val (.int (0 : Int32))] [(.ref w1)])) rfl (by rw [hml]; rfl) (Steps.refl _) (argsL := []) (rest := []) (lenOf pd_0 rfl) rfl (by show 2 * 0 + _ ≤ _; exact Nat.le_of_eq rfl) (hb hby at_163) (fun _ _ => ⟨rfl, e63, (by decide : 1 + 0 ≤ _), (by decide : 20 + 0 ≤ _)⟩)
    dsimp only [Pt.U, Pt.locs, Pt.cells, Pt.slots] at X67 l67 y67 z67 st67 hQ67
    subst l67 y67 z67
    obtain ⟨rfl, rfl, e67⟩ := hQ67
    try replace X67 := own_nil X67
    refine Go.by' (fun t k => st67.trans k) ?_
    show Go p.tables e below Pf (T67.setTop (mkF m 166 #[.val (.int ip), .val (.ref b3), .val (.int (1 : Int32)), .val (.int (0 : Int32))] [(.int (0 : Int32))]))
    refine Go.by' (fun t k => (XS.iloadN X67.here hx rfl (hb hby at_166) rfl (XS.icmpNo X67.here hx rfl (hb hby at_167) rfl (teq (by decide)).2 (XS.iconst X67.here hx rfl (hb hby at_170) (XS.goto X67.here hx rfl (pc0 := 171) (pc' := 175) rfl (hb hby at_171) (by decide) (by decide) k))))) ?_
    show Go p.tables e below Pf (T67.setTop (mkF m 175 #[.val (.int ip), .val (.ref b3), .val (.int (1 : Int32)), .val (.int (0 : Int32))] [(.int (1 : Int32))]))
    rw [hPf]
    exact Go.retI' X67 hx hret hlk (by simp) rfl (hb hby at_175) (by decide) (by decide) ⟨rfl, N63, (by rw [e67]; exact KC63)⟩
  · refine Go.castF (a := ((ip &&& (2147483647 : Int32)) % (20 : Int32))) (b := (2 : Int32)) (fun z' : Int32 => mkF m 148 #[.val (.int ip), .val (.ref b3), .val (.int z'), .unset] []) hk ?_
    show Go p.tables e below Pf (T63.setTop (mkF m 148 #[.val (.int ip), .val (.ref b3), .val (.int (2 : Int32)), .unset] []))
    refine Go.by' (fun t k => (XS.iloadN X63.here hx rfl (hb hby at_148) rfl (XS.bipush X63.here hx rfl (hb hby at_149) (XS.icmpYes X63.here hx rfl (pc0 := 151) (pc' := 158) rfl (hb hby at_151) rfl (feq (by decide)).2 (by decide) (by decide) (XS.iconst X63.here hx rfl (hb hby at_158) (XS.istoreN X63.here hx rfl (hb hby at_159) rfl (l' := #[.val (.int ip), .val (.ref b3), .val (.int (2 : Int32)), .val (.int (0 : Int32))]) rfl (XS.aloadN X63.here hx rfl (hb hby at_160) rfl rfl k))))))) ?_
    show Go p.tables e below Pf (T63.setTop (mkF m 161 #[.val (.int ip), .val (.ref b3), .val (.int (2 : Int32)), .val (.int (0 : Int32))] [(.ref b3)]))
    refine Go.by' (fun t k => (XS.iloadN X63.here hx rfl (hb hby at_161) rfl k)) ?_
    show Go p.tables e below Pf (T63.setTop (mkF m 162 #[.val (.int ip), .val (.ref b3), .val (.int (2 : Int32)), .val (.int (0 : Int32))] [(.int (2 : Int32)), (.ref b3)]))
    obtain ⟨cl68, Ar68, q68, S68, P68, H68, G68⟩ := (id V63)
    have hin68 : ¬ ((2 : Int32) < 0 ∨ cl68.slots.size ≤ ((2 : Int32)).toNatClampNeg) := inb_of S68 ⟨by decide, by decide⟩
    refine Go.by' (fun t k => (X63.aaload hx (j := (2 : Int32)) (v := (.ref w2)) (by rw [e63]; exact Ar68.1) (State.isArrayOf_alike hZ.alike Ar68.2.1) rfl Ar68.2.2 hin68 (H68.at hin68 rfl) (g := (mkF m 162 #[.val (.int ip), .val (.ref b3), .val (.int (2 : Int32)), .val (.int (0 : Int32))] [(.int (2 : Int32)), (.ref b3)])) rfl rfl (hb hby at_162) t k)) ?_
    show Go p.tables e below Pf (T63.setTop (mkF m 163 #[.val (.int ip), .val (.ref b3), .val (.int (2 : Int32)), .val (.int (0 : Int32))] [(.ref w2)]))
    obtain ⟨cq69, kq69, q69a, q69b, q69c⟩ := isOf hZ e63 (G.2.2.2.2.2.1.ext O63.2)
    obtain ⟨_, _, ⟨T69, L69, k69, n69⟩, -, X69, ⟨Lc69, hQ69, l69, y69, z69⟩, st69⟩ := X63.virtualBack hx (y := (⟨"com/example/kull/kull/prune/PruningStrategy", "readsKeywordLevel", "()Z"⟩ : MethodName)) (z := (⟨"com/example/kull/kull/prune/PruningStrategy", "readsKeywordLevel", "()Z"⟩ : MethodName)) hown (mvT hZ hw45) (mvT hZ hw46) (notFace_of_selects (args := #[]) (mvT hZ hw48)) (mvT hZ hw48) (mvT hZ hw47) (by decide) (backOf (W := 0) (rmK0 l Z a0 hw [] w0 w1 w2 w3 w4 w5 w6 w7 w8 w9 w10 w11 w12 w13 w14 w15 w16 w17 w18 w19 G w2 h63 n0 O63 G.2.2.2.2.2.2.2.2.2.2.2.2.2.2.2.2.2.2.2.2.2.2.2.2.2.2.2.2.2.2.2.2.2.2.2.2.2.2.2.2.2.2.1) hZ hw49 hw3 (by decide) (by decide)) q69a q69c (g := (mkF m 163 #[.val (.int ip), .val (.ref b3), .val (.int (2 : Int32)), .val (.int (0 : Int32))] [(.ref w2)])) rfl (by rw [hml]; rfl) (Steps.refl _) (argsL := []) (rest := []) (lenOf pd_0 rfl) rfl (by show 2 * 0 + _ ≤ _; exact Nat.le_of_eq rfl) (hb hby at_163) (fun _ _ => ⟨rfl, e63, (by decide : 1 + 0 ≤ _), (by decide : 20 + 0 ≤ _)⟩)
    dsimp only [Pt.U, Pt.locs, Pt.cells, Pt.slots] at X69 l69 y69 z69 st69 hQ69
    subst l69 y69 z69
    obtain ⟨rfl, rfl, e69⟩ := hQ69
    try replace X69 := own_nil X69
    refine Go.by' (fun t k => st69.trans k) ?_
    show Go p.tables e below Pf (T69.setTop (mkF m 166 #[.val (.int ip), .val (.ref b3), .val (.int (2 : Int32)), .val (.int (0 : Int32))] [(.int (0 : Int32))]))
    refine Go.by' (fun t k => (XS.iloadN X69.here hx rfl (hb hby at_166) rfl (XS.icmpNo X69.here hx rfl (hb hby at_167) rfl (teq (by decide)).2 (XS.iconst X69.here hx rfl (hb hby at_170) (XS.goto X69.here hx rfl (pc0 := 171) (pc' := 175) rfl (hb hby at_171) (by decide) (by decide) k))))) ?_
    show Go p.tables e below Pf (T69.setTop (mkF m 175 #[.val (.int ip), .val (.ref b3), .val (.int (2 : Int32)), .val (.int (0 : Int32))] [(.int (1 : Int32))]))
    rw [hPf]
    exact Go.retI' X69 hx hret hlk (by simp) rfl (hb hby at_175) (by decide) (by decide) ⟨rfl, N63, (by rw [e69]; exact KC63)⟩
  · refine Go.castF (a := ((ip &&& (2147483647 : Int32)) % (20 : Int32))) (b := (3 : Int32)) (fun z' : Int32 => mkF m 148 #[.val (.int ip), .val (.ref b3), .val (.int z'), .unset] []) hk ?_
    show Go p.tables e below Pf (T63.setTop (mkF m 148 #[.val (.int ip), .val (.ref b3), .val (.int (3 : Int32)), .unset] []))
    refine Go.by' (fun t k => (XS.iloadN X63.here hx rfl (hb hby at_148) rfl (XS.bipush X63.here hx rfl (hb hby at_149) (XS.icmpYes X63.here hx rfl (pc0 := 151) (pc' := 158) rfl (hb hby at_151) rfl (feq (by decide)).2 (by decide) (by decide) (XS.iconst X63.here hx rfl (hb hby at_158) (XS.istoreN X63.here hx rfl (hb hby at_159) rfl (l' := #[.val (.int ip), .val (.ref b3), .val (.int (3 : Int32)), .val (.int (0 : Int32))]) rfl (XS.aloadN X63.here hx rfl (hb hby at_160) rfl rfl k))))))) ?_
    show Go p.tables e below Pf (T63.setTop (mkF m 161 #[.val (.int ip), .val (.ref b3), .val (.int (3 : Int32)), .val (.int (0 : Int32))] [(.ref b3)]))
    refine Go.by' (fun t k => (XS.iloadN X63.here hx rfl (hb hby at_161) rfl k)) ?_
    show Go p.tables e below Pf (T63.setTop (mkF m 162 #[.val (.int ip), .val (.ref b3), .val (.int (3 : Int32)), .val (.int (0 : Int32))] [(.int (3 : Int32)), (.ref b3)]))
    obtain ⟨cl70, Ar70, q70, S70, P70, H70, G70⟩ := (id V63)
    have hin70 : ¬ ((3 : Int32) < 0 ∨ cl70.slots.size ≤ ((3 : Int32)).toNatClampNeg) := inb_of S70 ⟨by decide, by decide⟩
    refine Go.by' (fun t k => (X63.aaload hx (j := (3 : Int32)) (v := (.ref w3)) (by rw [e63]; exact Ar70.1) (State.isArrayOf_alike hZ.alike Ar70.2.1) rfl Ar70.2.2 hin70 (H70.at hin70 rfl) (g := (mkF m 162 #[.val (.int ip), .val (.ref b3), .val (.int (3 : Int32)), .val (.int (0 : Int32))] [(.int (3 : Int32)), (.ref b3)])) rfl rfl (hb hby at_162) t k)) ?_
    show Go p.tables e below Pf (T63.setTop (mkF m 163 #[.val (.int ip), .val (.ref b3), .val (.int (3 : Int32)), .val (.int (0 : Int32))] [(.ref w3)]))
    obtain ⟨cq71, kq71, q71a, q71b, q71c⟩ := isOf hZ e63 (G.2.2.2.2.2.2.2.1.ext O63.2)
    obtain ⟨_, _, ⟨T71, L71, k71, n71⟩, -, X71, ⟨Lc71, hQ71, l71, y71, z71⟩, st71⟩ := X63.virtualBack hx (y := (⟨"com/example/kull/kull/prune/PruningStrategy", "readsKeywordLevel", "()Z"⟩ : MethodName)) (z := (⟨"com/example/kull/kull/prune/PruningStrategy", "readsKeywordLevel", "()Z"⟩ : MethodName)) hown (mvT hZ hw45) (mvT hZ hw46) (notFace_of_selects (args := #[]) (mvT hZ hw48)) (mvT hZ hw48) (mvT hZ hw47) (by decide) (backOf (W := 0) (rmK0 l Z a0 hw [] w0 w1 w2 w3 w4 w5 w6 w7 w8 w9 w10 w11 w12 w13 w14 w15 w16 w17 w18 w19 G w3 h63 n0 O63 G.2.2.2.2.2.2.2.2.2.2.2.2.2.2.2.2.2.2.2.2.2.2.2.2.2.2.2.2.2.2.2.2.2.2.2.2.2.2.2.2.2.2.2.1) hZ hw49 hw3 (by decide) (by decide)) q71a q71c (g := (mkF m 163 #[.val (.int ip), .val (.ref b3), .val (.int (3 : Int32)), .val (.int (0 : Int32))] [(.ref w3)])) rfl (by rw [hml]; rfl) (Steps.refl _) (argsL := []) (rest := []) (lenOf pd_0 rfl) rfl (by show 2 * 0 + _ ≤ _; exact Nat.le_of_eq rfl) (hb hby at_163) (fun _ _ => ⟨rfl, e63, (by decide : 1 + 0 ≤ _), (by decide : 20 + 0 ≤ _)⟩)
    dsimp only [Pt.U, Pt.locs, Pt.cells, Pt.slots] at X71 l71 y71 z71 st71 hQ71
    subst l71 y71 z71
    obtain ⟨rfl, rfl, e71⟩ := hQ71
    try replace X71 := own_nil X71
    refine Go.by' (fun t k => st71.trans k) ?_
    show Go p.tables e below Pf (T71.setTop (mkF m 166 #[.val (.int ip), .val (.ref b3), .val (.int (3 : Int32)), .val (.int (0 : Int32))] [(.int (0 : Int32))]))
    refine Go.by' (fun t k => (XS.iloadN X71.here hx rfl (hb hby at_166) rfl (XS.icmpNo X71.here hx rfl (hb hby at_167) rfl (teq (by decide)).2 (XS.iconst X71.here hx rfl (hb hby at_170) (XS.goto X71.here hx rfl (pc0 := 171) (pc' := 175) rfl (hb hby at_171) (by decide) (by decide) k))))) ?_
    show Go p.tables e below Pf (T71.setTop (mkF m 175 #[.val (.int ip), .val (.ref b3), .val (.int (3 : Int32)), .val (.int (0 : Int32))] [(.int (1 : Int32))]))
    rw [hPf]
    exact Go.retI' X71 hx hret hlk (by simp) rfl (hb hby at_175) (by decide) (by decide) ⟨rfl, N63, (by rw [e71]; exact KC63)⟩
  · refine Go.castF (a := ((ip &&& (2147483647 : Int32)) % (20 : Int32))) (b := (4 : Int32)) (fun z' : Int32 => mkF m 148 #[.val (.int ip), .val (.ref b3), .val (.int z'), .unset] []) hk ?_
    show Go p.tables e below Pf (T63.setTop (mkF m 148 #[.val (.int ip), .val (.ref b3), .val (.int (4 : Int32)), .unset] []))
    refine Go.by' (fun t k => (XS.iloadN X63.here hx rfl (hb hby at_148) rfl (XS.bipush X63.here hx rfl (hb hby at_149) (XS.icmpYes X63.here hx rfl (pc0 := 151) (pc' := 158) rfl (hb hby at_151) rfl (feq (by decide)).2 (by decide) (by decide) (XS.iconst X63.here hx rfl (hb hby at_158) (XS.istoreN X63.here hx rfl (hb hby at_159) rfl (l' := #[.val (.int ip), .val (.ref b3), .val (.int (4 : Int32)), .val (.int (0 : Int32))]) rfl (XS.aloadN X63.here hx rfl (hb hby at_160) rfl rfl k))))))) ?_
    show Go p.tables e below Pf (T63.setTop (mkF m 161 #[.val (.int ip), .val (.ref b3), .val (.int (4 : Int32)), .val (.int (0 : Int32))] [(.ref b3)]))
    refine Go.by' (fun t k => (XS.iloadN X63.here hx rfl (hb hby at_161) rfl k)) ?_
    show Go p.tables e below Pf (T63.setTop (mkF m 162 #[.val (.int ip), .val (.ref b3), .val (.int (4 : Int32)), .val (.int (0 : Int32))] [(.int (4 : Int32)), (.ref b3)]))
    obtain ⟨cl72, Ar72, q72, S72, P72, H72, G72⟩ := (id V63)
    have hin72 : ¬ ((4 : Int32) < 0 ∨ cl72.slots.size ≤ ((4 : Int32)).toNatClampNeg) := inb_of S72 ⟨by decide, by decide⟩
    refine Go.by' (fun t k => (X63.aaload hx (j := (4 : Int32)) (v := (.ref w4)) (by rw [e63]; exact Ar72.1) (State.isArrayOf_alike hZ.alike Ar72.2.1) rfl Ar72.2.2 hin72 (H72.at hin72 rfl) (g := (mkF m 162 #[.val (.int ip), .val (.ref b3), .val (.int (4 : Int32)), .val (.int (0 : Int32))] [(.int (4 : Int32)), (.ref b3)])) rfl rfl (hb hby at_162) t k)) ?_
    show Go p.tables e below Pf (T63.setTop (mkF m 163 #[.val (.int ip), .val (.ref b3), .val (.int (4 : Int32)), .val (.int (0 : Int32))] [(.ref w4)]))
    obtain ⟨cq73, kq73, q73a, q73b, q73c⟩ := isOf hZ e63 (G.2.2.2.2.2.2.2.2.2.1.ext O63.2)
    obtain ⟨_, _, ⟨T73, L73, k73, n73⟩, -, X73, ⟨Lc73, hQ73, l73, y73, z73⟩, st73⟩ := X63.virtualBack hx (y := (⟨"com/example/kull/kull/prune/PruningStrategy", "readsKeywordLevel", "()Z"⟩ : MethodName)) (z := (⟨"com/example/kull/kull/prune/PruningStrategy", "readsKeywordLevel", "()Z"⟩ : MethodName)) hown (mvT hZ hw45) (mvT hZ hw46) (notFace_of_selects (args := #[]) (mvT hZ hw48)) (mvT hZ hw48) (mvT hZ hw47) (by decide) (backOf (W := 0) (rmK0 l Z a0 hw [] w0 w1 w2 w3 w4 w5 w6 w7 w8 w9 w10 w11 w12 w13 w14 w15 w16 w17 w18 w19 G w4 h63 n0 O63 G.2.2.2.2.2.2.2.2.2.2.2.2.2.2.2.2.2.2.2.2.2.2.2.2.2.2.2.2.2.2.2.2.2.2.2.2.2.2.2.2.2.2.2.2.1) hZ hw49 hw3 (by decide) (by decide)) q73a q73c (g := (mkF m 163 #[.val (.int ip), .val (.ref b3), .val (.int (4 : Int32)), .val (.int (0 : Int32))] [(.ref w4)])) rfl (by rw [hml]; rfl) (Steps.refl _) (argsL := []) (rest := []) (lenOf pd_0 rfl) rfl (by show 2 * 0 + _ ≤ _; exact Nat.le_of_eq rfl) (hb hby at_163) (fun _ _ => ⟨rfl, e63, (by decide : 1 + 0 ≤ _), (by decide : 20 + 0 ≤ _)⟩)
    dsimp only [Pt.U, Pt.locs, Pt.cells, Pt.slots] at X73 l73 y73 z73 st73 hQ73
    subst l73 y73 z73
    obtain ⟨rfl, rfl, e73⟩ := hQ73
    try replace X73 := own_nil X73
    refine Go.by' (fun t k => st73.trans k) ?_
    show Go p.tables e below Pf (T73.setTop (mkF m 166 #[.val (.int ip), .val (.ref b3), .val (.int (4 : Int32)), .val (.int (0 : Int32))] [(.int (0 : Int32))]))
    refine Go.by' (fun t k => (XS.iloadN X73.here hx rfl (hb hby at_166) rfl (XS.icmpNo X73.here hx rfl (hb hby at_167) rfl (teq (by decide)).2 (XS.iconst X73.here hx rfl (hb hby at_170) (XS.goto X73.here hx rfl (pc0 := 171) (pc' := 175) rfl (hb hby at_171) (by decide) (by decide) k))))) ?_
    show Go p.tables e below Pf (T73.setTop (mkF m 175 #[.val (.int ip), .val (.ref b3), .val (.int (4 : Int32)), .val (.int (0 : Int32))] [(.int (1 : Int32))]))
    rw [hPf]
    exact Go.retI' X73 hx hret hlk (by simp) rfl (hb hby at_175) (by decide) (by decide) ⟨rfl, N63, (by rw [e73]; exact KC63)⟩
  · refine Go.castF (a := ((ip &&& (2147483647 : Int32)) % (20 : Int32))) (b := (5 : Int32)) (fun z' : Int32 => mkF m 148 #[.val (.int ip), .val (.ref b3), .val (.int z'), .unset] []) hk ?_
    show Go p.tables e below Pf (T63.setTop (mkF m 148 #[.val (.int ip), .val (.ref b3), .val (.int (5 : Int32)), .unset] []))
    refine Go.by' (fun t k => (XS.iloadN X63.here hx rfl (hb hby at_148) rfl (XS.bipush X63.here hx rfl (hb hby at_149) (XS.icmpYes X63.here hx rfl (pc0 := 151) (pc' := 158) rfl (hb hby at_151) rfl (feq (by decide)).2 (by decide) (by decide) (XS.iconst X63.here hx rfl (hb hby at_158) (XS.istoreN X63.here hx rfl (hb hby at_159) rfl (l' := #[.val (.int ip), .val (.ref b3), .val (.int (5 : Int32)), .val (.int (0 : Int32))]) rfl (XS.aloadN X63.here hx rfl (hb hby at_160) rfl rfl k))))))) ?_
    show Go p.tables e below Pf (T63.setTop (mkF m 161 #[.val (.int ip), .val (.ref b3), .val (.int (5 : Int32)), .val (.int (0 : Int32))] [(.ref b3)]))
    refine Go.by' (fun t k => (XS.iloadN X63.here hx rfl (hb hby at_161) rfl k)) ?_
    show Go p.tables e below Pf (T63.setTop (mkF m 162 #[.val (.int ip), .val (.ref b3), .val (.int (5 : Int32)), .val (.int (0 : Int32))] [(.int (5 : Int32)), (.ref b3)]))
    obtain ⟨cl74, Ar74, q74, S74, P74, H74, G74⟩ := (id V63)
    have hin74 : ¬ ((5 : Int32) < 0 ∨ cl74.slots.size ≤ ((5 : Int32)).toNatClampNeg) := inb_of S74 ⟨by decide, by decide⟩
    refine Go.by' (fun t k => (X63.aaload hx (j := (5 : Int32)) (v := (.ref w5)) (by rw [e63]; exact Ar74.1) (State.isArrayOf_alike hZ.alike Ar74.2.1) rfl Ar74.2.2 hin74 (H74.at hin74 rfl) (g := (mkF m 162 #[.val (.int ip), .val (.ref b3), .val (.int (5 : Int32)), .val (.int (0 : Int32))] [(.int (5 : Int32)), (.ref b3)])) rfl rfl (hb hby at_162) t k)) ?_
    show Go p.tables e below Pf (T63.setTop (mkF m 163 #[.val (.int ip), .val (.ref b3), .val (.int (5 : Int32)), .val (.int (0 : Int32))] [(.ref w5)]))
    obtain ⟨cq75, kq75, q75a, q75b, q75c⟩ := isOf hZ e63 (G.2.2.2.2.2.2.2.2.2.2.2.1.ext O63.2)
    obtain ⟨_, _, ⟨T75, L75, k75, n75⟩, -, X75, ⟨Lc75, hQ75, l75, y75, z75⟩, st75⟩ := X63.virtualBack hx (y := (⟨"com/example/kull/kull/prune/PruningStrategy", "readsKeywordLevel", "()Z"⟩ : MethodName)) (z := (⟨"com/example/kull/kull/prune/PruningStrategy", "readsKeywordLevel", "()Z"⟩ : MethodName)) hown (mvT hZ hw45) (mvT hZ hw46) (notFace_of_selects (args := #[]) (mvT hZ hw48)) (mvT hZ hw48) (mvT hZ hw47) (by decide) (backOf (W := 0) (rmK0 l Z a0 hw [] w0 w1 w2 w3 w4 w5 w6 w7 w8 w9 w10 w11 w12 w13 w14 w15 w16 w17 w18 w19 G w5 h63 n0 O63 G.2.2.2.2.2.2.2.2.2.2.2.2.2.2.2.2.2.2.2.2.2.2.2.2.2.2.2.2.2.2.2.2.2.2.2.2.2.2.2.2.2.2.2.2.2.1) hZ hw49 hw3 (by decide) (by decide)) q75a q75c (g := (mkF m 163 #[.val (.int ip), .val (.ref b3), .val (.int (5 : Int32)), .val (.int (0 : Int32))] [(.ref w5)])) rfl (by rw [hml]; rfl) (Steps.refl _) (argsL := []) (rest := []) (lenOf pd_0 rfl) rfl (by show 2 * 0 + _ ≤ _; exact Nat.le_of_eq rfl) (hb hby at_163) (fun _ _ => ⟨rfl, e63, (by decide : 1 + 0 ≤ _), (by decide : 20 + 0 ≤ _)⟩)
    dsimp only [Pt.U, Pt.locs, Pt.cells, Pt.slots] at X75 l75 y75 z75 st75 hQ75
    subst l75 y75 z75
    obtain ⟨rfl, rfl, e75⟩ := hQ75
    try replace X75 := own_nil X75
    refine Go.by' (fun t k => st75.trans k) ?_
    show Go p.tables e below Pf (T75.setTop (mkF m 166 #[.val (.int ip), .val (.ref b3), .val (.int (5 : Int32)), .val (.int (0 : Int32))] [(.int (0 : Int32))]))
    refine Go.by' (fun t k => (XS.iloadN X75.here hx rfl (hb hby at_166) rfl (XS.icmpNo X75.here hx rfl (hb hby at_167) rfl (teq (by decide)).2 (XS.iconst X75.here hx rfl (hb hby at_170) (XS.goto X75.here hx rfl (pc0 := 171) (pc' := 175) rfl (hb hby at_171) (by decide) (by decide) k))))) ?_
    show Go p.tables e below Pf (T75.setTop (mkF m 175 #[.val (.int ip), .val (.ref b3), .val (.int (5 : Int32)), .val (.int (0 : Int32))] [(.int (1 : Int32))]))
    rw [hPf]
    exact Go.retI' X75 hx hret hlk (by simp) rfl (hb hby at_175) (by decide) (by decide) ⟨rfl, N63, (by rw [e75]; exact KC63)⟩
  · refine Go.castF (a := ((ip &&& (2147483647 : Int32)) % (20 : Int32))) (b := (6 : Int32)) (fun z' : Int32 => mkF m 148 #[.val (.int ip), .val (.ref b3), .val (.int z'), .unset] []) hk ?_
    show Go p.tables e below Pf (T63.setTop (mkF m 148 #[.val (.int ip), .val (.ref b3), .val (.int (6 : Int32)), .unset] []))
    refine Go.by' (fun t k => (XS.iloadN X63.here hx rfl (hb hby at_148) rfl (XS.bipush X63.here hx rfl (hb hby at_149) (XS.icmpYes X63.here hx rfl (pc0 := 151) (pc' := 158) rfl (hb hby at_151) rfl (feq (by decide)).2 (by decide) (by decide) (XS.iconst X63.here hx rfl (hb hby at_158) (XS.istoreN X63.here hx rfl (hb hby at_159) rfl (l' := #[.val (.int ip), .val (.ref b3), .val (.int (6 : Int32)), .val (.int (0 : Int32))]) rfl (XS.aloadN X63.here hx rfl (hb hby at_160) rfl rfl k))))))) ?_
    show Go p.tables e below Pf (T63.setTop (mkF m 161 #[.val (.int ip), .val (.ref b3), .val (.int (6 : Int32)), .val (.int (0 : Int32))] [(.ref b3)]))
    refine Go.by' (fun t k => (XS.iloadN X63.here hx rfl (hb hby at_161) rfl k)) ?_
    show Go p.tables e below Pf (T63.setTop (mkF m 162 #[.val (.int ip), .val (.ref b3), .val (.int (6 : Int32)), .val (.int (0 : Int32))] [(.int (6 : Int32)), (.ref b3)]))
    obtain ⟨cl76, Ar76, q76, S76, P76, H76, G76⟩ := (id V63)
    have hin76 : ¬ ((6 : Int32) < 0 ∨ cl76.slots.size ≤ ((6 : Int32)).toNatClampNeg) := inb_of S76 ⟨by decide, by decide⟩
    refine Go.by' (fun t k => (X63.aaload hx (j := (6 : Int32)) (v := (.ref w6)) (by rw [e63]; exact Ar76.1) (State.isArrayOf_alike hZ.alike Ar76.2.1) rfl Ar76.2.2 hin76 (H76.at hin76 rfl) (g := (mkF m 162 #[.val (.int ip), .val (.ref b3), .val (.int (6 : Int32)), .val (.int (0 : Int32))] [(.int (6 : Int32)), (.ref b3)])) rfl rfl (hb hby at_162) t k)) ?_
    show Go p.tables e below Pf (T63.setTop (mkF m 163 #[.val (.int ip), .val (.ref b3), .val (.int (6 : Int32)), .val (.int (0 : Int32))] [(.ref w6)]))
    obtain ⟨cq77, kq77, q77a, q77b, q77c⟩ := isOf hZ e63 (G.2.2.2.2.2.2.2.2.2.2.2.2.2.1.ext O63.2)
    obtain ⟨_, _, ⟨T77, L77, k77, n77⟩, -, X77, ⟨Lc77, hQ77, l77, y77, z77⟩, st77⟩ := X63.virtualBack hx (y := (⟨"com/example/kull/kull/prune/PruningStrategy", "readsKeywordLevel", "()Z"⟩ : MethodName)) (z := (⟨"com/example/kull/kull/prune/PruningStrategy", "readsKeywordLevel", "()Z"⟩ : MethodName)) hown (mvT hZ hw45) (mvT hZ hw46) (notFace_of_selects (args := #[]) (mvT hZ hw48)) (mvT hZ hw48) (mvT hZ hw47) (by decide) (backOf (W := 0) (rmK0 l Z a0 hw [] w0 w1 w2 w3 w4 w5 w6 w7 w8 w9 w10 w11 w12 w13 w14 w15 w16 w17 w18 w19 G w6 h63 n0 O63 G.2.2.2.2.2.2.2.2.2.2.2.2.2.2.2.2.2.2.2.2.2.2.2.2.2.2.2.2.2.2.2.2.2.2.2.2.2.2.2.2.2.2.2.2.2.2.1) hZ hw49 hw3 (by decide) (by decide)) q77a q77c (g := (mkF m 163 #[.val (.int ip), .val (.ref b3), .val (.int (6 : Int32)), .val (.int (0 : Int32))] [(.ref w6)])) rfl (by rw [hml]; rfl) (Steps.refl _) (argsL := []) (rest := []) (lenOf pd_0 rfl) rfl (by show 2 * 0 + _ ≤ _; exact Nat.le_of_eq rfl) (hb hby at_163) (fun _ _ => ⟨rfl, e63, (by decide : 1 + 0 ≤ _), (by decide : 20 + 0 ≤ _)⟩)
    dsimp only [Pt.U, Pt.locs, Pt.cells, Pt.slots] at X77 l77 y77 z77 st77 hQ77
    subst l77 y77 z77
    obtain ⟨rfl, rfl, e77⟩ := hQ77
    try replace X77 := own_nil X77
    refine Go.by' (fun t k => st77.trans k) ?_
    show Go p.tables e below Pf (T77.setTop (mkF m 166 #[.val (.int ip), .val (.ref b3), .val (.int (6 : Int32)), .val (.int (0 : Int32))] [(.int (0 : Int32))]))
    refine Go.by' (fun t k => (XS.iloadN X77.here hx rfl (hb hby at_166) rfl (XS.icmpNo X77.here hx rfl (hb hby at_167) rfl (teq (by decide)).2 (XS.iconst X77.here hx rfl (hb hby at_170) (XS.goto X77.here hx rfl (pc0 := 171) (pc' := 175) rfl (hb hby at_171) (by decide) (by decide) k))))) ?_
    show Go p.tables e below Pf (T77.setTop (mkF m 175 #[.val (.int ip), .val (.ref b3), .val (.int (6 : Int32)), .val (.int (0 : Int32))] [(.int (1 : Int32))]))
    rw [hPf]
    exact Go.retI' X77 hx hret hlk (by simp) rfl (hb hby at_175) (by decide) (by decide) ⟨rfl, N63, (by rw [e77]; exact KC63)⟩
  · refine Go.castF (a := ((ip &&& (2147483647 : Int32)) % (20 : Int32))) (b := (7 : Int32)) (fun z' : Int32 => mkF m 148 #[.val (.int ip), .val (.ref b3), .val (.int z'), .unset] []) hk ?_
    show Go p.tables e below Pf (T63.setTop (mkF m 148 #[.val (.int ip), .val (.ref b3), .val (.int (7 : Int32)), .unset] []))
    refine Go.by' (fun t k => (XS.iloadN X63.here hx rfl (hb hby at_148) rfl (XS.bipush X63.here hx rfl (hb hby at_149) (XS.icmpYes X63.here hx rfl (pc0 := 151) (pc' := 158) rfl (hb hby at_151) rfl (feq (by decide)).2 (by decide) (by decide) (XS.iconst X63.here hx rfl (hb hby at_158) (XS.istoreN X63.here hx rfl (hb hby at_159) rfl (l' := #[.val (.int ip), .val (.ref b3), .val (.int (7 : Int32)), .val (.int (0 : Int32))]) rfl (XS.aloadN X63.here hx rfl (hb hby at_160) rfl rfl k))))))) ?_
    show Go p.tables e below Pf (T63.setTop (mkF m 161 #[.val (.int ip), .val (.ref b3), .val (.int (7 : Int32)), .val (.int (0 : Int32))] [(.ref b3)]))
    refine Go.by' (fun t k => (XS.iloadN X63.here hx rfl (hb hby at_161) rfl k)) ?_
    show Go p.tables e below Pf (T63.setTop (mkF m 162 #[.val (.int ip), .val (.ref b3), .val (.int (7 : Int32)), .val (.int (0 : Int32))] [(.int (7 : Int32)), (.ref b3)]))
    obtain ⟨cl78, Ar78, q78, S78, P78, H78, G78⟩ := (id V63)
    have hin78 : ¬ ((7 : Int32) < 0 ∨ cl78.slots.size ≤ ((7 : Int32)).toNatClampNeg) := inb_of S78 ⟨by decide, by decide⟩
    refine Go.by' (fun t k => (X63.aaload hx (j := (7 : Int32)) (v := (.ref w7)) (by rw [e63]; exact Ar78.1) (State.isArrayOf_alike hZ.alike Ar78.2.1) rfl Ar78.2.2 hin78 (H78.at hin78 rfl) (g := (mkF m 162 #[.val (.int ip), .val (.ref b3), .val (.int (7 : Int32)), .val (.int (0 : Int32))] [(.int (7 : Int32)), (.ref b3)])) rfl rfl (hb hby at_162) t k)) ?_
    show Go p.tables e below Pf (T63.setTop (mkF m 163 #[.val (.int ip), .val (.ref b3), .val (.int (7 : Int32)), .val (.int (0 : Int32))] [(.ref w7)]))
    obtain ⟨cq79, kq79, q79a, q79b, q79c⟩ := isOf hZ e63 (G.2.2.2.2.2.2.2.2.2.2.2.2.2.2.2.1.ext O63.2)
    obtain ⟨_, _, ⟨T79, L79, k79, n79⟩, -, X79, ⟨Lc79, hQ79, l79, y79, z79⟩, st79⟩ := X63.virtualBack hx (y := (⟨"com/example/kull/kull/prune/PruningStrategy", "readsKeywordLevel", "()Z"⟩ : MethodName)) (z := (⟨"com/example/kull/kull/prune/PruningStrategy", "readsKeywordLevel", "()Z"⟩ : MethodName)) hown (mvT hZ hw45) (mvT hZ hw46) (notFace_of_selects (args := #[]) (mvT hZ hw48)) (mvT hZ hw48) (mvT hZ hw47) (by decide) (backOf (W := 0) (rmK0 l Z a0 hw [] w0 w1 w2 w3 w4 w5 w6 w7 w8 w9 w10 w11 w12 w13 w14 w15 w16 w17 w18 w19 G w7 h63 n0 O63 G.2.2.2.2.2.2.2.2.2.2.2.2.2.2.2.2.2.2.2.2.2.2.2.2.2.2.2.2.2.2.2.2.2.2.2.2.2.2.2.2.2.2.2.2.2.2.2.1) hZ hw49 hw3 (by decide) (by decide)) q79a q79c (g := (mkF m 163 #[.val (.int ip), .val (.ref b3), .val (.int (7 : Int32)), .val (.int (0 : Int32))] [(.ref w7)])) rfl (by rw [hml]; rfl) (Steps.refl _) (argsL := []) (rest := []) (lenOf pd_0 rfl) rfl (by show 2 * 0 + _ ≤ _; exact Nat.le_of_eq rfl) (hb hby at_163) (fun _ _ => ⟨rfl, e63, (by decide : 1 + 0 ≤ _), (by decide : 20 + 0 ≤ _)⟩)
    dsimp only [Pt.U, Pt.locs, Pt.cells, Pt.slots] at X79 l79 y79 z79 st79 hQ79
    subst l79 y79 z79
    obtain ⟨rfl, rfl, e79⟩ := hQ79
    try replace X79 := own_nil X79
    refine Go.by' (fun t k => st79.trans k) ?_
    show Go p.tables e below Pf (T79.setTop (mkF m 166 #[.val (.int ip), .val (.ref b3), .val (.int (7 : Int32)), .val (.int (0 : Int32))] [(.int (0 : Int32))]))
    refine Go.by' (fun t k => (XS.iloadN X79.here hx rfl (hb hby at_166) rfl (XS.icmpNo X79.here hx rfl (hb hby at_167) rfl (teq (by decide)).2 (XS.iconst X79.here hx rfl (hb hby at_170) (XS.goto X79.here hx rfl (pc0 := 171) (pc' := 175) rfl (hb hby at_171) (by decide) (by decide) k))))) ?_
    show Go p.tables e below Pf (T79.setTop (mkF m 175 #[.val (.int ip), .val (.ref b3), .val (.int (7 : Int32)), .val (.int (0 : Int32))] [(.int (1 : Int32))]))
    rw [hPf]
    exact Go.retI' X79 hx hret hlk (by simp) rfl (hb hby at_175) (by decide) (by decide) ⟨rfl, N63, (by rw [e79]; exact KC63)⟩
  · refine Go.castF (a := ((ip &&& (2147483647 : Int32)) % (20 : Int32))) (b := (8 : Int32)) (fun z' : Int32 => mkF m 148 #[.val (.int ip), .val (.ref b3), .val (.int z'), .unset] []) hk ?_
    show Go p.tables e below Pf (T63.setTop (mkF m 148 #[.val (.int ip), .val (.ref b3), .val (.int (8 : Int32)), .unset] []))
    refine Go.by' (fun t k => (XS.iloadN X63.here hx rfl (hb hby at_148) rfl (XS.bipush X63.here hx rfl (hb hby at_149) (XS.icmpYes X63.here hx rfl (pc0 := 151) (pc' := 158) rfl (hb hby at_151) rfl (feq (by decide)).2 (by decide) (by decide) (XS.iconst X63.here hx rfl (hb hby at_158) (XS.istoreN X63.here hx rfl (hb hby at_159) rfl (l' := #[.val (.int ip), .val (.ref b3), .val (.int (8 : Int32)), .val (.int (0 : Int32))]) rfl (XS.aloadN X63.here hx rfl (hb hby at_160) rfl rfl k))))))) ?_
    show Go p.tables e below Pf (T63.setTop (mkF m 161 #[.val (.int ip), .val (.ref b3), .val (.int (8 : Int32)), .val (.int (0 : Int32))] [(.ref b3)]))
    refine Go.by' (fun t k => (XS.iloadN X63.here hx rfl (hb hby at_161) rfl k)) ?_
    show Go p.tables e below Pf (T63.setTop (mkF m 162 #[.val (.int ip), .val (.ref b3), .val (.int (8 : Int32)), .val (.int (0 : Int32))] [(.int (8 : Int32)), (.ref b3)]))
    obtain ⟨cl80, Ar80, q80, S80, P80, H80, G80⟩ := (id V63)
    have hin80 : ¬ ((8 : Int32) < 0 ∨ cl80.slots.size ≤ ((8 : Int32)).toNatClampNeg) := inb_of S80 ⟨by decide, by decide⟩
    refine Go.by' (fun t k => (X63.aaload hx (j := (8 : Int32)) (v := (.ref w8)) (by rw [e63]; exact Ar80.1) (State.isArrayOf_alike hZ.alike Ar80.2.1) rfl Ar80.2.2 hin80 (H80.at hin80 rfl) (g := (mkF m 162 #[.val (.int ip), .val (.ref b3), .val (.int (8 : Int32)), .val (.int (0 : Int32))] [(.int (8 : Int32)), (.ref b3)])) rfl rfl (hb hby at_162) t k)) ?_
    show Go p.tables e below Pf (T63.setTop (mkF m 163 #[.val (.int ip), .val (.ref b3), .val (.int (8 : Int32)), .val (.int (0 : Int32))] [(.ref w8)]))
    obtain ⟨cq81, kq81, q81a, q81b, q81c⟩ := isOf hZ e63 (G.2.2.2.2.2.2.2.2.2.2.2.2.2.2.2.2.2.1.ext O63.2)
    obtain ⟨_, _, ⟨T81, L81, k81, n81⟩, -, X81, ⟨Lc81, hQ81, l81, y81, z81⟩, st81⟩ := X63.virtualBack hx (y := (⟨"com/example/kull/kull/prune/PruningStrategy", "readsKeywordLevel", "()Z"⟩ : MethodName)) (z := (⟨"com/example/kull/kull/prune/PruningStrategy", "readsKeywordLevel", "()Z"⟩ : MethodName)) hown (mvT hZ hw45) (mvT hZ hw46) (notFace_of_selects (args := #[]) (mvT hZ hw48)) (mvT hZ hw48) (mvT hZ hw47) (by decide) (backOf (W := 0) (rmK0 l Z a0 hw [] w0 w1 w2 w3 w4 w5 w6 w7 w8 w9 w10 w11 w12 w13 w14 w15 w16 w17 w18 w19 G w8 h63 n0 O63 G.2.2.2.2.2.2.2.2.2.2.2.2.2.2.2.2.2.2.2.2.2.2.2.2.2.2.2.2.2.2.2.2.2.2.2.2.2.2.2.2.2.2.2.2.2.2.2.2.1) hZ hw49 hw3 (by decide) (by decide)) q81a q81c (g := (mkF m 163 #[.val (.int ip), .val (.ref b3), .val (.int (8 : Int32)), .val (.int (0 : Int32))] [(.ref w8)])) rfl (by rw [hml]; rfl) (Steps.refl _) (argsL := []) (rest := []) (lenOf pd_0 rfl) rfl (by show 2 * 0 + _ ≤ _; exact Nat.le_of_eq rfl) (hb hby at_163) (fun _ _ => ⟨rfl, e63, (by decide : 1 + 0 ≤ _), (by decide : 20 + 0 ≤ _)⟩)
    dsimp only [Pt.U, Pt.locs, Pt.cells, Pt.slots] at X81 l81 y81 z81 st81 hQ81
    subst l81 y81 z81
    obtain ⟨rfl, rfl, e81⟩ := hQ81
    try replace X81 := own_nil X81
    refine Go.by' (fun t k => st81.trans k) ?_
    show Go p.tables e below Pf (T81.setTop (mkF m 166 #[.val (.int ip), .val (.ref b3), .val (.int (8 : Int32)), .val (.int (0 : Int32))] [(.int (0 : Int32))]))
    refine Go.by' (fun t k => (XS.iloadN X81.here hx rfl (hb hby at_166) rfl (XS.icmpNo X81.here hx rfl (hb hby at_167) rfl (teq (by decide)).2 (XS.iconst X81.here hx rfl (hb hby at_170) (XS.goto X81.here hx rfl (pc0 := 171) (pc' := 175) rfl (hb hby at_171) (by decide) (by decide) k))))) ?_
    show Go p.tables e below Pf (T81.setTop (mkF m 175 #[.val (.int ip), .val (.ref b3), .val (.int (8 : Int32)), .val (.int (0 : Int32))] [(.int (1 : Int32))]))
    rw [hPf]
    exact Go.retI' X81 hx hret hlk (by simp) rfl (hb hby at_175) (by decide) (by decide) ⟨rfl, N63, (by rw [e81]; exact KC63)⟩
  · refine Go.castF (a := ((ip &&& (2147483647 : Int32)) % (20 : Int32))) (b := (9 : Int32)) (fun z' : Int32 => mkF m 148 #[.val (.int ip), .val (.ref b3), .val (.int z'), .unset] []) hk ?_
    show Go p.tables e below Pf (T63.setTop (mkF m 148 #[.val (.int ip), .val (.ref b3), .val (.int (9 : Int32)), .unset] []))
    refine Go.by' (fun t k => (XS.iloadN X63.here hx rfl (hb hby at_148) rfl (XS.bipush X63.here hx rfl (hb hby at_149) (XS.icmpYes X63.here hx rfl (pc0 := 151) (pc' := 158) rfl (hb hby at_151) rfl (feq (by decide)).2 (by decide) (by decide) (XS.iconst X63.here hx rfl (hb hby at_158) (XS.istoreN X63.here hx rfl (hb hby at_159) rfl (l' := #[.val (.int ip), .val (.ref b3), .val (.int (9 : Int32)), .val (.int (0 : Int32))]) rfl (XS.aloadN X63.here hx rfl (hb hby at_160) rfl rfl k))))))) ?_
    show Go p.tables e below Pf (T63.setTop (mkF m 161 #[.val (.int ip), .val (.ref b3), .val (.int (9 : Int32)), .val (.int (0 : Int32))] [(.ref b3)]))
    refine Go.by' (fun t k => (XS.iloadN X63.here hx rfl (hb hby at_161) rfl k)) ?_
    show Go p.tables e below Pf (T63.setTop (mkF m 162 #[.val (.int ip), .val (.ref b3), .val (.int (9 : Int32)), .val (.int (0 : Int32))] [(.int (9 : Int32)), (.ref b3)]))
    obtain ⟨cl82, Ar82, q82, S82, P82, H82, G82⟩ := (id V63)
    have hin82 : ¬ ((9 : Int32) < 0 ∨ cl82.slots.size ≤ ((9 : Int32)).toNatClampNeg) := inb_of S82 ⟨by decide, by decide⟩
    refine Go.by' (fun t k => (X63.aaload hx (j := (9 : Int32)) (v := (.ref w9)) (by rw [e63]; exact Ar82.1) (State.isArrayOf_alike hZ.alike Ar82.2.1) rfl Ar82.2.2 hin82 (H82.at hin82 rfl) (g := (mkF m 162 #[.val (.int ip), .val (.ref b3), .val (.int (9 : Int32)), .val (.int (0 : Int32))] [(.int (9 : Int32)), (.ref b3)])) rfl rfl (hb hby at_162) t k)) ?_
    show Go p.tables e below Pf (T63.setTop (mkF m 163 #[.val (.int ip), .val (.ref b3), .val (.int (9 : Int32)), .val (.int (0 : Int32))] [(.ref w9)]))
    obtain ⟨cq83, kq83, q83a, q83b, q83c⟩ := isOf hZ e63 (G.2.2.2.2.2.2.2.2.2.2.2.2.2.2.2.2.2.2.2.1.ext O63.2)
    obtain ⟨_, _, ⟨T83, L83, k83, n83⟩, -, X83, ⟨Lc83, hQ83, l83, y83, z83⟩, st83⟩ := X63.virtualBack hx (y := (⟨"com/example/kull/kull/prune/PruningStrategy", "readsKeywordLevel", "()Z"⟩ : MethodName)) (z := (⟨"com/example/kull/kull/prune/PruningStrategy", "readsKeywordLevel", "()Z"⟩ : MethodName)) hown (mvT hZ hw45) (mvT hZ hw46) (notFace_of_selects (args := #[]) (mvT hZ hw48)) (mvT hZ hw48) (mvT hZ hw47) (by decide) (backOf (W := 0) (rmK0 l Z a0 hw [] w0 w1 w2 w3 w4 w5 w6 w7 w8 w9 w10 w11 w12 w13 w14 w15 w16 w17 w18 w19 G w9 h63 n0 O63 G.2.2.2.2.2.2.2.2.2.2.2.2.2.2.2.2.2.2.2.2.2.2.2.2.2.2.2.2.2.2.2.2.2.2.2.2.2.2.2.2.2.2.2.2.2.2.2.2.2.1) hZ hw49 hw3 (by decide) (by decide)) q83a q83c (g := (mkF m 163 #[.val (.int ip), .val (.ref b3), .val (.int (9 : Int32)), .val (.int (0 : Int32))] [(.ref w9)])) rfl (by rw [hml]; rfl) (Steps.refl _) (argsL := []) (rest := []) (lenOf pd_0 rfl) rfl (by show 2 * 0 + _ ≤ _; exact Nat.le_of_eq rfl) (hb hby at_163) (fun _ _ => ⟨rfl, e63, (by decide : 1 + 0 ≤ _), (by decide : 20 + 0 ≤ _)⟩)
    dsimp only [Pt.U, Pt.locs, Pt.cells, Pt.slots] at X83 l83 y83 z83 st83 hQ83
    subst l83 y83 z83
    obtain ⟨rfl, rfl, e83⟩ := hQ83
    try replace X83 := own_nil X83
    refine Go.by' (fun t k => st83.trans k) ?_
    show Go p.tables e below Pf (T83.setTop (mkF m 166 #[.val (.int ip), .val (.ref b3), .val (.int (9 : Int32)), .val (.int (0 : Int32))] [(.int (0 : Int32))]))
    refine Go.by' (fun t k => (XS.iloadN X83.here hx rfl (hb hby at_166) rfl (XS.icmpNo X83.here hx rfl (hb hby at_167) rfl (teq (by decide)).2 (XS.iconst X83.here hx rfl (hb hby at_170) (XS.goto X83.here hx rfl (pc0 := 171) (pc' := 175) rfl (hb hby at_171) (by decide) (by decide) k))))) ?_
    show Go p.tables e below Pf (T83.setTop (mkF m 175 #[.val (.int ip), .val (.ref b3), .val (.int (9 : Int32)), .val (.int (0 : Int32))] [(.int (1 : Int32))]))
    rw [hPf]
    exact Go.retI' X83 hx hret hlk (by simp) rfl (hb hby at_175) (by decide) (by decide) ⟨rfl, N63, (by rw [e83]; exact KC63)⟩
  · refine Go.castF (a := ((ip &&& (2147483647 : Int32)) % (20 : Int32))) (b := (10 : Int32)) (fun z' : Int32 => mkF m 148 #[.val (.int ip), .val (.ref b3), .val (.int z'), .unset] []) hk ?_
    show Go p.tables e below Pf (T63.setTop (mkF m 148 #[.val (.int ip), .val (.ref b3), .val (.int (10 : Int32)), .unset] []))
    refine Go.by' (fun t k => (XS.iloadN X63.here hx rfl (hb hby at_148) rfl (XS.bipush X63.here hx rfl (hb hby at_149) (XS.icmpYes X63.here hx rfl (pc0 := 151) (pc' := 158) rfl (hb hby at_151) rfl (feq (by decide)).2 (by decide) (by decide) (XS.iconst X63.here hx rfl (hb hby at_158) (XS.istoreN X63.here hx rfl (hb hby at_159) rfl (l' := #[.val (.int ip), .val (.ref b3), .val (.int (10 : Int32)), .val (.int (0 : Int32))]) rfl (XS.aloadN X63.here hx rfl (hb hby at_160) rfl rfl k))))))) ?_
    show Go p.tables e below Pf (T63.setTop (mkF m 161 #[.val (.int ip), .val (.ref b3), .val (.int (10 : Int32)), .val (.int (0 : Int32))] [(.ref b3)]))
    refine Go.by' (fun t k => (XS.iloadN X63.here hx rfl (hb hby at_161) rfl k)) ?_
    show Go p.tables e below Pf (T63.setTop (mkF m 162 #[.val (.int ip), .val (.ref b3), .val (.int (10 : Int32)), .val (.int (0 : Int32))] [(.int (10 : Int32)), (.ref b3)]))
    obtain ⟨cl84, Ar84, q84, S84, P84, H84, G84⟩ := (id V63)
    have hin84 : ¬ ((10 : Int32) < 0 ∨ cl84.slots.size ≤ ((10 : Int32)).toNatClampNeg) := inb_of S84 ⟨by decide, by decide⟩
    refine Go.by' (fun t k => (X63.aaload hx (j := (10 : Int32)) (v := (.ref w10)) (by rw [e63]; exact Ar84.1) (State.isArrayOf_alike hZ.alike Ar84.2.1) rfl Ar84.2.2 hin84 (H84.at hin84 rfl) (g := (mkF m 162 #[.val (.int ip), .val (.ref b3), .val (.int (10 : Int32)), .val (.int (0 : Int32))] [(.int (10 : Int32)), (.ref b3)])) rfl rfl (hb hby at_162) t k)) ?_
    show Go p.tables e below Pf (T63.setTop (mkF m 163 #[.val (.int ip), .val (.ref b3), .val (.int (10 : Int32)), .val (.int (0 : Int32))] [(.ref w10)]))
    obtain ⟨cq85, kq85, q85a, q85b, q85c⟩ := isOf hZ e63 (G.2.2.2.2.2.2.2.2.2.2.2.2.2.2.2.2.2.2.2.2.2.1.ext O63.2)
    obtain ⟨_, _, ⟨T85, L85, k85, n85⟩, -, X85, ⟨Lc85, hQ85, l85, y85, z85⟩, st85⟩ := X63.virtualBack hx (y := (⟨"com/example/kull/kull/prune/PruningStrategy", "readsKeywordLevel", "()Z"⟩ : MethodName)) (z := (⟨"com/example/kull/kull/prune/PruningStrategy", "readsKeywordLevel", "()Z"⟩ : MethodName)) hown (mvT hZ hw45) (mvT hZ hw46) (notFace_of_selects (args := #[]) (mvT hZ hw48)) (mvT hZ hw48) (mvT hZ hw47) (by decide) (backOf (W := 0) (rmK0 l Z a0 hw [] w0 w1 w2 w3 w4 w5 w6 w7 w8 w9 w10 w11 w12 w13 w14 w15 w16 w17 w18 w19 G w10 h63 n0 O63 G.2.2.2.2.2.2.2.2.2.2.2.2.2.2.2.2.2.2.2.2.2.2.2.2.2.2.2.2.2.2.2.2.2.2.2.2.2.2.2.2.2.2.2.2.2.2.2.2.2.2.1) hZ hw49 hw3 (by decide) (by decide)) q85a q85c (g := (mkF m 163 #[.val (.int ip), .val (.ref b3), .val (.int (10 : Int32)), .val (.int (0 : Int32))] [(.ref w10)])) rfl (by rw [hml]; rfl) (Steps.refl _) (argsL := []) (rest := []) (lenOf pd_0 rfl) rfl (by show 2 * 0 + _ ≤ _; exact Nat.le_of_eq rfl) (hb hby at_163) (fun _ _ => ⟨rfl, e63, (by decide : 1 + 0 ≤ _), (by decide : 20 + 0 ≤ _)⟩)
    dsimp only [Pt.U, Pt.locs, Pt.cells, Pt.slots] at X85 l85 y85 z85 st85 hQ85
    subst l85 y85 z85
    obtain ⟨rfl, rfl, e85⟩ := hQ85
    try replace X85 := own_nil X85
    refine Go.by' (fun t k => st85.trans k) ?_
    show Go p.tables e below Pf (T85.setTop (mkF m 166 #[.val (.int ip), .val (.ref b3), .val (.int (10 : Int32)), .val (.int (0 : Int32))] [(.int (0 : Int32))]))
    refine Go.by' (fun t k => (XS.iloadN X85.here hx rfl (hb hby at_166) rfl (XS.icmpNo X85.here hx rfl (hb hby at_167) rfl (teq (by decide)).2 (XS.iconst X85.here hx rfl (hb hby at_170) (XS.goto X85.here hx rfl (pc0 := 171) (pc' := 175) rfl (hb hby at_171) (by decide) (by decide) k))))) ?_
    show Go p.tables e below Pf (T85.setTop (mkF m 175 #[.val (.int ip), .val (.ref b3), .val (.int (10 : Int32)), .val (.int (0 : Int32))] [(.int (1 : Int32))]))
    rw [hPf]
    exact Go.retI' X85 hx hret hlk (by simp) rfl (hb hby at_175) (by decide) (by decide) ⟨rfl, N63, (by rw [e85]; exact KC63)⟩
  · refine Go.castF (a := ((ip &&& (2147483647 : Int32)) % (20 : Int32))) (b := (11 : Int32)) (fun z' : Int32 => mkF m 148 #[.val (.int ip), .val (.ref b3), .val (.int z'), .unset] []) hk ?_
    show Go p.tables e below Pf (T63.setTop (mkF m 148 #[.val (.int ip), .val (.ref b3), .val (.int (11 : Int32)), .unset] []))
    refine Go.by' (fun t k => (XS.iloadN X63.here hx rfl (hb hby at_148) rfl (XS.bipush X63.here hx rfl (hb hby at_149) (XS.icmpYes X63.here hx rfl (pc0 := 151) (pc' := 158) rfl (hb hby at_151) rfl (feq (by decide)).2 (by decide) (by decide) (XS.iconst X63.here hx rfl (hb hby at_158) (XS.istoreN X63.here hx rfl (hb hby at_159) rfl (l' := #[.val (.int ip), .val (.ref b3), .val (.int (11 : Int32)), .val (.int (0 : Int32))]) rfl (XS.aloadN X63.here hx rfl (hb hby at_160) rfl rfl k))))))) ?_
    show Go p.tables e below Pf (T63.setTop (mkF m 161 #[.val (.int ip), .val (.ref b3), .val (.int (11 : Int32)), .val (.int (0 : Int32))] [(.ref b3)]))
    refine Go.by' (fun t k => (XS.iloadN X63.here hx rfl (hb hby at_161) rfl k)) ?_
    show Go p.tables e below Pf (T63.setTop (mkF m 162 #[.val (.int ip), .val (.ref b3), .val (.int (11 : Int32)), .val (.int (0 : Int32))] [(.int (11 : Int32)), (.ref b3)]))
    obtain ⟨cl86, Ar86, q86, S86, P86, H86, G86⟩ := (id V63)
    have hin86 : ¬ ((11 : Int32) < 0 ∨ cl86.slots.size ≤ ((11 : Int32)).toNatClampNeg) := inb_of S86 ⟨by decide, by decide⟩
    refine Go.by' (fun t k => (X63.aaload hx (j := (11 : Int32)) (v := (.ref w11)) (by rw [e63]; exact Ar86.1) (State.isArrayOf_alike hZ.alike Ar86.2.1) rfl Ar86.2.2 hin86 (H86.at hin86 rfl) (g := (mkF m 162 #[.val (.int ip), .val (.ref b3), .val (.int (11 : Int32)), .val (.int (0 : Int32))] [(.int (11 : Int32)), (.ref b3)])) rfl rfl (hb hby at_162) t k)) ?_
    show Go p.tables e below Pf (T63.setTop (mkF m 163 #[.val (.int ip), .val (.ref b3), .val (.int (11 : Int32)), .val (.int (0 : Int32))] [(.ref w11)]))
    obtain ⟨cq87, kq87, q87a, q87b, q87c⟩ := isOf hZ e63 (G.2.2.2.2.2.2.2.2.2.2.2.2.2.2.2.2.2.2.2.2.2.2.2.1.ext O63.2)
    obtain ⟨_, _, ⟨T87, L87, k87, n87⟩, -, X87, ⟨Lc87, hQ87, l87, y87, z87⟩, st87⟩ := X63.virtualBack hx (y := (⟨"com/example/kull/kull/prune/PruningStrategy", "readsKeywordLevel", "()Z"⟩ : MethodName)) (z := (⟨"com/example/kull/kull/prune/PruningStrategy", "readsKeywordLevel", "()Z"⟩ : MethodName)) hown (mvT hZ hw45) (mvT hZ hw46) (notFace_of_selects (args := #[]) (mvT hZ hw48)) (mvT hZ hw48) (mvT hZ hw47) (by decide) (backOf (W := 0) (rmK0 l Z a0 hw [] w0 w1 w2 w3 w4 w5 w6 w7 w8 w9 w10 w11 w12 w13 w14 w15 w16 w17 w18 w19 G w11 h63 n0 O63 G.2.2.2.2.2.2.2.2.2.2.2.2.2.2.2.2.2.2.2.2.2.2.2.2.2.2.2.2.2.2.2.2.2.2.2.2.2.2.2.2.2.2.2.2.2.2.2.2.2.2.2.1) hZ hw49 hw3 (by decide) (by decide)) q87a q87c (g := (mkF m 163 #[.val (.int ip), .val (.ref b3), .val (.int (11 : Int32)), .val (.int (0 : Int32))] [(.ref w11)])) rfl (by rw [hml]; rfl) (Steps.refl _) (argsL := []) (rest := []) (lenOf pd_0 rfl) rfl (by show 2 * 0 + _ ≤ _; exact Nat.le_of_eq rfl) (hb hby at_163) (fun _ _ => ⟨rfl, e63, (by decide : 1 + 0 ≤ _), (by decide : 20 + 0 ≤ _)⟩)
    dsimp only [Pt.U, Pt.locs, Pt.cells, Pt.slots] at X87 l87 y87 z87 st87 hQ87
    subst l87 y87 z87
    obtain ⟨rfl, rfl, e87⟩ := hQ87
    try replace X87 := own_nil X87
    refine Go.by' (fun t k => st87.trans k) ?_
    show Go p.tables e below Pf (T87.setTop (mkF m 166 #[.val (.int ip), .val (.ref b3), .val (.int (11 : Int32)), .val (.int (0 : Int32))] [(.int (0 : Int32))]))
    refine Go.by' (fun t k => (XS.iloadN X87.here hx rfl (hb hby at_166) rfl (XS.icmpNo X87.here hx rfl (hb hby at_167) rfl (teq (by decide)).2 (XS.iconst X87.here hx rfl (hb hby at_170) (XS.goto X87.here hx rfl (pc0 := 171) (pc' := 175) rfl (hb hby at_171) (by decide) (by decide) k))))) ?_
    show Go p.tables e below Pf (T87.setTop (mkF m 175 #[.val (.int ip), .val (.ref b3), .val (.int (11 : Int32)), .val (.int (0 : Int32))] [(.int (1 : Int32))]))
    rw [hPf]
    exact Go.retI' X87 hx hret hlk (by simp) rfl (hb hby at_175) (by decide) (by decide) ⟨rfl, N63, (by rw [e87]; exact KC63)⟩
  · refine Go.castF (a := ((ip &&& (2147483647 : Int32)) % (20 : Int32))) (b := (12 : Int32)) (fun z' : Int32 => mkF m 148 #[.val (.int ip), .val (.ref b3), .val (.int z'), .unset] []) hk ?_
    show Go p.tables e below Pf (T63.setTop (mkF m 148 #[.val (.int ip), .val (.ref b3), .val (.int (12 : Int32)), .unset] []))
    refine Go.by' (fun t k => (XS.iloadN X63.here hx rfl (hb hby at_148) rfl (XS.bipush X63.here hx rfl (hb hby at_149) (XS.icmpYes X63.here hx rfl (pc0 := 151) (pc' := 158) rfl (hb hby at_151) rfl (feq (by decide)).2 (by decide) (by decide) (XS.iconst X63.here hx rfl (hb hby at_158) (XS.istoreN X63.here hx rfl (hb hby at_159) rfl (l' := #[.val (.int ip), .val (.ref b3), .val (.int (12 : Int32)), .val (.int (0 : Int32))]) rfl (XS.aloadN X63.here hx rfl (hb hby at_160) rfl rfl k))))))) ?_
    show Go p.tables e below Pf (T63.setTop (mkF m 161 #[.val (.int ip), .val (.ref b3), .val (.int (12 : Int32)), .val (.int (0 : Int32))] [(.ref b3)]))
    refine Go.by' (fun t k => (XS.iloadN X63.here hx rfl (hb hby at_161) rfl k)) ?_
    show Go p.tables e below Pf (T63.setTop (mkF m 162 #[.val (.int ip), .val (.ref b3), .val (.int (12 : Int32)), .val (.int (0 : Int32))] [(.int (12 : Int32)), (.ref b3)]))
    obtain ⟨cl88, Ar88, q88, S88, P88, H88, G88⟩ := (id V63)
    have hin88 : ¬ ((12 : Int32) < 0 ∨ cl88.slots.size ≤ ((12 : Int32)).toNatClampNeg) := inb_of S88 ⟨by decide, by decide⟩
    refine Go.by' (fun t k => (X63.aaload hx (j := (12 : Int32)) (v := (.ref w12)) (by rw [e63]; exact Ar88.1) (State.isArrayOf_alike hZ.alike Ar88.2.1) rfl Ar88.2.2 hin88 (H88.at hin88 rfl) (g := (mkF m 162 #[.val (.int ip), .val (.ref b3), .val (.int (12 : Int32)), .val (.int (0 : Int32))] [(.int (12 : Int32)), (.ref b3)])) rfl rfl (hb hby at_162) t k)) ?_
    show Go p.tables e below Pf (T63.setTop (mkF m 163 #[.val (.int ip), .val (.ref b3), .val (.int (12 : Int32)), .val (.int (0 : Int32))] [(.ref w12)]))
    obtain ⟨cq89, kq89, q89a, q89b, q89c⟩ := isOf hZ e63 (G.2.2.2.2.2.2.2.2.2.2.2.2.2.2.2.2.2.2.2.2.2.2.2.2.2.1.ext O63.2)
    obtain ⟨_, _, ⟨T89, L89, k89, n89⟩, -, X89, ⟨Lc89, hQ89, l89, y89, z89⟩, st89⟩ := X63.virtualBack hx (y := (⟨"com/example/kull/kull/prune/PruningStrategy", "readsKeywordLevel", "()Z"⟩ : MethodName)) (z := (⟨"com/example/kull/kull/prune/PruningStrategy", "readsKeywordLevel", "()Z"⟩ : MethodName)) hown (mvT hZ hw45) (mvT hZ hw46) (notFace_of_selects (args := #[]) (mvT hZ hw48)) (mvT hZ hw48) (mvT hZ hw47) (by decide) (backOf (W := 0) (rmK0 l Z a0 hw [] w0 w1 w2 w3 w4 w5 w6 w7 w8 w9 w10 w11 w12 w13 w14 w15 w16 w17 w18 w19 G w12 h63 n0 O63 G.2.2.2.2.2.2.2.2.2.2.2.2.2.2.2.2.2.2.2.2.2.2.2.2.2.2.2.2.2.2.2.2.2.2.2.2.2.2.2.2.2.2.2.2.2.2.2.2.2.2.2.2.1) hZ hw49 hw3 (by decide) (by decide)) q89a q89c (g := (mkF m 163 #[.val (.int ip), .val (.ref b3), .val (.int (12 : Int32)), .val (.int (0 : Int32))] [(.ref w12)])) rfl (by rw [hml]; rfl) (Steps.refl _) (argsL := []) (rest := []) (lenOf pd_0 rfl) rfl (by show 2 * 0 + _ ≤ _; exact Nat.le_of_eq rfl) (hb hby at_163) (fun _ _ => ⟨rfl, e63, (by decide : 1 + 0 ≤ _), (by decide : 20 + 0 ≤ _)⟩)
    dsimp only [Pt.U, Pt.locs, Pt.cells, Pt.slots] at X89 l89 y89 z89 st89 hQ89
    subst l89 y89 z89
    obtain ⟨rfl, rfl, e89⟩ := hQ89
    try replace X89 := own_nil X89
    refine Go.by' (fun t k => st89.trans k) ?_
    show Go p.tables e below Pf (T89.setTop (mkF m 166 #[.val (.int ip), .val (.ref b3), .val (.int (12 : Int32)), .val (.int (0 : Int32))] [(.int (0 : Int32))]))
    refine Go.by' (fun t k => (XS.iloadN X89.here hx rfl (hb hby at_166) rfl (XS.icmpNo X89.here hx rfl (hb hby at_167) rfl (teq (by decide)).2 (XS.iconst X89.here hx rfl (hb hby at_170) (XS.goto X89.here hx rfl (pc0 := 171) (pc' := 175) rfl (hb hby at_171) (by decide) (by decide) k))))) ?_
    show Go p.tables e below Pf (T89.setTop (mkF m 175 #[.val (.int ip), .val (.ref b3), .val (.int (12 : Int32)), .val (.int (0 : Int32))] [(.int (1 : Int32))]))
    rw [hPf]
    exact Go.retI' X89 hx hret hlk (by simp) rfl (hb hby at_175) (by decide) (by decide) ⟨rfl, N63, (by rw [e89]; exact KC63)⟩
  · refine Go.castF (a := ((ip &&& (2147483647 : Int32)) % (20 : Int32))) (b := (13 : Int32)) (fun z' : Int32 => mkF m 148 #[.val (.int ip), .val (.ref b3), .val (.int z'), .unset] []) hk ?_
    show Go p.tables e below Pf (T63.setTop (mkF m 148 #[.val (.int ip), .val (.ref b3), .val (.int (13 : Int32)), .unset] []))
    refine Go.by' (fun t k => (XS.iloadN X63.here hx rfl (hb hby at_148) rfl (XS.bipush X63.here hx rfl (hb hby at_149) (XS.icmpYes X63.here hx rfl (pc0 := 151) (pc' := 158) rfl (hb hby at_151) rfl (feq (by decide)).2 (by decide) (by decide) (XS.iconst X63.here hx rfl (hb hby at_158) (XS.istoreN X63.here hx rfl (hb hby at_159) rfl (l' := #[.val (.int ip), .val (.ref b3), .val (.int (13 : Int32)), .val (.int (0 : Int32))]) rfl (XS.aloadN X63.here hx rfl (hb hby at_160) rfl rfl k))))))) ?_
    show Go p.tables e below Pf (T63.setTop (mkF m 161 #[.val (.int ip), .val (.ref b3), .val (.int (13 : Int32)), .val (.int (0 : Int32))] [(.ref b3)]))
    refine Go.by' (fun t k => (XS.iloadN X63.here hx rfl (hb hby at_161) rfl k)) ?_
    show Go p.tables e below Pf (T63.setTop (mkF m 162 #[.val (.int ip), .val (.ref b3), .val (.int (13 : Int32)), .val (.int (0 : Int32))] [(.int (13 : Int32)), (.ref b3)]))
    obtain ⟨cl90, Ar90, q90, S90, P90, H90, G90⟩ := (id V63)
    have hin90 : ¬ ((13 : Int32) < 0 ∨ cl90.slots.size ≤ ((13 : Int32)).toNatClampNeg) := inb_of S90 ⟨by decide, by decide⟩
    refine Go.by' (fun t k => (X63.aaload hx (j := (13 : Int32)) (v := (.ref w13)) (by rw [e63]; exact Ar90.1) (State.isArrayOf_alike hZ.alike Ar90.2.1) rfl Ar90.2.2 hin90 (H90.at hin90 rfl) (g := (mkF m 162 #[.val (.int ip), .val (.ref b3), .val (.int (13 : Int32)), .val (.int (0 : Int32))] [(.int (13 : Int32)), (.ref b3)])) rfl rfl (hb hby at_162) t k)) ?_
    show Go p.tables e below Pf (T63.setTop (mkF m 163 #[.val (.int ip), .val (.ref b3), .val (.int (13 : Int32)), .val (.int (0 : Int32))] [(.ref w13)]))
    obtain ⟨cq91, kq91, q91a, q91b, q91c⟩ := isOf hZ e63 (G.2.2.2.2.2.2.2.2.2.2.2.2.2.2.2.2.2.2.2.2.2.2.2.2.2.2.2.1.ext O63.2)
    obtain ⟨_, _, ⟨T91, L91, k91, n91⟩, -, X91, ⟨Lc91, hQ91, l91, y91, z91⟩, st91⟩ := X63.virtualBack hx (y := (⟨"com/example/kull/kull/prune/PruningStrategy", "readsKeywordLevel", "()Z"⟩ : MethodName)) (z := (⟨"com/example/kull/kull/prune/PruningStrategy", "readsKeywordLevel", "()Z"⟩ : MethodName)) hown (mvT hZ hw45) (mvT hZ hw46) (notFace_of_selects (args := #[]) (mvT hZ hw48)) (mvT hZ hw48) (mvT hZ hw47) (by decide) (backOf (W := 0) (rmK0 l Z a0 hw [] w0 w1 w2 w3 w4 w5 w6 w7 w8 w9 w10 w11 w12 w13 w14 w15 w16 w17 w18 w19 G w13 h63 n0 O63 G.2.2.2.2.2.2.2.2.2.2.2.2.2.2.2.2.2.2.2.2.2.2.2.2.2.2.2.2.2.2.2.2.2.2.2.2.2.2.2.2.2.2.2.2.2.2.2.2.2.2.2.2.2.1) hZ hw49 hw3 (by decide) (by decide)) q91a q91c (g := (mkF m 163 #[.val (.int ip), .val (.ref b3), .val (.int (13 : Int32)), .val (.int (0 : Int32))] [(.ref w13)])) rfl (by rw [hml]; rfl) (Steps.refl _) (argsL := []) (rest := []) (lenOf pd_0 rfl) rfl (by show 2 * 0 + _ ≤ _; exact Nat.le_of_eq rfl) (hb hby at_163) (fun _ _ => ⟨rfl, e63, (by decide : 1 + 0 ≤ _), (by decide : 20 + 0 ≤ _)⟩)
    dsimp only [Pt.U, Pt.locs, Pt.cells, Pt.slots] at X91 l91 y91 z91 st91 hQ91
    subst l91 y91 z91
    obtain ⟨rfl, rfl, e91⟩ := hQ91
    try replace X91 := own_nil X91
    refine Go.by' (fun t k => st91.trans k) ?_
    show Go p.tables e below Pf (T91.setTop (mkF m 166 #[.val (.int ip), .val (.ref b3), .val (.int (13 : Int32)), .val (.int (0 : Int32))] [(.int (0 : Int32))]))
    refine Go.by' (fun t k => (XS.iloadN X91.here hx rfl (hb hby at_166) rfl (XS.icmpNo X91.here hx rfl (hb hby at_167) rfl (teq (by decide)).2 (XS.iconst X91.here hx rfl (hb hby at_170) (XS.goto X91.here hx rfl (pc0 := 171) (pc' := 175) rfl (hb hby at_171) (by decide) (by decide) k))))) ?_
    show Go p.tables e below Pf (T91.setTop (mkF m 175 #[.val (.int ip), .val (.ref b3), .val (.int (13 : Int32)), .val (.int (0 : Int32))] [(.int (1 : Int32))]))
    rw [hPf]
    exact Go.retI' X91 hx hret hlk (by simp) rfl (hb hby at_175) (by decide) (by decide) ⟨rfl, N63, (by rw [e91]; exact KC63)⟩
  · refine Go.castF (a := ((ip &&& (2147483647 : Int32)) % (20 : Int32))) (b := (14 : Int32)) (fun z' : Int32 => mkF m 148 #[.val (.int ip), .val (.ref b3), .val (.int z'), .unset] []) hk ?_
    show Go p.tables e below Pf (T63.setTop (mkF m 148 #[.val (.int ip), .val (.ref b3), .val (.int (14 : Int32)), .unset] []))
    refine Go.by' (fun t k => (XS.iloadN X63.here hx rfl (hb hby at_148) rfl (XS.bipush X63.here hx rfl (hb hby at_149) (XS.icmpYes X63.here hx rfl (pc0 := 151) (pc' := 158) rfl (hb hby at_151) rfl (feq (by decide)).2 (by decide) (by decide) (XS.iconst X63.here hx rfl (hb hby at_158) (XS.istoreN X63.here hx rfl (hb hby at_159) rfl (l' := #[.val (.int ip), .val (.ref b3), .val (.int (14 : Int32)), .val (.int (0 : Int32))]) rfl (XS.aloadN X63.here hx rfl (hb hby at_160) rfl rfl k))))))) ?_
    show Go p.tables e below Pf (T63.setTop (mkF m 161 #[.val (.int ip), .val (.ref b3), .val (.int (14 : Int32)), .val (.int (0 : Int32))] [(.ref b3)]))
    refine Go.by' (fun t k => (XS.iloadN X63.here hx rfl (hb hby at_161) rfl k)) ?_
    show Go p.tables e below Pf (T63.setTop (mkF m 162 #[.val (.int ip), .val (.ref b3), .val (.int (14 : Int32)), .val (.int (0 : Int32))] [(.int (14 : Int32)), (.ref b3)]))
    obtain ⟨cl92, Ar92, q92, S92, P92, H92, G92⟩ := (id V63)
    have hin92 : ¬ ((14 : Int32) < 0 ∨ cl92.slots.size ≤ ((14 : Int32)).toNatClampNeg) := inb_of S92 ⟨by decide, by decide⟩
    refine Go.by' (fun t k => (X63.aaload hx (j := (14 : Int32)) (v := (.ref w14)) (by rw [e63]; exact Ar92.1) (State.isArrayOf_alike hZ.alike Ar92.2.1) rfl Ar92.2.2 hin92 (H92.at hin92 rfl) (g := (mkF m 162 #[.val (.int ip), .val (.ref b3), .val (.int (14 : Int32)), .val (.int (0 : Int32))] [(.int (14 : Int32)), (.ref b3)])) rfl rfl (hb hby at_162) t k)) ?_
    show Go p.tables e below Pf (T63.setTop (mkF m 163 #[.val (.int ip), .val (.ref b3), .val (.int (14 : Int32)), .val (.int (0 : Int32))] [(.ref w14)]))
    obtain ⟨cq93, kq93, q93a, q93b, q93c⟩ := isOf hZ e63 (G.2.2.2.2.2.2.2.2.2.2.2.2.2.2.2.2.2.2.2.2.2.2.2.2.2.2.2.2.2.1.ext O63.2)
    obtain ⟨_, _, ⟨T93, L93, k93, n93⟩, -, X93, ⟨Lc93, hQ93, l93, y93, z93⟩, st93⟩ := X63.virtualBack hx (y := (⟨"com/example/kull/kull/prune/PruningStrategy", "readsKeywordLevel", "()Z"⟩ : MethodName)) (z := (⟨"com/example/kull/kull/prune/PruningStrategy", "readsKeywordLevel", "()Z"⟩ : MethodName)) hown (mvT hZ hw45) (mvT hZ hw46) (notFace_of_selects (args := #[]) (mvT hZ hw48)) (mvT hZ hw48) (mvT hZ hw47) (by decide) (backOf (W := 0) (rmK0 l Z a0 hw [] w0 w1 w2 w3 w4 w5 w6 w7 w8 w9 w10 w11 w12 w13 w14 w15 w16 w17 w18 w19 G w14 h63 n0 O63 G.2.2.2.2.2.2.2.2.2.2.2.2.2.2.2.2.2.2.2.2.2.2.2.2.2.2.2.2.2.2.2.2.2.2.2.2.2.2.2.2.2.2.2.2.2.2.2.2.2.2.2.2.2.2.1) hZ hw49 hw3 (by decide) (by decide)) q93a q93c (g := (mkF m 163 #[.val (.int ip), .val (.ref b3), .val (.int (14 : Int32)), .val (.int (0 : Int32))] [(.ref w14)])) rfl (by rw [hml]; rfl) (Steps.refl _) (argsL := []) (rest := []) (lenOf pd_0 rfl) rfl (by show 2 * 0 + _ ≤ _; exact Nat.le_of_eq rfl) (hb hby at_163) (fun _ _ => ⟨rfl, e63, (by decide : 1 + 0 ≤ _), (by decide : 20 + 0 ≤ _)⟩)
    dsimp only [Pt.U, Pt.locs, Pt.cells, Pt.slots] at X93 l93 y93 z93 st93 hQ93
    subst l93 y93 z93
    obtain ⟨rfl, rfl, e93⟩ := hQ93
    try replace X93 := own_nil X93
    refine Go.by' (fun t k => st93.trans k) ?_
    show Go p.tables e below Pf (T93.setTop (mkF m 166 #[.val (.int ip), .val (.ref b3), .val (.int (14 : Int32)), .val (.int (0 : Int32))] [(.int (0 : Int32))]))
    refine Go.by' (fun t k => (XS.iloadN X93.here hx rfl (hb hby at_166) rfl (XS.icmpNo X93.here hx rfl (hb hby at_167) rfl (teq (by decide)).2 (XS.iconst X93.here hx rfl (hb hby at_170) (XS.goto X93.here hx rfl (pc0 := 171) (pc' := 175) rfl (hb hby at_171) (by decide) (by decide) k))))) ?_
    show Go p.tables e below Pf (T93.setTop (mkF m 175 #[.val (.int ip), .val (.ref b3), .val (.int (14 : Int32)), .val (.int (0 : Int32))] [(.int (1 : Int32))]))
    rw [hPf]
    exact Go.retI' X93 hx hret hlk (by simp) rfl (hb hby at_175) (by decide) (by decide) ⟨rfl, N63, (by rw [e93]; exact KC63)⟩
  · refine Go.castF (a := ((ip &&& (2147483647 : Int32)) % (20 : Int32))) (b := (15 : Int32)) (fun z' : Int32 => mkF m 148 #[.val (.int ip), .val (.ref b3), .val (.int z'), .unset] []) hk ?_
    show Go p.tables e below Pf (T63.setTop (mkF m 148 #[.val (.int ip), .val (.ref b3), .val (.int (15 : Int32)), .unset] []))
    refine Go.by' (fun t k => (XS.iloadN X63.here hx rfl (hb hby at_148) rfl (XS.bipush X63.here hx rfl (hb hby at_149) (XS.icmpYes X63.here hx rfl (pc0 := 151) (pc' := 158) rfl (hb hby at_151) rfl (feq (by decide)).2 (by decide) (by decide) (XS.iconst X63.here hx rfl (hb hby at_158) (XS.istoreN X63.here hx rfl (hb hby at_159) rfl (l' := #[.val (.int ip), .val (.ref b3), .val (.int (15 : Int32)), .val (.int (0 : Int32))]) rfl (XS.aloadN X63.here hx rfl (hb hby at_160) rfl rfl k))))))) ?_
    show Go p.tables e below Pf (T63.setTop (mkF m 161 #[.val (.int ip), .val (.ref b3), .val (.int (15 : Int32)), .val (.int (0 : Int32))] [(.ref b3)]))
    refine Go.by' (fun t k => (XS.iloadN X63.here hx rfl (hb hby at_161) rfl k)) ?_
    show Go p.tables e below Pf (T63.setTop (mkF m 162 #[.val (.int ip), .val (.ref b3), .val (.int (15 : Int32)), .val (.int (0 : Int32))] [(.int (15 : Int32)), (.ref b3)]))
    obtain ⟨cl94, Ar94, q94, S94, P94, H94, G94⟩ := (id V63)
    have hin94 : ¬ ((15 : Int32) < 0 ∨ cl94.slots.size ≤ ((15 : Int32)).toNatClampNeg) := inb_of S94 ⟨by decide, by decide⟩
    refine Go.by' (fun t k => (X63.aaload hx (j := (15 : Int32)) (v := (.ref w15)) (by rw [e63]; exact Ar94.1) (State.isArrayOf_alike hZ.alike Ar94.2.1) rfl Ar94.2.2 hin94 (H94.at hin94 rfl) (g := (mkF m 162 #[.val (.int ip), .val (.ref b3), .val (.int (15 : Int32)), .val (.int (0 : Int32))] [(.int (15 : Int32)), (.ref b3)])) rfl rfl (hb hby at_162) t k)) ?_
    show Go p.tables e below Pf (T63.setTop (mkF m 163 #[.val (.int ip), .val (.ref b3), .val (.int (15 : Int32)), .val (.int (0 : Int32))] [(.ref w15)]))
    obtain ⟨cq95, kq95, q95a, q95b, q95c⟩ := isOf hZ e63 (G.2.2.2.2.2.2.2.2.2.2.2.2.2.2.2.2.2.2.2.2.2.2.2.2.2.2.2.2.2.2.2.1.ext O63.2)
    obtain ⟨_, _, ⟨T95, L95, k95, n95⟩, -, X95, ⟨Lc95, hQ95, l95, y95, z95⟩, st95⟩ := X63.virtualBack hx (y := (⟨"com/example/kull/kull/prune/PruningStrategy", "readsKeywordLevel", "()Z"⟩ : MethodName)) (z := (⟨"com/example/kull/kull/prune/PruningStrategy", "readsKeywordLevel", "()Z"⟩ : MethodName)) hown (mvT hZ hw45) (mvT hZ hw46) (notFace_of_selects (args := #[]) (mvT hZ hw48)) (mvT hZ hw48) (mvT hZ hw47) (by decide) (backOf (W := 0) (rmK0 l Z a0 hw [] w0 w1 w2 w3 w4 w5 w6 w7 w8 w9 w10 w11 w12 w13 w14 w15 w16 w17 w18 w19 G w15 h63 n0 O63 G.2.2.2.2.2.2.2.2.2.2.2.2.2.2.2.2.2.2.2.2.2.2.2.2.2.2.2.2.2.2.2.2.2.2.2.2.2.2.2.2.2.2.2.2.2.2.2.2.2.2.2.2.2.2.2.1) hZ hw49 hw3 (by decide) (by decide)) q95a q95c (g := (mkF m 163 #[.val (.int ip), .val (.ref b3), .val (.int (15 : Int32)), .val (.int (0 : Int32))] [(.ref w15)])) rfl (by rw [hml]; rfl) (Steps.refl _) (argsL := []) (rest := []) (lenOf pd_0 rfl) rfl (by show 2 * 0 + _ ≤ _; exact Nat.le_of_eq rfl) (hb hby at_163) (fun _ _ => ⟨rfl, e63, (by decide : 1 + 0 ≤ _), (by decide : 20 + 0 ≤ _)⟩)
    dsimp only [Pt.U, Pt.locs, Pt.cells, Pt.slots] at X95 l95 y95 z95 st95 hQ95
    subst l95 y95 z95
    obtain ⟨rfl, rfl, e95⟩ := hQ95
    try replace X95 := own_nil X95
    refine Go.by' (fun t k => st95.trans k) ?_
    show Go p.tables e below Pf (T95.setTop (mkF m 166 #[.val (.int ip), .val (.ref b3), .val (.int (15 : Int32)), .val (.int (0 : Int32))] [(.int (0 : Int32))]))
    refine Go.by' (fun t k => (XS.iloadN X95.here hx rfl (hb hby at_166) rfl (XS.icmpNo X95.here hx rfl (hb hby at_167) rfl (teq (by decide)).2 (XS.iconst X95.here hx rfl (hb hby at_170) (XS.goto X95.here hx rfl (pc0 := 171) (pc' := 175) rfl (hb hby at_171) (by decide) (by decide) k))))) ?_
    show Go p.tables e below Pf (T95.setTop (mkF m 175 #[.val (.int ip), .val (.ref b3), .val (.int (15 : Int32)), .val (.int (0 : Int32))] [(.int (1 : Int32))]))
    rw [hPf]
    exact Go.retI' X95 hx hret hlk (by simp) rfl (hb hby at_175) (by decide) (by decide) ⟨rfl, N63, (by rw [e95]; exact KC63)⟩
  · refine Go.castF (a := ((ip &&& (2147483647 : Int32)) % (20 : Int32))) (b := (16 : Int32)) (fun z' : Int32 => mkF m 148 #[.val (.int ip), .val (.ref b3), .val (.int z'), .unset] []) hk ?_
    show Go p.tables e below Pf (T63.setTop (mkF m 148 #[.val (.int ip), .val (.ref b3), .val (.int (16 : Int32)), .unset] []))
    refine Go.by' (fun t k => (XS.iloadN X63.here hx rfl (hb hby at_148) rfl (XS.bipush X63.here hx rfl (hb hby at_149) (XS.icmpYes X63.here hx rfl (pc0 := 151) (pc' := 158) rfl (hb hby at_151) rfl (feq (by decide)).2 (by decide) (by decide) (XS.iconst X63.here hx rfl (hb hby at_158) (XS.istoreN X63.here hx rfl (hb hby at_159) rfl (l' := #[.val (.int ip), .val (.ref b3), .val (.int (16 : Int32)), .val (.int (0 : Int32))]) rfl (XS.aloadN X63.here hx rfl (hb hby at_160) rfl rfl k))))))) ?_
    show Go p.tables e below Pf (T63.setTop (mkF m 161 #[.val (.int ip), .val (.ref b3), .val (.int (16 : Int32)), .val (.int (0 : Int32))] [(.ref b3)]))
    refine Go.by' (fun t k => (XS.iloadN X63.here hx rfl (hb hby at_161) rfl k)) ?_
    show Go p.tables e below Pf (T63.setTop (mkF m 162 #[.val (.int ip), .val (.ref b3), .val (.int (16 : Int32)), .val (.int (0 : Int32))] [(.int (16 : Int32)), (.ref b3)]))
    obtain ⟨cl96, Ar96, q96, S96, P96, H96, G96⟩ := (id V63)
    have hin96 : ¬ ((16 : Int32) < 0 ∨ cl96.slots.size ≤ ((16 : Int32)).toNatClampNeg) := inb_of S96 ⟨by decide, by decide⟩
    refine Go.by' (fun t k => (X63.aaload hx (j := (16 : Int32)) (v := (.ref w16)) (by rw [e63]; exact Ar96.1) (State.isArrayOf_alike hZ.alike Ar96.2.1) rfl Ar96.2.2 hin96 (H96.at hin96 rfl) (g := (mkF m 162 #[.val (.int ip), .val (.ref b3), .val (.int (16 : Int32)), .val (.int (0 : Int32))] [(.int (16 : Int32)), (.ref b3)])) rfl rfl (hb hby at_162) t k)) ?_
    show Go p.tables e below Pf (T63.setTop (mkF m 163 #[.val (.int ip), .val (.ref b3), .val (.int (16 : Int32)), .val (.int (0 : Int32))] [(.ref w16)]))
    obtain ⟨cq97, kq97, q97a, q97b, q97c⟩ := isOf hZ e63 (G.2.2.2.2.2.2.2.2.2.2.2.2.2.2.2.2.2.2.2.2.2.2.2.2.2.2.2.2.2.2.2.2.2.1.ext O63.2)
    obtain ⟨_, _, ⟨T97, L97, k97, n97⟩, -, X97, ⟨Lc97, hQ97, l97, y97, z97⟩, st97⟩ := X63.virtualBack hx (y := (⟨"com/example/kull/kull/prune/PruningStrategy", "readsKeywordLevel", "()Z"⟩ : MethodName)) (z := (⟨"com/example/kull/kull/prune/PruningStrategy", "readsKeywordLevel", "()Z"⟩ : MethodName)) hown (mvT hZ hw45) (mvT hZ hw46) (notFace_of_selects (args := #[]) (mvT hZ hw48)) (mvT hZ hw48) (mvT hZ hw47) (by decide) (backOf (W := 0) (rmK0 l Z a0 hw [] w0 w1 w2 w3 w4 w5 w6 w7 w8 w9 w10 w11 w12 w13 w14 w15 w16 w17 w18 w19 G w16 h63 n0 O63 G.2.2.2.2.2.2.2.2.2.2.2.2.2.2.2.2.2.2.2.2.2.2.2.2.2.2.2.2.2.2.2.2.2.2.2.2.2.2.2.2.2.2.2.2.2.2.2.2.2.2.2.2.2.2.2.2.1) hZ hw49 hw3 (by decide) (by decide)) q97a q97c (g := (mkF m 163 #[.val (.int ip), .val (.ref b3), .val (.int (16 : Int32)), .val (.int (0 : Int32))] [(.ref w16)])) rfl (by rw [hml]; rfl) (Steps.refl _) (argsL := []) (rest := []) (lenOf pd_0 rfl) rfl (by show 2 * 0 + _ ≤ _; exact Nat.le_of_eq rfl) (hb hby at_163) (fun _ _ => ⟨rfl, e63, (by decide : 1 + 0 ≤ _), (by decide : 20 + 0 ≤ _)⟩)
    dsimp only [Pt.U, Pt.locs, Pt.cells, Pt.slots] at X97 l97 y97 z97 st97 hQ97
    subst l97 y97 z97
    obtain ⟨rfl, rfl, e97⟩ := hQ97
    try replace X97 := own_nil X97
    refine Go.by' (fun t k => st97.trans k) ?_
    show Go p.tables e below Pf (T97.setTop (mkF m 166 #[.val (.int ip), .val (.ref b3), .val (.int (16 : Int32)), .val (.int (0 : Int32))] [(.int (0 : Int32))]))
    refine Go.by' (fun t k => (XS.iloadN X97.here hx rfl (hb hby at_166) rfl (XS.icmpNo X97.here hx rfl (hb hby at_167) rfl (teq (by decide)).2 (XS.iconst X97.here hx rfl (hb hby at_170) (XS.goto X97.here hx rfl (pc0 := 171) (pc' := 175) rfl (hb hby at_171) (by decide) (by decide) k))))) ?_
    show Go p.tables e below Pf (T97.setTop (mkF m 175 #[.val (.int ip), .val (.ref b3), .val (.int (16 : Int32)), .val (.int (0 : Int32))] [(.int (1 : Int32))]))
    rw [hPf]
    exact Go.retI' X97 hx hret hlk (by simp) rfl (hb hby at_175) (by decide) (by decide) ⟨rfl, N63, (by rw [e97]; exact KC63)⟩
  · refine Go.castF (a := ((ip &&& (2147483647 : Int32)) % (20 : Int32))) (b := (17 : Int32)) (fun z' : Int32 => mkF m 148 #[.val (.int ip), .val (.ref b3), .val (.int z'), .unset] []) hk ?_
    show Go p.tables e below Pf (T63.setTop (mkF m 148 #[.val (.int ip), .val (.ref b3), .val (.int (17 : Int32)), .unset] []))
    refine Go.by' (fun t k => (XS.iloadN X63.here hx rfl (hb hby at_148) rfl (XS.bipush X63.here hx rfl (hb hby at_149) (XS.icmpYes X63.here hx rfl (pc0 := 151) (pc' := 158) rfl (hb hby at_151) rfl (feq (by decide)).2 (by decide) (by decide) (XS.iconst X63.here hx rfl (hb hby at_158) (XS.istoreN X63.here hx rfl (hb hby at_159) rfl (l' := #[.val (.int ip), .val (.ref b3), .val (.int (17 : Int32)), .val (.int (0 : Int32))]) rfl (XS.aloadN X63.here hx rfl (hb hby at_160) rfl rfl k))))))) ?_
    show Go p.tables e below Pf (T63.setTop (mkF m 161 #[.val (.int ip), .val (.ref b3), .val (.int (17 : Int32)), .val (.int (0 : Int32))] [(.ref b3)]))
    refine Go.by' (fun t k => (XS.iloadN X63.here hx rfl (hb hby at_161) rfl k)) ?_
    show Go p.tables e below Pf (T63.setTop (mkF m 162 #[.val (.int ip), .val (.ref b3), .val (.int (17 : Int32)), .val (.int (0 : Int32))] [(.int (17 : Int32)), (.ref b3)]))
    obtain ⟨cl98, Ar98, q98, S98, P98, H98, G98⟩ := (id V63)
    have hin98 : ¬ ((17 : Int32) < 0 ∨ cl98.slots.size ≤ ((17 : Int32)).toNatClampNeg) := inb_of S98 ⟨by decide, by decide⟩
    refine Go.by' (fun t k => (X63.aaload hx (j := (17 : Int32)) (v := (.ref w17)) (by rw [e63]; exact Ar98.1) (State.isArrayOf_alike hZ.alike Ar98.2.1) rfl Ar98.2.2 hin98 (H98.at hin98 rfl) (g := (mkF m 162 #[.val (.int ip), .val (.ref b3), .val (.int (17 : Int32)), .val (.int (0 : Int32))] [(.int (17 : Int32)), (.ref b3)])) rfl rfl (hb hby at_162) t k)) ?_
    show Go p.tables e below Pf (T63.setTop (mkF m 163 #[.val (.int ip), .val (.ref b3), .val (.int (17 : Int32)), .val (.int (0 : Int32))] [(.ref w17)]))
    obtain ⟨cq99, kq99, q99a, q99b, q99c⟩ := isOf hZ e63 (G.2.2.2.2.2.2.2.2.2.2.2.2.2.2.2.2.2.2.2.2.2.2.2.2.2.2.2.2.2.2.2.2.2.2.2.1.ext O63.2)
    obtain ⟨_, _, ⟨T99, L99, k99, n99⟩, -, X99, ⟨Lc99, hQ99, l99, y99, z99⟩, st99⟩ := X63.virtualBack hx (y := (⟨"com/example/kull/kull/prune/PruningStrategy", "readsKeywordLevel", "()Z"⟩ : MethodName)) (z := (⟨"com/example/kull/kull/prune/PruningStrategy", "readsKeywordLevel", "()Z"⟩ : MethodName)) hown (mvT hZ hw45) (mvT hZ hw46) (notFace_of_selects (args := #[]) (mvT hZ hw48)) (mvT hZ hw48) (mvT hZ hw47) (by decide) (backOf (W := 0) (rmK0 l Z a0 hw [] w0 w1 w2 w3 w4 w5 w6 w7 w8 w9 w10 w11 w12 w13 w14 w15 w16 w17 w18 w19 G w17 h63 n0 O63 G.2.2.2.2.2.2.2.2.2.2.2.2.2.2.2.2.2.2.2.2.2.2.2.2.2.2.2.2.2.2.2.2.2.2.2.2.2.2.2.2.2.2.2.2.2.2.2.2.2.2.2.2.2.2.2.2.2.1) hZ hw49 hw3 (by decide) (by decide)) q99a q99c (g := (mkF m 163 #[.val (.int ip), .val (.ref b3), .val (.int (17 : Int32)), .val (.int (0 : Int32))] [(.ref w17)])) rfl (by rw [hml]; rfl) (Steps.refl _) (argsL := []) (rest := []) (lenOf pd_0 rfl) rfl (by show 2 * 0 + _ ≤ _; exact Nat.le_of_eq rfl) (hb hby at_163) (fun _ _ => ⟨rfl, e63, (by decide : 1 + 0 ≤ _), (by decide : 20 + 0 ≤ _)⟩)
    dsimp only [Pt.U, Pt.locs, Pt.cells, Pt.slots] at X99 l99 y99 z99 st99 hQ99
    subst l99 y99 z99
    obtain ⟨rfl, rfl, e99⟩ := hQ99
    try replace X99 := own_nil X99
    refine Go.by' (fun t k => st99.trans k) ?_
    show Go p.tables e below Pf (T99.setTop (mkF m 166 #[.val (.int ip), .val (.ref b3), .val (.int (17 : Int32)), .val (.int (0 : Int32))] [(.int (0 : Int32))]))
    refine Go.by' (fun t k => (XS.iloadN X99.here hx rfl (hb hby at_166) rfl (XS.icmpNo X99.here hx rfl (hb hby at_167) rfl (teq (by decide)).2 (XS.iconst X99.here hx rfl (hb hby at_170) (XS.goto X99.here hx rfl (pc0 := 171) (pc' := 175) rfl (hb hby at_171) (by decide) (by decide) k))))) ?_
    show Go p.tables e below Pf (T99.setTop (mkF m 175 #[.val (.int ip), .val (.ref b3), .val (.int (17 : Int32)), .val (.int (0 : Int32))] [(.int (1 : Int32))]))
    rw [hPf]
    exact Go.retI' X99 hx hret hlk (by simp) rfl (hb hby at_175) (by decide) (by decide) ⟨rfl, N63, (by rw [e99]; exact KC63)⟩
  · refine Go.castF (a := ((ip &&& (2147483647 : Int32)) % (20 : Int32))) (b := (18 : Int32)) (fun z' : Int32 => mkF m 148 #[.val (.int ip), .val (.ref b3), .val (.int z'), .unset] []) hk ?_
    show Go p.tables e below Pf (T63.setTop (mkF m 148 #[.val (.int ip), .val (.ref b3), .val (.int (18 : Int32)), .unset] []))
    refine Go.by' (fun t k => (XS.iloadN X63.here hx rfl (hb hby at_148) rfl (XS.bipush X63.here hx rfl (hb hby at_149) (XS.icmpYes X63.here hx rfl (pc0 := 151) (pc' := 158) rfl (hb hby at_151) rfl (feq (by decide)).2 (by decide) (by decide) (XS.iconst X63.here hx rfl (hb hby at_158) (XS.istoreN X63.here hx rfl (hb hby at_159) rfl (l' := #[.val (.int ip), .val (.ref b3), .val (.int (18 : Int32)), .val (.int (0 : Int32))]) rfl (XS.aloadN X63.here hx rfl (hb hby at_160) rfl rfl k))))))) ?_
    show Go p.tables e below Pf (T63.setTop (mkF m 161 #[.val (.int ip), .val (.ref b3), .val (.int (18 : Int32)), .val (.int (0 : Int32))] [(.ref b3)]))
    refine Go.by' (fun t k => (XS.iloadN X63.here hx rfl (hb hby at_161) rfl k)) ?_
    show Go p.tables e below Pf (T63.setTop (mkF m 162 #[.val (.int ip), .val (.ref b3), .val (.int (18 : Int32)), .val (.int (0 : Int32))] [(.int (18 : Int32)), (.ref b3)]))
    obtain ⟨cl100, Ar100, q100, S100, P100, H100, G100⟩ := (id V63)
    have hin100 : ¬ ((18 : Int32) < 0 ∨ cl100.slots.size ≤ ((18 : Int32)).toNatClampNeg) := inb_of S100 ⟨by decide, by decide⟩
    refine Go.by' (fun t k => (X63.aaload hx (j := (18 : Int32)) (v := (.ref w18)) (by rw [e63]; exact Ar100.1) (State.isArrayOf_alike hZ.alike Ar100.2.1) rfl Ar100.2.2 hin100 (H100.at hin100 rfl) (g := (mkF m 162 #[.val (.int ip), .val (.ref b3), .val (.int (18 : Int32)), .val (.int (0 : Int32))] [(.int (18 : Int32)), (.ref b3)])) rfl rfl (hb hby at_162) t k)) ?_
    show Go p.tables e below Pf (T63.setTop (mkF m 163 #[.val (.int ip), .val (.ref b3), .val (.int (18 : Int32)), .val (.int (0 : Int32))] [(.ref w18)]))
    obtain ⟨cq101, kq101, q101a, q101b, q101c⟩ := isOf hZ e63 (G.2.2.2.2.2.2.2.2.2.2.2.2.2.2.2.2.2.2.2.2.2.2.2.2.2.2.2.2.2.2.2.2.2.2.2.2.2.1.ext O63.2)
    obtain ⟨_, _, ⟨T101, L101, k101, n101⟩, -, X101, ⟨Lc101, hQ101, l101, y101, z101⟩, st101⟩ := X63.virtualBack hx (y := (⟨"com/example/kull/kull/prune/PruningStrategy", "readsKeywordLevel", "()Z"⟩ : MethodName)) (z := (⟨"com/example/kull/kull/prune/PruningStrategy", "readsKeywordLevel", "()Z"⟩ : MethodName)) hown (mvT hZ hw45) (mvT hZ hw46) (notFace_of_selects (args := #[]) (mvT hZ hw48)) (mvT hZ hw48) (mvT hZ hw47) (by decide) (backOf (W := 0) (rmK0 l Z a0 hw [] w0 w1 w2 w3 w4 w5 w6 w7 w8 w9 w10 w11 w12 w13 w14 w15 w16 w17 w18 w19 G w18 h63 n0 O63 G.2.2.2.2.2.2.2.2.2.2.2.2.2.2.2.2.2.2.2.2.2.2.2.2.2.2.2.2.2.2.2.2.2.2.2.2.2.2.2.2.2.2.2.2.2.2.2.2.2.2.2.2.2.2.2.2.2.2) hZ hw49 hw3 (by decide) (by decide)) q101a q101c (g := (mkF m 163 #[.val (.int ip), .val (.ref b3), .val (.int (18 : Int32)), .val (.int (0 : Int32))] [(.ref w18)])) rfl (by rw [hml]; rfl) (Steps.refl _) (argsL := []) (rest := []) (lenOf pd_0 rfl) rfl (by show 2 * 0 + _ ≤ _; exact Nat.le_of_eq rfl) (hb hby at_163) (fun _ _ => ⟨rfl, e63, (by decide : 1 + 0 ≤ _), (by decide : 20 + 0 ≤ _)⟩)
    dsimp only [Pt.U, Pt.locs, Pt.cells, Pt.slots] at X101 l101 y101 z101 st101 hQ101
    subst l101 y101 z101
    obtain ⟨rfl, rfl, e101⟩ := hQ101
    try replace X101 := own_nil X101
    refine Go.by' (fun t k => st101.trans k) ?_
    show Go p.tables e below Pf (T101.setTop (mkF m 166 #[.val (.int ip), .val (.ref b3), .val (.int (18 : Int32)), .val (.int (0 : Int32))] [(.int (0 : Int32))]))
    refine Go.by' (fun t k => (XS.iloadN X101.here hx rfl (hb hby at_166) rfl (XS.icmpNo X101.here hx rfl (hb hby at_167) rfl (teq (by decide)).2 (XS.iconst X101.here hx rfl (hb hby at_170) (XS.goto X101.here hx rfl (pc0 := 171) (pc' := 175) rfl (hb hby at_171) (by decide) (by decide) k))))) ?_
    show Go p.tables e below Pf (T101.setTop (mkF m 175 #[.val (.int ip), .val (.ref b3), .val (.int (18 : Int32)), .val (.int (0 : Int32))] [(.int (1 : Int32))]))
    rw [hPf]
    exact Go.retI' X101 hx hret hlk (by simp) rfl (hb hby at_175) (by decide) (by decide) ⟨rfl, N63, (by rw [e101]; exact KC63)⟩
  · refine Go.castF (a := ((ip &&& (2147483647 : Int32)) % (20 : Int32))) (b := (19 : Int32)) (fun z' : Int32 => mkF m 148 #[.val (.int ip), .val (.ref b3), .val (.int z'), .unset] []) hk ?_
    show Go p.tables e below Pf (T63.setTop (mkF m 148 #[.val (.int ip), .val (.ref b3), .val (.int (19 : Int32)), .unset] []))
    refine Go.by' (fun t k => (XS.iloadN X63.here hx rfl (hb hby at_148) rfl (XS.bipush X63.here hx rfl (hb hby at_149) (XS.icmpNo X63.here hx rfl (hb hby at_151) rfl (teq (by decide)).2 (XS.iconst X63.here hx rfl (hb hby at_154) (XS.goto X63.here hx rfl (pc0 := 155) (pc' := 159) rfl (hb hby at_155) (by decide) (by decide) (XS.istoreN X63.here hx rfl (hb hby at_159) rfl (l' := #[.val (.int ip), .val (.ref b3), .val (.int (19 : Int32)), .val (.int (1 : Int32))]) rfl k))))))) ?_
    show Go p.tables e below Pf (T63.setTop (mkF m 160 #[.val (.int ip), .val (.ref b3), .val (.int (19 : Int32)), .val (.int (1 : Int32))] []))
    refine Go.by' (fun t k => (XS.aloadN X63.here hx rfl (hb hby at_160) rfl rfl (XS.iloadN X63.here hx rfl (hb hby at_161) rfl k))) ?_
    show Go p.tables e below Pf (T63.setTop (mkF m 162 #[.val (.int ip), .val (.ref b3), .val (.int (19 : Int32)), .val (.int (1 : Int32))] [(.int (19 : Int32)), (.ref b3)]))
    obtain ⟨cl102, Ar102, q102, S102, P102, H102, G102⟩ := (id V63)
    have hin102 : ¬ ((19 : Int32) < 0 ∨ cl102.slots.size ≤ ((19 : Int32)).toNatClampNeg) := inb_of S102 ⟨by decide, by decide⟩
    refine Go.by' (fun t k => (X63.aaload hx (j := (19 : Int32)) (v := (.ref w19)) (by rw [e63]; exact Ar102.1) (State.isArrayOf_alike hZ.alike Ar102.2.1) rfl Ar102.2.2 hin102 (H102.at hin102 rfl) (g := (mkF m 162 #[.val (.int ip), .val (.ref b3), .val (.int (19 : Int32)), .val (.int (1 : Int32))] [(.int (19 : Int32)), (.ref b3)])) rfl rfl (hb hby at_162) t k)) ?_
    show Go p.tables e below Pf (T63.setTop (mkF m 163 #[.val (.int ip), .val (.ref b3), .val (.int (19 : Int32)), .val (.int (1 : Int32))] [(.ref w19)]))
    obtain ⟨cq103, kq103, q103a, q103b, q103c⟩ := isOf hZ e63 (G.2.2.2.2.2.2.2.2.2.2.2.2.2.2.2.2.2.2.2.2.2.2.2.2.2.2.2.2.2.2.2.2.2.2.2.2.2.2.2.1.ext O63.2)
    obtain ⟨_, _, ⟨T103, L103, k103, n103⟩, -, X103, ⟨Lc103, hQ103, l103, y103, z103⟩, st103⟩ := X63.virtualBack hx (y := (⟨"com/example/kull/kull/prune/PruningStrategy", "readsKeywordLevel", "()Z"⟩ : MethodName)) (z := (⟨"com/example/kull/kull/prune/PruningStrategy", "readsKeywordLevel", "()Z"⟩ : MethodName)) hown (mvT hZ hw45) (mvT hZ hw46) (notFace_of_selects (args := #[]) (mvT hZ hw48)) (mvT hZ hw48) (mvT hZ hw47) (by decide) (backOf (W := 0) (rmK1 l Z a0 hw [] w0 w1 w2 w3 w4 w5 w6 w7 w8 w9 w10 w11 w12 w13 w14 w15 w16 w17 w18 w19 G  h63 n0 O63 ) hZ hw49 hw3 (by decide) (by decide)) q103a q103c (g := (mkF m 163 #[.val (.int ip), .val (.ref b3), .val (.int (19 : Int32)), .val (.int (1 : Int32))] [(.ref w19)])) rfl (by rw [hml]; rfl) (Steps.refl _) (argsL := []) (rest := []) (lenOf pd_0 rfl) rfl (by show 2 * 0 + _ ≤ _; exact Nat.le_of_eq rfl) (hb hby at_163) (fun _ _ => ⟨rfl, e63, (by decide : 1 + 0 ≤ _), (by decide : 20 + 0 ≤ _)⟩)
    dsimp only [Pt.U, Pt.locs, Pt.cells, Pt.slots] at X103 l103 y103 z103 st103 hQ103
    subst l103 y103 z103
    obtain ⟨rfl, rfl, e103⟩ := hQ103
    try replace X103 := own_nil X103
    refine Go.by' (fun t k => st103.trans k) ?_
    show Go p.tables e below Pf (T103.setTop (mkF m 166 #[.val (.int ip), .val (.ref b3), .val (.int (19 : Int32)), .val (.int (1 : Int32))] [(.int (1 : Int32))]))
    refine Go.by' (fun t k => (XS.iloadN X103.here hx rfl (hb hby at_166) rfl (XS.icmpNo X103.here hx rfl (hb hby at_167) rfl (teq (by decide)).2 (XS.iconst X103.here hx rfl (hb hby at_170) (XS.goto X103.here hx rfl (pc0 := 171) (pc' := 175) rfl (hb hby at_171) (by decide) (by decide) k))))) ?_
    show Go p.tables e below Pf (T103.setTop (mkF m 175 #[.val (.int ip), .val (.ref b3), .val (.int (19 : Int32)), .val (.int (1 : Int32))] [(.int (1 : Int32))]))
    rw [hPf]
    exact Go.retI' X103 hx hret hlk (by simp) rfl (hb hby at_175) (by decide) (by decide) ⟨rfl, N63, (by rw [e103]; exact KC63)⟩
set_option maxRecDepth 65536 in
set_option maxHeartbeats 40000000 in
theorem comes_1 {Post : Tables → Env → Array Value → State → Outcome → State → Prop} (hpost : ∀ tb e args s v u, (limb_1_1.after args s (.returned v) u = true ∧ limb_1_2.after args s (.returned v) u = true ∧ True) → FrameEnd s (.returned v) u (Jvm.fieldLocs frame_1_writes args s ++ Jvm.arrayLocs frame_1_arrays args s ++ Jvm.staticLocs frame_1_statics s) 16 128 → Post tb e args s (.returned v) u) :
    ArmFor flags0 classFile x code maxLocals ret World_1 tables_1 room_1 Calls_1 rest_1 Pre_1 Post := by
  intro l hfl _ _ p e ha hc hk s m args below hf hA hF happ hP
  obtain ⟨hcalls, hrest, hpre⟩ := hP
  obtain ⟨-, -, -, hnamed, -, -, -, hat⟩ := (Spec.applies_iff hf).mp happ
  obtain ⟨hg, hn⟩ := and_e (Cond.before_iff.mp (show (Jvm.Cond.and given_1 narrow_1).before args s = true from hpre))
  obtain ⟨ga1, gb1⟩ := and_e hg
  obtain ⟨w0, rfl⟩ : ∃ w0 : Value, args = #[w0] := by
    have hs : args.size = 1 := by simpa [Cond.value, given_1] using ga1
    obtain ⟨L⟩ := args
    match L, hs with
    | [w0], _ => exact ⟨w0, rfl⟩
  have hw := fun d (hd : d ∈ tables_1) => atoms_spec (ws := Jvm.Cond.code x code maxLocals ret :: tables_1) hat d (List.mem_cons_of_mem _ hd)
  have hfit : Fit s := fun {y c} hc i hi => by
    obtain ⟨ha, rfl⟩ := Array.getElem?_eq_some_iff.mp hc
    have q := List.all_eq_true.mp ((Array.all_eq_true_iff_forall_mem.mp hF) _ (Array.getElem_mem ha)) i (List.mem_range.mpr hi)
    simpa [Array.getElem?_eq_getElem hi] using q
  obtain ⟨ip, ei0⟩ := is_v gb1
  obtain rfl : w0 = (.int ip) := Option.some.inj ei0
  obtain ⟨na1, nb1⟩ := and_e hn
  obtain ⟨na2, nb2⟩ := and_e nb1
  obtain ⟨na3, nb3⟩ := and_e nb2
  obtain ⟨na4, nb4⟩ := and_e nb3
  obtain ⟨na5, nb5⟩ := and_e nb4
  obtain ⟨na6, nb6⟩ := and_e nb5
  obtain ⟨na7, nb7⟩ := and_e nb6
  obtain ⟨na8, nb8⟩ := and_e nb7
  obtain ⟨na9, nb9⟩ := and_e nb8
  obtain ⟨na10, nb10⟩ := and_e nb9
  obtain ⟨na11, nb11⟩ := and_e nb10
  obtain ⟨na12, nb12⟩ := and_e nb11
  obtain ⟨na13, nb13⟩ := and_e nb12
  obtain ⟨na14, nb14⟩ := and_e nb13
  obtain ⟨na15, nb15⟩ := and_e nb14
  obtain ⟨na16, nb16⟩ := and_e nb15
  obtain ⟨na17, nb17⟩ := and_e nb16
  obtain ⟨na18, nb18⟩ := and_e nb17
  obtain ⟨na19, nb19⟩ := and_e nb18
  obtain ⟨na20, nb20⟩ := and_e nb19
  obtain ⟨na21, nb21⟩ := and_e nb20
  obtain ⟨na22, nb22⟩ := and_e nb21
  obtain ⟨na23, nb23⟩ := and_e nb22
  obtain ⟨na24, nb24⟩ := and_e nb23
  obtain ⟨na25, nb25⟩ := and_e nb24
  obtain ⟨na26, nb26⟩ := and_e nb25
  obtain ⟨na27, nb27⟩ := and_e nb26
  obtain ⟨na28, nb28⟩ := and_e nb27
  obtain ⟨na29, nb29⟩ := and_e nb28
  obtain ⟨na30, nb30⟩ := and_e nb29
  obtain ⟨na31, nb31⟩ := and_e nb30
  obtain ⟨na32, nb32⟩ := and_e nb31
  obtain ⟨na33, nb33⟩ := and_e nb32
  obtain ⟨na34, nb34⟩ := and_e nb33
  obtain ⟨na35, nb35⟩ := and_e nb34
  obtain ⟨na36, nb36⟩ := and_e nb35
  obtain ⟨na37, nb37⟩ := and_e nb36
  obtain ⟨na38, nb38⟩ := and_e nb37
  obtain ⟨na39, nb39⟩ := and_e nb38
  obtain ⟨w0, evw0⟩ := exa_v na1
  have Sw0 := Sta.start evw0 (Or.inr ⟨(hw _ (List.mem_of_getElem? (i := 3) rfl)), (hw _ (List.mem_of_getElem? (i := 4) rfl))⟩)
  have Aw0 := Exa.start evw0 na1
  have Fw0 := Fld.start ((fld_at evw0).symm.trans (eqv_i (Term.int_eval _) na21))
  obtain ⟨w1, evw1⟩ := exa_v na2
  have Sw1 := Sta.start evw1 (Or.inr ⟨(hw _ (List.mem_of_getElem? (i := 3) rfl)), (hw _ (List.mem_of_getElem? (i := 7) rfl))⟩)
  have Aw1 := Exa.start evw1 na2
  have Fw1 := Fld.start ((fld_at evw1).symm.trans (eqv_i (Term.int_eval _) na30))
  obtain ⟨w2, evw2⟩ := exa_v na3
  have Sw2 := Sta.start evw2 (Or.inr ⟨(hw _ (List.mem_of_getElem? (i := 3) rfl)), (hw _ (List.mem_of_getElem? (i := 9) rfl))⟩)
  have Aw2 := Exa.start evw2 na3
  have Fw2 := Fld.start ((fld_at evw2).symm.trans (eqv_i (Term.int_eval _) na28))
  obtain ⟨w3, evw3⟩ := exa_v na4
  have Sw3 := Sta.start evw3 (Or.inr ⟨(hw _ (List.mem_of_getElem? (i := 3) rfl)), (hw _ (List.mem_of_getElem? (i := 11) rfl))⟩)
  have Aw3 := Exa.start evw3 na4
  have Fw3 := Fld.start ((fld_at evw3).symm.trans (eqv_i (Term.int_eval _) na23))
  obtain ⟨w4, evw4⟩ := exa_v na5
  have Sw4 := Sta.start evw4 (Or.inr ⟨(hw _ (List.mem_of_getElem? (i := 3) rfl)), (hw _ (List.mem_of_getElem? (i := 13) rfl))⟩)
  have Aw4 := Exa.start evw4 na5
  have Fw4 := Fld.start ((fld_at evw4).symm.trans (eqv_i (Term.int_eval _) na37))
  obtain ⟨w5, evw5⟩ := exa_v na6
  have Sw5 := Sta.start evw5 (Or.inr ⟨(hw _ (List.mem_of_getElem? (i := 3) rfl)), (hw _ (List.mem_of_getElem? (i := 15) rfl))⟩)
  have Aw5 := Exa.start evw5 na6
  have Fw5 := Fld.start ((fld_at evw5).symm.trans (eqv_i (Term.int_eval _) na36))
  obtain ⟨w6, evw6⟩ := exa_v na7
  have Sw6 := Sta.start evw6 (Or.inr ⟨(hw _ (List.mem_of_getElem? (i := 3) rfl)), (hw _ (List.mem_of_getElem? (i := 17) rfl))⟩)
  have Aw6 := Exa.start evw6 na7
  have Fw6 := Fld.start ((fld_at evw6).symm.trans (eqv_i (Term.int_eval _) na32))
  obtain ⟨w7, evw7⟩ := exa_v na8
  have Sw7 := Sta.start evw7 (Or.inr ⟨(hw _ (List.mem_of_getElem? (i := 3) rfl)), (hw _ (List.mem_of_getElem? (i := 19) rfl))⟩)
  have Aw7 := Exa.start evw7 na8
  have Fw7 := Fld.start ((fld_at evw7).symm.trans (eqv_i (Term.int_eval _) na27))
  obtain ⟨w8, evw8⟩ := exa_v na9
  have Sw8 := Sta.start evw8 (Or.inr ⟨(hw _ (List.mem_of_getElem? (i := 3) rfl)), (hw _ (List.mem_of_getElem? (i := 21) rfl))⟩)
  have Aw8 := Exa.start evw8 na9
  have Fw8 := Fld.start ((fld_at evw8).symm.trans (eqv_i (Term.int_eval _) na29))
  obtain ⟨w9, evw9⟩ := exa_v na10
  have Sw9 := Sta.start evw9 (Or.inr ⟨(hw _ (List.mem_of_getElem? (i := 3) rfl)), (hw _ (List.mem_of_getElem? (i := 23) rfl))⟩)
  have Aw9 := Exa.start evw9 na10
  have Fw9 := Fld.start ((fld_at evw9).symm.trans (eqv_i (Term.int_eval _) na38))
  obtain ⟨w10, evw10⟩ := exa_v na11
  have Sw10 := Sta.start evw10 (Or.inr ⟨(hw _ (List.mem_of_getElem? (i := 3) rfl)), (hw _ (List.mem_of_getElem? (i := 25) rfl))⟩)
  have Aw10 := Exa.start evw10 na11
  have Fw10 := Fld.start ((fld_at evw10).symm.trans (eqv_i (Term.int_eval _) na24))
  obtain ⟨w11, evw11⟩ := exa_v na12
  have Sw11 := Sta.start evw11 (Or.inr ⟨(hw _ (List.mem_of_getElem? (i := 3) rfl)), (hw _ (List.mem_of_getElem? (i := 27) rfl))⟩)
  have Aw11 := Exa.start evw11 na12
  have Fw11 := Fld.start ((fld_at evw11).symm.trans (eqv_i (Term.int_eval _) na25))
  obtain ⟨w12, evw12⟩ := exa_v na13
  have Sw12 := Sta.start evw12 (Or.inr ⟨(hw _ (List.mem_of_getElem? (i := 3) rfl)), (hw _ (List.mem_of_getElem? (i := 29) rfl))⟩)
  have Aw12 := Exa.start evw12 na13
  have Fw12 := Fld.start ((fld_at evw12).symm.trans (eqv_i (Term.int_eval _) na35))
  obtain ⟨w13, evw13⟩ := exa_v na14
  have Sw13 := Sta.start evw13 (Or.inr ⟨(hw _ (List.mem_of_getElem? (i := 3) rfl)), (hw _ (List.mem_of_getElem? (i := 31) rfl))⟩)
  have Aw13 := Exa.start evw13 na14
  have Fw13 := Fld.start ((fld_at evw13).symm.trans (eqv_i (Term.int_eval _) na39))
  obtain ⟨w14, evw14⟩ := exa_v na15
  have Sw14 := Sta.start evw14 (Or.inr ⟨(hw _ (List.mem_of_getElem? (i := 3) rfl)), (hw _ (List.mem_of_getElem? (i := 33) rfl))⟩)
  have Aw14 := Exa.start evw14 na15
  have Fw14 := Fld.start ((fld_at evw14).symm.trans (eqv_i (Term.int_eval _) na26))
  obtain ⟨w15, evw15⟩ := exa_v na16
  have Sw15 := Sta.start evw15 (Or.inr ⟨(hw _ (List.mem_of_getElem? (i := 3) rfl)), (hw _ (List.mem_of_getElem? (i := 35) rfl))⟩)
  have Aw15 := Exa.start evw15 na16
  have Fw15 := Fld.start ((fld_at evw15).symm.trans (eqv_i (Term.int_eval _) na31))
  obtain ⟨w16, evw16⟩ := exa_v na17
  have Sw16 := Sta.start evw16 (Or.inr ⟨(hw _ (List.mem_of_getElem? (i := 3) rfl)), (hw _ (List.mem_of_getElem? (i := 37) rfl))⟩)
  have Aw16 := Exa.start evw16 na17
  have Fw16 := Fld.start ((fld_at evw16).symm.trans (eqv_i (Term.int_eval _) na34))
  obtain ⟨w17, evw17⟩ := exa_v na18
  have Sw17 := Sta.start evw17 (Or.inr ⟨(hw _ (List.mem_of_getElem? (i := 3) rfl)), (hw _ (List.mem_of_getElem? (i := 39) rfl))⟩)
  have Aw17 := Exa.start evw17 na18
  have Fw17 := Fld.start ((fld_at evw17).symm.trans (eqv_i (Term.int_eval _) na33))
  obtain ⟨w18, evw18⟩ := exa_v na19
  have Sw18 := Sta.start evw18 (Or.inr ⟨(hw _ (List.mem_of_getElem? (i := 3) rfl)), (hw _ (List.mem_of_getElem? (i := 41) rfl))⟩)
  have Aw18 := Exa.start evw18 na19
  have Fw18 := Fld.start ((fld_at evw18).symm.trans (eqv_i (Term.int_eval _) nb39))
  obtain ⟨w19, evw19⟩ := exa_v na20
  have Sw19 := Sta.start evw19 (Or.inr ⟨(hw _ (List.mem_of_getElem? (i := 3) rfl)), (hw _ (List.mem_of_getElem? (i := 43) rfl))⟩)
  have Aw19 := Exa.start evw19 na20
  have Fw19 := Fld.start ((fld_at evw19).symm.trans (eqv_i (Term.int_eval _) na22))
  have G : Gh s w0 w1 w2 w3 w4 w5 w6 w7 w8 w9 w10 w11 w12 w13 w14 w15 w16 w17 w18 w19 := ⟨Sw0, Aw0, Sw1, Aw1, Sw2, Aw2, Sw3, Aw3, Sw4, Aw4, Sw5, Aw5, Sw6, Aw6, Sw7, Aw7, Sw8, Aw8, Sw9, Aw9, Sw10, Aw10, Sw11, Aw11, Sw12, Aw12, Sw13, Aw13, Sw14, Aw14, Sw15, Aw15, Sw16, Aw16, Sw17, Aw17, Sw18, Aw18, Sw19, Aw19, Fw0.ne Fw19 (by decide), Fw1.ne Fw19 (by decide), Fw2.ne Fw19 (by decide), Fw3.ne Fw19 (by decide), Fw4.ne Fw19 (by decide), Fw5.ne Fw19 (by decide), Fw6.ne Fw19 (by decide), Fw7.ne Fw19 (by decide), Fw8.ne Fw19 (by decide), Fw9.ne Fw19 (by decide), Fw10.ne Fw19 (by decide), Fw11.ne Fw19 (by decide), Fw12.ne Fw19 (by decide), Fw13.ne Fw19 (by decide), Fw14.ne Fw19 (by decide), Fw15.ne Fw19 (by decide), Fw16.ne Fw19 (by decide), Fw17.ne Fw19 (by decide), Fw18.ne Fw19 (by decide)⟩
  obtain ⟨n, o, h1, h2, h3, _, L, rfl, hQ, hq⟩ := rm0 l s _ hw tables_1 w0 w1 w2 w3 w4 w5 w6 w7 w8 w9 w10 w11 w12 w13 w14 w15 w16 w17 w18 w19 G ip s.heap s.heap.size (Old.start s)  p e ha hc hk s m _ below hf ((Spec.applies_iff_loose hf).mp happ).1 ⟨rfl, State.Warmed39.refl s, rfl⟩ trivial
  obtain ⟨rfl, N, -⟩ := hQ
  refine ⟨n, _, h1, h2, h3, hpost _ _ _ _ _ _ ⟨Cond.after_iff.mpr rfl, Cond.after_iff.mpr (eq_i res_at (Term.int_eval (1)) rfl), trivial⟩ ⟨hq.1, hq.2.1, (hq.2.2.sift fun y hy => Or.inr (N y hy)).mono (by decide) (by decide)⟩⟩
theorem main_1_1 : Claimed_1_1 := comes_1 fun _ _ _ _ _ _ h hF => ⟨h.1, hF⟩
theorem main_1_2 : Claimed_1_2 := comes_1 fun _ _ _ _ _ _ h hF => ⟨h.2.1, hF⟩
end Jvm.Pilot.@@N@@
namespace Jvm.Pilot.@@N@@
open Jvm Jvm.ClassFile Sem Op Lib Jvm.Free Jvm.Stand Jvm.Pilot.@@N@@.Jvm.D
/-! MADE BY PROGRAM (witnessworld.py) out of the Statement's table words and the real class files: 13 classes; the members and pool entries that the words name. The judged class is class 1, her method 1. -/
namespace start1
open Jvm.ClassFile
def u (s : String) : CpInfo := .utf8 (stringToUtf16 s)
/-- a pool by its gaps: so many unusable entries, then the entry; so many at the end -/
def gap : Nat → List CpInfo → List CpInfo
  | 0, r => r
  | n + 1, r => .unusable :: gap n r
def poolList (es : List (Nat × CpInfo)) (last : Nat) : List CpInfo := es.foldr (fun e r => gap e.1 (e.2 :: r)) (gap last [])
def pool (es : List (Nat × CpInfo)) (last : Nat) : Array CpInfo := ⟨poolList es last⟩
def fileOf (pool : Array CpInfo) (this : Nat) (attrs : Array Attribute := #[]) (ms : Array MethodInfo := #[]) (fl : Nat := 33) (sup : Nat := 0) (ifs : Array Nat := #[]) (fds : Array FieldInfo := #[]) : ClassFile where
  minorVersion := 0
  majorVersion := 65
  constantPool := pool
  accessFlags := fl
  thisClass := this
  superClass := sup
  interfaces := ifs
  fields := fds
  methods := ms
  attributes := attrs
def plain (name : String) (sup : Option ClassId) : Class where
  name := name
  kind := .ordinary
  loader := none
  accessFlags := 33
  super := sup
  interfaces := #[]
  cf := none
  fields := #[]
  methods := #[]
  instanceTypes := #[]
  staticTypes := #[]
  resolved := #[]
  callSites := []
  init := .initialized
  statics := none
  mirror := none

def pool0 : Array CpInfo := pool [(5, u "<init>"), (0, u "()V"), (1, .class_ 10), (1, u "java/lang/Object")] 113

def k0m0 : Method := { name := "<init>", desc := "()V", sig := { parameters := [], returnType := none }, accessFlags := 1, code := none }
/-- java/lang/Object -/
def k0 : Class := { plain "java/lang/Object" none with
  accessFlags := 33
  interfaces := #[]
  cf := some (fileOf pool0 8 #[] #[{ accessFlags := 1, nameIndex := 5, descriptorIndex := 6, attributes := #[] }] 33 0 #[] #[])
  fields := #[]
  methods := #[k0m0]
  instanceTypes := #[]
  staticTypes := #[]
  resolved := Array.replicate 124 none
  statics := none }

def pool1 : Array CpInfo := pool [(2, .class_ 4), (1, u "java/lang/Object"), (0, u "<init>"), (0, u "()V"), (0, .class_ 8), (0, u "com/example/kull/kull/prune/PruningStrategy"), (0, .fieldref 7 10), (0, .nameAndType 11 12), (0, u "PP"), (0, u "Lcom/example/kull/kull/prune/PruningStrategy;"), (0, .fieldref 7 14), (0, .nameAndType 15 12), (0, u "PP_QV"), (0, .fieldref 7 17), (0, .nameAndType 18 12), (0, u "TCP"), (0, .fieldref 7 20), (0, .nameAndType 21 12), (0, u "TCP_QV"), (0, .fieldref 7 23), (0, .nameAndType 24 12), (0, u "DCP"), (0, .fieldref 7 26), (0, .nameAndType 27 12), (0, u "DCP_QV"), (0, .fieldref 7 29), (0, .nameAndType 30 12), (0, u "ATCP"), (0, .fieldref 7 32), (0, .nameAndType 33 12), (0, u "ATCP_QV"), (0, .fieldref 7 35), (0, .nameAndType 36 12), (0, u "ADCP"), (0, .fieldref 7 38), (0, .nameAndType 39 12), (0, u "ADCP_QV"), (0, .fieldref 7 41), (0, .nameAndType 42 12), (0, u "EKS"), (0, .fieldref 7 44), (0, .nameAndType 45 12), (0, u "PP_TCP"), (0, .fieldref 7 47), (0, .nameAndType 48 12), (0, u "PP_TCP_QV"), (0, .fieldref 7 50), (0, .nameAndType 51 12), (0, u "PP_DCP"), (0, .fieldref 7 53), (0, .nameAndType 54 12), (0, u "PP_DCP_QV"), (0, .fieldref 7 56), (0, .nameAndType 57 12), (0, u "PP_ATCP"), (0, .fieldref 7 59), (0, .nameAndType 60 12), (0, u "PP_ATCP_QV"), (0, .fieldref 7 62), (0, .nameAndType 63 12), (0, u "PP_ADCP"), (0, .fieldref 7 65), (0, .nameAndType 66 12), (0, u "PP_ADCP_QV"), (0, .fieldref 7 68), (0, .nameAndType 69 12), (0, u "PP_EKS"), (0, .integer 2147483647), (0, .methodref 7 72), (0, .nameAndType 73 74), (0, u "readsKeywordLevel"), (0, u "()Z"), (0, .class_ 76), (0, u "com/example/kull/kull/prune/PruningStrategyReadsKeywordLevelPinLaw"), (2, u "law"), (0, u "(I)Z")] 5

def k1m0 : Method := { name := "<init>", desc := "()V", sig := { parameters := [], returnType := none }, accessFlags := 2, code := none }
def k1c1 : Code := { maxStack := 4, maxLocals := 4, code := code, exceptionTable := #[], attributes := #[] }
def k1m1 : Method := { name := "law", desc := "(I)Z", sig := { parameters := [.int], returnType := some .boolean }, accessFlags := 9, code := some k1c1 }
/-- com/example/kull/kull/prune/PruningStrategyReadsKeywordLevelPinLaw -/
def k1 : Class := { plain "com/example/kull/kull/prune/PruningStrategyReadsKeywordLevelPinLaw" (some 0) with
  accessFlags := 49
  interfaces := #[]
  cf := some (fileOf pool1 75 #[] #[{ accessFlags := 2, nameIndex := 5, descriptorIndex := 6, attributes := #[] }, { accessFlags := 9, nameIndex := 79, descriptorIndex := 80, attributes := #[] }] 49 2 #[] #[])
  fields := #[]
  methods := #[k1m0, k1m1]
  instanceTypes := #[]
  staticTypes := #[]
  resolved := Array.replicate 86 none
  statics := none }

def pool2 : Array CpInfo := pool [(1, .class_ 2), (0, u "java/lang/constant/Constable"), (0, .class_ 4), (0, u "java/lang/Object")] 6

/-- java/lang/constant/Constable -/
def k2 : Class := { plain "java/lang/constant/Constable" (some 0) with
  accessFlags := 1537
  interfaces := #[]
  cf := some (fileOf pool2 1 #[] #[] 1537 3 #[] #[])
  fields := #[]
  methods := #[]
  instanceTypes := #[]
  staticTypes := #[]
  resolved := Array.replicate 11 none
  statics := none }

def pool3 : Array CpInfo := pool [(1, .class_ 2), (0, u "java/lang/Comparable"), (0, .class_ 4), (0, u "java/lang/Object")] 7

/-- java/lang/Comparable -/
def k3 : Class := { plain "java/lang/Comparable" (some 0) with
  accessFlags := 1537
  interfaces := #[]
  cf := some (fileOf pool3 1 #[] #[] 1537 3 #[] #[])
  fields := #[]
  methods := #[]
  instanceTypes := #[]
  staticTypes := #[]
  resolved := Array.replicate 12 none
  statics := none }

def pool4 : Array CpInfo := pool [(1, .class_ 2), (0, u "java/io/Serializable"), (0, .class_ 4), (0, u "java/lang/Object")] 2

/-- java/io/Serializable -/
def k4 : Class := { plain "java/io/Serializable" (some 0) with
  accessFlags := 1537
  interfaces := #[]
  cf := some (fileOf pool4 1 #[] #[] 1537 3 #[] #[])
  fields := #[]
  methods := #[]
  instanceTypes := #[]
  staticTypes := #[]
  resolved := Array.replicate 7 none
  statics := none }

def pool5 : Array CpInfo := pool [(2, .class_ 4), (1, u "java/lang/Enum"), (0, u "name"), (0, u "Ljava/lang/String;"), (2, u "ordinal"), (0, u "I"), (1, .class_ 14), (1, u "java/lang/Object"), (4, u "hash"), (86, .class_ 108), (1, u "java/lang/Enum$EnumDesc"), (2, .class_ 112), (0, u "java/lang/constant/Constable"), (0, .class_ 114), (0, u "java/lang/Comparable"), (0, .class_ 116), (0, u "java/io/Serializable")] 87

/-- java/lang/Enum -/
def k5 : Class := { plain "java/lang/Enum" (some 0) with
  accessFlags := 1057
  interfaces := #[2, 3, 4]
  cf := some (fileOf pool5 2 #[.nestMembers #[106]] #[] 1057 12 #[111, 113, 115] #[{ accessFlags := 18, nameIndex := 5, descriptorIndex := 6, attributes := #[] }, { accessFlags := 18, nameIndex := 9, descriptorIndex := 10, attributes := #[] }, { accessFlags := 2, nameIndex := 19, descriptorIndex := 10, attributes := #[] }])
  fields := #[{ name := "name", type := (.object "java/lang/String"), accessFlags := 18, slot := 0, constantValue := 0 }, { name := "ordinal", type := .int, accessFlags := 18, slot := 1, constantValue := 0 }, { name := "hash", type := .int, accessFlags := 2, slot := 2, constantValue := 0 }]
  methods := #[]
  instanceTypes := #[(.object "java/lang/String"), .int, .int]
  staticTypes := #[]
  resolved := Array.replicate 204 none
  statics := none }

def pool6 : Array CpInfo := pool [(1, .class_ 2), (0, u "com/example/kull/kull/prune/PruningStrategy"), (2, u "PP"), (0, u "Lcom/example/kull/kull/prune/PruningStrategy;"), (2, u "PP_QV"), (2, u "TCP"), (2, u "TCP_QV"), (2, u "DCP"), (2, u "DCP_QV"), (2, u "ATCP"), (2, u "ATCP_QV"), (2, u "ADCP"), (2, u "ADCP_QV"), (2, u "EKS"), (2, u "PP_TCP"), (2, u "PP_TCP_QV"), (2, u "PP_DCP"), (2, u "PP_DCP_QV"), (2, u "PP_ATCP"), (2, u "PP_ATCP_QV"), (2, u "PP_ADCP"), (2, u "PP_ADCP_QV"), (0, .fieldref 1 62), (0, .nameAndType 63 6), (0, u "PP_EKS"), (2, u "$VALUES"), (0, u "[Lcom/example/kull/kull/prune/PruningStrategy;"), (6, .class_ 76), (1, u "java/lang/Enum"), (8, u "strategyName"), (0, u "Ljava/lang/String;"), (2, u "knob"), (0, u "Lcom/example/kull/kull/prune/PruningStrategy$Knob;"), (2, u "readsTopK"), (0, u "Z"), (2, u "inner"), (27, u "()Z"), (10, .class_ 138), (1, u "com/example/kull/kull/prune/PruningStrategy$Knob"), (22, u "readsKeywordLevel")] 283

def k6c0 : Code := { maxStack := 2, maxLocals := 1, code := prog_39_method_8_code, exceptionTable := #[], attributes := #[] }
def k6m0 : Method := { name := "readsKeywordLevel", desc := "()Z", sig := { parameters := [], returnType := some .boolean }, accessFlags := 1, code := some k6c0 }
/-- com/example/kull/kull/prune/PruningStrategy -/
def k6 : Class := { plain "com/example/kull/kull/prune/PruningStrategy" (some 5) with
  accessFlags := 16433
  interfaces := #[]
  cf := some (fileOf pool6 1 #[.nestMembers #[136]] #[{ accessFlags := 1, nameIndex := 161, descriptorIndex := 125, attributes := #[] }] 16433 74 #[] #[{ accessFlags := 16409, nameIndex := 5, descriptorIndex := 6, attributes := #[] }, { accessFlags := 16409, nameIndex := 9, descriptorIndex := 6, attributes := #[] }, { accessFlags := 16409, nameIndex := 12, descriptorIndex := 6, attributes := #[] }, { accessFlags := 16409, nameIndex := 15, descriptorIndex := 6, attributes := #[] }, { accessFlags := 16409, nameIndex := 18, descriptorIndex := 6, attributes := #[] }, { accessFlags := 16409, nameIndex := 21, descriptorIndex := 6, attributes := #[] }, { accessFlags := 16409, nameIndex := 24, descriptorIndex := 6, attributes := #[] }, { accessFlags := 16409, nameIndex := 27, descriptorIndex := 6, attributes := #[] }, { accessFlags := 16409, nameIndex := 30, descriptorIndex := 6, attributes := #[] }, { accessFlags := 16409, nameIndex := 33, descriptorIndex := 6, attributes := #[] }, { accessFlags := 16409, nameIndex := 36, descriptorIndex := 6, attributes := #[] }, { accessFlags := 16409, nameIndex := 39, descriptorIndex := 6, attributes := #[] }, { accessFlags := 16409, nameIndex := 42, descriptorIndex := 6, attributes := #[] }, { accessFlags := 16409, nameIndex := 45, descriptorIndex := 6, attributes := #[] }, { accessFlags := 16409, nameIndex := 48, descriptorIndex := 6, attributes := #[] }, { accessFlags := 16409, nameIndex := 51, descriptorIndex := 6, attributes := #[] }, { accessFlags := 16409, nameIndex := 54, descriptorIndex := 6, attributes := #[] }, { accessFlags := 16409, nameIndex := 57, descriptorIndex := 6, attributes := #[] }, { accessFlags := 16409, nameIndex := 60, descriptorIndex := 6, attributes := #[] }, { accessFlags := 16409, nameIndex := 63, descriptorIndex := 6, attributes := #[] }, { accessFlags := 18, nameIndex := 85, descriptorIndex := 86, attributes := #[] }, { accessFlags := 18, nameIndex := 89, descriptorIndex := 90, attributes := #[] }, { accessFlags := 18, nameIndex := 93, descriptorIndex := 94, attributes := #[] }, { accessFlags := 18, nameIndex := 97, descriptorIndex := 6, attributes := #[] }, { accessFlags := 4122, nameIndex := 66, descriptorIndex := 67, attributes := #[] }])
  fields := #[{ name := "PP", type := (.object "com/example/kull/kull/prune/PruningStrategy"), accessFlags := 16409, slot := 0, constantValue := 0 }, { name := "PP_QV", type := (.object "com/example/kull/kull/prune/PruningStrategy"), accessFlags := 16409, slot := 1, constantValue := 0 }, { name := "TCP", type := (.object "com/example/kull/kull/prune/PruningStrategy"), accessFlags := 16409, slot := 2, constantValue := 0 }, { name := "TCP_QV", type := (.object "com/example/kull/kull/prune/PruningStrategy"), accessFlags := 16409, slot := 3, constantValue := 0 }, { name := "DCP", type := (.object "com/example/kull/kull/prune/PruningStrategy"), accessFlags := 16409, slot := 4, constantValue := 0 }, { name := "DCP_QV", type := (.object "com/example/kull/kull/prune/PruningStrategy"), accessFlags := 16409, slot := 5, constantValue := 0 }, { name := "ATCP", type := (.object "com/example/kull/kull/prune/PruningStrategy"), accessFlags := 16409, slot := 6, constantValue := 0 }, { name := "ATCP_QV", type := (.object "com/example/kull/kull/prune/PruningStrategy"), accessFlags := 16409, slot := 7, constantValue := 0 }, { name := "ADCP", type := (.object "com/example/kull/kull/prune/PruningStrategy"), accessFlags := 16409, slot := 8, constantValue := 0 }, { name := "ADCP_QV", type := (.object "com/example/kull/kull/prune/PruningStrategy"), accessFlags := 16409, slot := 9, constantValue := 0 }, { name := "EKS", type := (.object "com/example/kull/kull/prune/PruningStrategy"), accessFlags := 16409, slot := 10, constantValue := 0 }, { name := "PP_TCP", type := (.object "com/example/kull/kull/prune/PruningStrategy"), accessFlags := 16409, slot := 11, constantValue := 0 }, { name := "PP_TCP_QV", type := (.object "com/example/kull/kull/prune/PruningStrategy"), accessFlags := 16409, slot := 12, constantValue := 0 }, { name := "PP_DCP", type := (.object "com/example/kull/kull/prune/PruningStrategy"), accessFlags := 16409, slot := 13, constantValue := 0 }, { name := "PP_DCP_QV", type := (.object "com/example/kull/kull/prune/PruningStrategy"), accessFlags := 16409, slot := 14, constantValue := 0 }, { name := "PP_ATCP", type := (.object "com/example/kull/kull/prune/PruningStrategy"), accessFlags := 16409, slot := 15, constantValue := 0 }, { name := "PP_ATCP_QV", type := (.object "com/example/kull/kull/prune/PruningStrategy"), accessFlags := 16409, slot := 16, constantValue := 0 }, { name := "PP_ADCP", type := (.object "com/example/kull/kull/prune/PruningStrategy"), accessFlags := 16409, slot := 17, constantValue := 0 }, { name := "PP_ADCP_QV", type := (.object "com/example/kull/kull/prune/PruningStrategy"), accessFlags := 16409, slot := 18, constantValue := 0 }, { name := "PP_EKS", type := (.object "com/example/kull/kull/prune/PruningStrategy"), accessFlags := 16409, slot := 19, constantValue := 0 }, { name := "strategyName", type := (.object "java/lang/String"), accessFlags := 18, slot := 3, constantValue := 0 }, { name := "knob", type := (.object "com/example/kull/kull/prune/PruningStrategy$Knob"), accessFlags := 18, slot := 4, constantValue := 0 }, { name := "readsTopK", type := .boolean, accessFlags := 18, slot := 5, constantValue := 0 }, { name := "inner", type := (.object "com/example/kull/kull/prune/PruningStrategy"), accessFlags := 18, slot := 6, constantValue := 0 }, { name := "$VALUES", type := (.array (.object "com/example/kull/kull/prune/PruningStrategy")), accessFlags := 4122, slot := 20, constantValue := 0 }]
  methods := #[k6m0]
  instanceTypes := #[(.object "java/lang/String"), .int, .int, (.object "java/lang/String"), (.object "com/example/kull/kull/prune/PruningStrategy$Knob"), .boolean, (.object "com/example/kull/kull/prune/PruningStrategy")]
  staticTypes := #[(.object "com/example/kull/kull/prune/PruningStrategy"), (.object "com/example/kull/kull/prune/PruningStrategy"), (.object "com/example/kull/kull/prune/PruningStrategy"), (.object "com/example/kull/kull/prune/PruningStrategy"), (.object "com/example/kull/kull/prune/PruningStrategy"), (.object "com/example/kull/kull/prune/PruningStrategy"), (.object "com/example/kull/kull/prune/PruningStrategy"), (.object "com/example/kull/kull/prune/PruningStrategy"), (.object "com/example/kull/kull/prune/PruningStrategy"), (.object "com/example/kull/kull/prune/PruningStrategy"), (.object "com/example/kull/kull/prune/PruningStrategy"), (.object "com/example/kull/kull/prune/PruningStrategy"), (.object "com/example/kull/kull/prune/PruningStrategy"), (.object "com/example/kull/kull/prune/PruningStrategy"), (.object "com/example/kull/kull/prune/PruningStrategy"), (.object "com/example/kull/kull/prune/PruningStrategy"), (.object "com/example/kull/kull/prune/PruningStrategy"), (.object "com/example/kull/kull/prune/PruningStrategy"), (.object "com/example/kull/kull/prune/PruningStrategy"), (.object "com/example/kull/kull/prune/PruningStrategy"), (.array (.object "com/example/kull/kull/prune/PruningStrategy"))]
  resolved := Array.replicate 445 none
  statics := some 0 }

def pool7 : Array CpInfo := pool [(1, u "java/lang/Cloneable"), (0, .class_ 1), (0, u "java/lang/Object"), (0, .class_ 3)] 3

/-- java/lang/Cloneable -/
def k7 : Class := { plain "java/lang/Cloneable" (some 0) with
  accessFlags := 1537
  interfaces := #[]
  cf := some (fileOf pool7 2 #[] #[] 1537 4 #[] #[])
  fields := #[]
  methods := #[]
  instanceTypes := #[]
  staticTypes := #[]
  resolved := Array.replicate 8 none
  statics := none }

/-- the primitive byte -/
def k8 : Class := { plain "byte" none with kind := .primitive 'B', accessFlags := 0x411 }
/-- [B -/
def k9 : Class := { plain "[B" (some 0) with kind := .array 8 .byte, interfaces := #[7, 4], accessFlags := 1041 }

/-- the primitive int -/
def k10 : Class := { plain "int" none with kind := .primitive 'I', accessFlags := 0x411 }
/-- [I -/
def k11 : Class := { plain "[I" (some 0) with kind := .array 10 .int, interfaces := #[7, 4], accessFlags := 1041 }

/-- [Lcom/example/kull/kull/prune/PruningStrategy; -/
def k12 : Class := { plain "[Lcom/example/kull/kull/prune/PruningStrategy;" (some 0) with kind := .array 6 (.object "com/example/kull/kull/prune/PruningStrategy"), interfaces := #[7, 4], accessFlags := 1041 }

def heap : Heap := #[{ cls := 6, slots := #[.ref 1, .ref 2, .ref 3, .ref 4, .ref 5, .ref 6, .ref 7, .ref 8, .ref 9, .ref 10, .ref 11, .ref 12, .ref 13, .ref 14, .ref 15, .ref 16, .ref 17, .ref 18, .ref 19, .ref 20, .null], vm := .statics 6 },
  { cls := 6, slots := #[.null, .int 0, .int 0, .null, .null, .int 0, .null], vm := .none },
  { cls := 6, slots := #[.null, .int 1, .int 0, .null, .null, .int 0, .null], vm := .none },
  { cls := 6, slots := #[.null, .int 2, .int 0, .null, .null, .int 0, .null], vm := .none },
  { cls := 6, slots := #[.null, .int 3, .int 0, .null, .null, .int 0, .null], vm := .none },
  { cls := 6, slots := #[.null, .int 4, .int 0, .null, .null, .int 0, .null], vm := .none },
  { cls := 6, slots := #[.null, .int 5, .int 0, .null, .null, .int 0, .null], vm := .none },
  { cls := 6, slots := #[.null, .int 6, .int 0, .null, .null, .int 0, .null], vm := .none },
  { cls := 6, slots := #[.null, .int 7, .int 0, .null, .null, .int 0, .null], vm := .none },
  { cls := 6, slots := #[.null, .int 8, .int 0, .null, .null, .int 0, .null], vm := .none },
  { cls := 6, slots := #[.null, .int 9, .int 0, .null, .null, .int 0, .null], vm := .none },
  { cls := 6, slots := #[.null, .int 10, .int 0, .null, .null, .int 0, .null], vm := .none },
  { cls := 6, slots := #[.null, .int 11, .int 0, .null, .null, .int 0, .null], vm := .none },
  { cls := 6, slots := #[.null, .int 12, .int 0, .null, .null, .int 0, .null], vm := .none },
  { cls := 6, slots := #[.null, .int 13, .int 0, .null, .null, .int 0, .null], vm := .none },
  { cls := 6, slots := #[.null, .int 14, .int 0, .null, .null, .int 0, .null], vm := .none },
  { cls := 6, slots := #[.null, .int 15, .int 0, .null, .null, .int 0, .null], vm := .none },
  { cls := 6, slots := #[.null, .int 16, .int 0, .null, .null, .int 0, .null], vm := .none },
  { cls := 6, slots := #[.null, .int 17, .int 0, .null, .null, .int 0, .null], vm := .none },
  { cls := 6, slots := #[.null, .int 18, .int 0, .null, .null, .int 0, .null], vm := .none },
  { cls := 6, slots := #[.null, .int 19, .int 0, .null, .null, .int 0, .null], vm := .none }]
def classes : Array Class := #[k0, k1, k2, k3, k4, k5, k6, k7, k8, k9, k10, k11, k12]
def interned : List (Array UInt16 × Addr) := []
def slotsUsed : Nat := 161
def theMethod : MethodId := ⟨1, 1⟩
def args0 : Array Value := #[.int 5]
def aboutOver (below : List Frame) : State where
  vm := { classes := classes, interned := interned.toArray }
  heap := heap
  slotsUsed := slotsUsed
  threads := #[{ frames := .invoking theMethod args0 :: below }]
def below0 : List Frame := [.native { method := ⟨0, 0⟩, args := #[] }]
def about1 : State := aboutOver below0
def p0 : Program := .bare "" "" ""
def e0 : Env := launch0.env 0 0 0
theorem w_frames : about1.frames = Frame.invoking theMethod args0 :: below0 := rfl
set_option maxRecDepth 65536 in
theorem w_args : argsFit about1.vm theMethod args0 = true := by decide +kernel
set_option maxRecDepth 65536 in
theorem w_heap : heapFits about1 = true := by decide +kernel
set_option maxRecDepth 65536 in
theorem w_runnable : about1.curStatus? = some .runnable := by decide +kernel
set_option maxRecDepth 65536 in
theorem w_alone : about1.alone = true := by decide +kernel
set_option maxRecDepth 65536 in
theorem w_named : about1.methodNamed? x = some theMethod := by decide +kernel
set_option maxRecDepth 65536 in
theorem w_hears : about1.hears theMethod below0 = true := by decide +kernel
set_option maxRecDepth 65536 in
theorem w_ripe : about1.ripe theMethod args0 below0 = true := by decide +kernel
theorem w_running : about1.status = .running := rfl
set_option maxRecDepth 65536 in
theorem w_room : about1.hasRoom e0.platform room_1 = true :=
  launch0.hasRoom_least _ room_1 (by decide +kernel) (by decide +kernel) (by decide +kernel) (by decide +kernel) (by decide +kernel) (by decide +kernel)
theorem allAtoms_all (ts : List Jvm.Cond) (a : Array Jvm.Value) (st : Jvm.State) : (allAtoms ts).before a st = ts.all (fun c => c.before a st) := by
  induction ts with
  | nil => rfl
  | cons c t ih =>
    show (Jvm.Cond.and c (allAtoms t)).before a st = _
    rw [Jvm.Cond.before_and, ih, List.all_cons]
def words1 : List Jvm.Cond := Jvm.Cond.code x code maxLocals ret :: tables_1
/-- a 'code' word, met by the world's own term for the bytes: nothing is compared byte by byte -/
theorem code_word {y : MethodName} {bytes : ByteArray} {mx : Nat} {rt : Option FieldType} {a : Array Value} {s : State} {m : MethodId} {meth : Method} {c : Code} (h1 : s.methodNamed? y = some m) (h2 : s.vm.method? m = some meth) (h3 : meth.code = some c) (h4 : c.code = bytes)
    (h5 : (c.maxLocals == mx && c.exceptionTable.isEmpty && decide (c.maxStack ≤ mostOperands) && decide (meth.sig.returnType = rt) && !meth.locks && decide (parseMethodDescriptor y.desc = some meth.sig)) = true) : (Jvm.Cond.code y bytes mx rt).before a s = true := by
  simp only [Bool.and_eq_true, beq_iff_eq, Bool.not_eq_true', decide_eq_true_eq] at h5
  obtain ⟨⟨⟨⟨⟨g1, g2⟩, g3⟩, g4⟩, g5⟩, g6⟩ := h5
  simp [Cond.before, Cond.holds, Cond.value, h1, h2, h3, h4, g1, g2, g3, g4, g5, g6]
def isCode : Jvm.Cond → Bool
  | .code _ _ _ _ => true
  | _ => false
theorem all_split {L : List Jvm.Cond} {P : Jvm.Cond → Bool} (h1 : L.all (fun c => isCode c || P c) = true) (h2 : ∀ c ∈ L.filter isCode, P c = true) : L.all P = true := by
  refine List.all_eq_true.mpr fun c hc => ?_
  have h := List.all_eq_true.mp h1 c hc
  rcases Bool.eq_false_or_eq_true (isCode c) with hi | hi
  · exact h2 c (List.mem_filter.mpr ⟨hc, hi⟩)
  · simpa [hi] using h
set_option maxRecDepth 65536 in
theorem w_c0 : (Jvm.Cond.code x code maxLocals ret).before args0 about1 = true := code_word (m := ⟨1, 1⟩) (meth := k1m1) (c := k1c1) (by decide +kernel) rfl rfl rfl (by decide +kernel)
set_option maxRecDepth 65536 in
theorem w_c1 : (Jvm.Cond.code ({ cls := "com/example/kull/kull/prune/PruningStrategy", name := "readsKeywordLevel", desc := "()Z" } : Jvm.MethodName) prog_39_method_8_code (1 : Nat) (Option.some Jvm.ClassFile.FieldType.boolean)).before args0 about1 = true := code_word (m := ⟨6, 0⟩) (meth := k6m0) (c := k6c0) (by decide +kernel) rfl rfl rfl (by decide +kernel)
def codes1 : List Jvm.Cond := [Jvm.Cond.code x code maxLocals ret, Jvm.Cond.code ({ cls := "com/example/kull/kull/prune/PruningStrategy", name := "readsKeywordLevel", desc := "()Z" } : Jvm.MethodName) prog_39_method_8_code (1 : Nat) (Option.some Jvm.ClassFile.FieldType.boolean)]
set_option maxRecDepth 65536 in
theorem codes_eq : words1.filter isCode = codes1 := rfl
theorem w_codes : ∀ c ∈ words1.filter isCode, c.before args0 about1 = true := by
  rw [codes_eq]
  intro c hc
  simp only [codes1, List.mem_cons, List.not_mem_nil, or_false] at hc
  rcases hc with rfl | rfl
  · exact w_c0
  · exact w_c1
set_option maxRecDepth 65536 in
theorem w_t1 : (words1.take 24).all (fun c => isCode c || c.before args0 about1) = true := by decide +kernel
set_option maxRecDepth 65536 in
theorem w_t2 : ((words1.drop 24).take 24).all (fun c => isCode c || c.before args0 about1) = true := by decide +kernel
set_option maxRecDepth 65536 in
theorem w_t3 : ((words1.drop 24).drop 24).all (fun c => isCode c || c.before args0 about1) = true := by decide +kernel
theorem w_tables : (allAtoms (Jvm.Cond.code x code maxLocals ret :: tables_1)).before args0 about1 = true := by
  rw [allAtoms_all]
  show words1.all (fun c => c.before args0 about1) = true
  refine all_split ?_ w_codes
  rw [← List.take_append_drop 24 words1, List.all_append, w_t1, ← List.take_append_drop 24 (words1.drop 24), List.all_append, w_t2, w_t3]
  rfl
set_option maxRecDepth 65536 in
theorem w_case : (Jvm.Cond.and given_1 narrow_1).before args0 about1 = true := by decide +kernel
theorem w_applies : (headSpec (Jvm.Cond.code x code maxLocals ret :: tables_1) room_1).applies x e0.platform about1 = true :=
  (Spec.applies_iff w_frames).mpr ⟨w_running, w_runnable, w_alone, w_named, w_hears, w_ripe, w_room, w_tables⟩
theorem atStart : AtStart classFile x code maxLocals ret World_1 tables_1 room_1 Calls_1 rest_1 Pre_1 launch0 p0 e0 about1 theMethod args0 below0 :=
  ⟨lists_1, trivial, launch0.admits_env _ _ _, launch0.least_env, fairChoices_fair.cas, fairChoices_fair.clock, w_frames, w_args, w_heap, w_applies, trivial, trivial, w_case⟩
end start1
theorem witness_1 : WitnessClaimed_1 := ⟨start1.p0, start1.e0, start1.about1, start1.theMethod, start1.args0, start1.below0, start1.atStart⟩
end Jvm.Pilot.@@N@@
