import JvmDerived
import JvmDerived.Pilot.@@N@@Statement
import JvmDerived.Pilot.@@N@@Code
set_option linter.unusedVariables false
set_option linter.unusedSimpArgs false
set_option maxRecDepth 65536
set_option maxHeartbeats 40000000
namespace Jvm.Pilot.@@N@@
open Jvm Jvm.ClassFile Sem Op Lib Jvm.Free Jvm.Stand Jvm.LawKit Jvm.RoadKit Bundle Jvm.Pilot.@@N@@.Jvm.D
/-! my own words: Go (the run comes from T to a state with P), a step, a return -/
def Go (tb : Tables) (e : Env) (below : List Frame) (P : State → Prop) (T : State) : Prop := ∃ u, P u ∧ ∀ t, Steps tb e below u t → Steps tb e below T t
theorem Go.by' {tb : Tables} {e : Env} {below : List Frame} {P : State → Prop} {T T' : State} (h : ∀ t, Steps tb e below T' t → Steps tb e below T t) (k : Go tb e below P T') : Go tb e below P T :=
  k.elim fun u q => ⟨u, q.1, fun t z => h t (q.2 t z)⟩
theorem Go.cast {tb : Tables} {e : Env} {below : List Frame} {P : State → Prop} {T : State} {g g' : JFrame} (q : g = g') (k : Go tb e below P (T.setTop g')) : Go tb e below P (T.setTop g) := q ▸ k
theorem Go.castF {tb : Tables} {e : Env} {below : List Frame} {P : State → Prop} {T : State} {α : Type} (F : α → JFrame) {a b : α} (q : a = b) (k : Go tb e below P (T.setTop (F b))) : Go tb e below P (T.setTop (F a)) := q ▸ k
def Fin' (s : State) (below : List Frame) (ce sl : Nat) (Q : Option Value → Heap → List Loc → Prop) (u : State) : Prop := u.status = .running ∧ ∃ o, Ended u below o ∧ ∃ v L, o = .returned v ∧ Q v u.heap L ∧ FrameEnd s o u L ce sl
theorem Go.body {tb : Tables} {e : Env} {below : List Frame} {s : State} {ce sl : Nat} {Q : Option Value → Heap → List Loc → Prop} {T : State} (h : Go tb e below (Fin' s below ce sl Q) T) :
    ∃ s₂ o, Steps tb e below T s₂ ∧ s₂.status = .running ∧ Ended s₂ below o ∧ ∃ v L, o = .returned v ∧ Q v s₂.heap L ∧ FrameEnd s o s₂ L ce sl := by
  obtain ⟨u, ⟨h1, o, h2, h3⟩, h4⟩ := h
  exact ⟨u, o, h4 u (Steps.refl _), h1, h2, h3⟩
section OwnStand
variable {p : Program} {l : Launch} {e : Env} {R : Room} {s : State} {m : MethodId} {args : Array Value} {below : List Frame} {meth : Method} {c : Code} {T : State} {locs : List Loc} {cells slots : Nat}
def Like (X : Stand p l e R s m args below meth c T locs cells slots) (T' : State) : Prop := Stand p l e R s m args below meth c T' locs cells slots
theorem Go.out (X : Stand p l e R s m args below meth c T locs cells slots) {v : Option Value} (hv : meth.sig.returnType = none → v = none) (hlocks : meth.locks = false) {g : JFrame} {ce sl : Nat} {Q : Option Value → Heap → List Loc → Prop}
    (st : ∀ fs : List Frame, (∀ (f : JFrame) (acts : List Action), f.method = m → f.locked = none → f.entered = [] → (doReturn e (T.setTop f) acts v).1 = T.setFrames fs) → Steps p.tables e below (T.setTop g) (T.setFrames fs))
    (hc : cells ≤ ce) (hs : slots ≤ sl) (q : Q v T.heap locs) : Go p.tables e below (Fin' s below ce sl Q) (T.setTop g) := by
  obtain ⟨fs, hr, hrun, hended, hW, hsame⟩ := X.leave (v := v) hv hlocks
  exact ⟨T.setFrames fs, ⟨hrun, _, hended, v, locs, rfl, q, ⟨_, rfl⟩, hW, hsame.mono hc hs⟩, fun t k => (st fs hr).trans k⟩
theorem Go.retI' (X : Stand p l e R s m args below meth c T locs cells slots) (hx : p.tables.exec = Jvm.exec) {pc : Nat} {Ls : Array Slot} {z : Int32} {rest : List Value} {t : FieldType} (hret : meth.sig.returnType = some t) (hlocks : meth.locks = false)
    (ht : t = .int ∨ t = .boolean ∨ t = .byte ∨ t = .char ∨ t = .short) (hn : narrow t (.int z) = .int z) (hd : decode c.code pc = .ok (.ireturn, 1)) {ce sl : Nat} {Q : Option Value → Heap → List Loc → Prop} (hc : cells ≤ ce) (hs : slots ≤ sl) (q : Q (some (.int z)) T.heap locs) :
    Go p.tables e below (Fin' s below ce sl Q) (T.setTop (mkF m pc Ls (.int z :: rest))) :=
  Go.out X (fun h => by rw [hret] at h; cases h) hlocks (fun _ hl => retOut X hx hret hn (Or.inl ⟨rfl, ht, z, rfl⟩) hd hl) hc hs q
theorem Go.retA' (X : Stand p l e R s m args below meth c T locs cells slots) (hx : p.tables.exec = Jvm.exec) {pc : Nat} {Ls : Array Slot} {w : Value} {rest : List Value} {t : FieldType} (hret : meth.sig.returnType = some t) (hlocks : meth.locks = false)
    (ht : t.isReference = true) (hw : w.isRef = true) (hd : decode c.code pc = .ok (.areturn, 1)) {ce sl : Nat} {Q : Option Value → Heap → List Loc → Prop} (hc : cells ≤ ce) (hs : slots ≤ sl) (q : Q (some w) T.heap locs) :
    Go p.tables e below (Fin' s below ce sl Q) (T.setTop (mkF m pc Ls (w :: rest))) :=
  Go.out X (fun h => by rw [hret] at h; cases h) hlocks (fun _ hl => retOut X hx hret (by cases t <;> first | (cases ht; done) | (rcases ref_cases hw with rfl | ⟨z, rfl⟩ <;> rfl)) (Or.inr (Or.inr (Or.inr (Or.inr ⟨rfl, ht, hw⟩)))) hd hl) hc hs q
theorem Go.retD' (X : Stand p l e R s m args below meth c T locs cells slots) (hx : p.tables.exec = Jvm.exec) {pc : Nat} {Ls : Array Slot} {z : UInt64} {rest : List Value} (hret : meth.sig.returnType = some .double) (hlocks : meth.locks = false)
    (hd : decode c.code pc = .ok (.dreturn, 1)) {ce sl : Nat} {Q : Option Value → Heap → List Loc → Prop} (hc : cells ≤ ce) (hs : slots ≤ sl) (q : Q (some (.double z)) T.heap locs) :
    Go p.tables e below (Fin' s below ce sl Q) (T.setTop (mkF m pc Ls (.double z :: rest))) :=
  Go.out X (fun h => by rw [hret] at h; cases h) hlocks (fun _ hl => retOut X hx hret rfl (Or.inr (Or.inr (Or.inl ⟨rfl, rfl, z, rfl⟩))) hd hl) hc hs q
theorem Go.retV' (X : Stand p l e R s m args below meth c T locs cells slots) (hx : p.tables.exec = Jvm.exec) {pc : Nat} {Ls : Array Slot} (hret : meth.sig.returnType = none) (hlocks : meth.locks = false)
    (hd : decode c.code pc = .ok (.return_, 1)) {ce sl : Nat} {Q : Option Value → Heap → List Loc → Prop} (hc : cells ≤ ce) (hs : slots ≤ sl) (q : Q none T.heap locs) :
    Go p.tables e below (Fin' s below ce sl Q) (T.setTop (mkF m pc Ls [])) :=
  Go.out X (fun _ => rfl) hlocks (fun _ hl => X.returnOut hx hret hd hl) hc hs q
theorem own_nil (X : Stand p l e R s m args below meth c T (locs ++ []) cells slots) : Stand p l e R s m args below meth c T locs cells slots := by rw [List.append_nil] at X; exact X
theorem own_pack {k : Nat} (X : Stand p l e R s m args below meth c T locs cells slots) (N : Fr k locs) : ∃ ll, Stand p l e R s m args below meth c T ll cells slots ∧ Fr k ll := ⟨_, X, N⟩
end OwnStand
abbrev vi (x : Int32) : Slot := .val (.int x)
abbrev vr (a : Addr) : Slot := .val (.ref a)
theorem own_nb {z : Int32} (h : z = 0 ∨ z = 1) : narrow .boolean (.int z) = .int z := by rcases h with rfl | rfl <;> rfl
theorem own_fb {z : Int32} (h : z = 0 ∨ z = 1) : fits .boolean (.int z) = true := by rcases h with rfl | rfl <;> rfl
theorem own_bb {x : Int32} : nar .byte (x.toInt8.toInt32) = x.toInt8.toInt32 := by show x.toInt8.toInt32.toInt8.toInt32 = x.toInt8.toInt32; simp
theorem own_nm (x : Int32) : nar .char (x &&& (255 : Int32)) = (x &&& (255 : Int32)) := i2c_mask x
theorem own_i2c {x : Int32} (h0 : ¬ x < (0 : Int32)) (h1 : ¬ (255 : Int32) < x) : x.toUInt32.toUInt16.toUInt32.toInt32 = x := by
  have a := c_i2c x
  have z0 : (0 : Int32).toInt = 0 := rfl
  have z1 : (255 : Int32).toInt = 255 := rfl
  rw [Int32.lt_iff_toInt_lt] at h0 h1
  rw [← Int32.toInt_inj]; omega
theorem own_nc {x : Int32} (h0 : ¬ x < (0 : Int32)) (h1 : ¬ (255 : Int32) < x) : nar .char x = x := own_i2c h0 h1
theorem own_b8 {x y : Int32} (h0 : ¬ x < (0 : Int32)) (h1 : ¬ (255 : Int32) < x) (h2 : ¬ y < (0 : Int32)) (h3 : ¬ (255 : Int32) < y) : (x.toInt8.toInt32) = (y.toInt8.toInt32) ↔ x = y := by
  have a := c_i2b x
  have b := c_i2b y
  have z0 : (0 : Int32).toInt = 0 := rfl
  have z1 : (255 : Int32).toInt = 255 := rfl
  rw [Int32.lt_iff_toInt_lt] at h0 h1 h2 h3
  rw [← Int32.toInt_inj, ← Int32.toInt_inj]; omega
theorem own_m (x : Int32) : ¬ (x &&& (255 : Int32)) < (0 : Int32) ∧ ¬ (255 : Int32) < (x &&& (255 : Int32)) := by
  have h := c_mask x 255 8 (by decide) (by decide)
  have z0 : (0 : Int32).toInt = 0 := rfl
  have z1 : (255 : Int32).toInt = 255 := rfl
  rw [Int32.lt_iff_toInt_lt, Int32.lt_iff_toInt_lt]; omega
theorem own_le {Z : State} {n0 : Nat} {h : Heap} (X : Old Z n0 h) : n0 ≤ h.size := X.1 ▸ X.2.1
theorem own_len {Z : State} {args : Array Value} {t : Term} {a : Addr} {cl : Cell} {ty : FieldType} {z : Int32} (ht : t.eval args Z none [] Z = some (.ref a)) (A : Arr Z Z.heap a cl ty) (h : (Term.length t).eval args Z none [] Z = some (.int z)) : cl.slots.size < 2 ^ 31 ∧ cl.slots.size.toInt32 = z := by
  have ha := Arr.fin (Vm.Alike.refl _) A
  by_cases q : cl.slots.size < 2 ^ 31
  · exact ⟨q, Value.int.inj (Option.some.inj ((len_f ht ha q).symm.trans h))⟩
  · exfalso; simp [Term.eval, ht, ha] at h; exact q (by omega)
theorem own_eqr {Z : State} {args : Array Value} {X F : Term} {a : Addr} (hF : F.eval args Z none [] Z = some (.ref a)) (h : (Cond.eq X F).value args Z none Z [] = some true) : X.eval args Z none [] Z = some (.ref a) := by
  obtain ⟨x, y', e1, e2, k1, k2⟩ := cmp_v (Or.inl h)
  cases hF.symm.trans e2
  have hx : x.isRef = true := k2.2
  have := gotT (eq_R e1 hF hx rfl) h
  rw [e1, this]
section OwnShort
variable {p : Program} {l : Launch} {e : Env} {R : Room} {s Z : State} {m : MethodId} {args a0 : Array Value} {below : List Frame} {meth : Method} {c : Code} {T target : State} {locs : List Loc} {cells slots : Nat} {H : Heap} {a : Addr} {ka : ClassId} {ty : FieldType} {z j : Int32} {vs : List Value} {d v : Value} {g : JFrame} {rest : List Value}
theorem own_bal (X : Stand p l e R s m args below meth c T locs cells slots) (hx : p.tables.exec = Jvm.exec) (hZ : Z.Warmed39 s.vm) (eT : T.heap = H) (V : Arv Z H a ka .byte z vs d) (hj : ¬ j < 0 ∧ j < z) (hv : vs.getD j.toNatClampNeg d = v) (hg : g.method = m) (hs : g.stack = .int j :: .ref a :: rest) (hd : decode c.code g.pc = .ok (.baload, 1))
    (k : Steps p.tables e below (T.setTop { g with pc := g.pc + 1, stack := v :: rest }) target) : Steps p.tables e below (T.setTop g) target := by
  obtain ⟨cl, A, -, S, -, Hs, -⟩ := V
  have hin := inb_of S hj
  exact X.baloadBytes hx (by rw [eT]; exact A.1) (State.isArrayOf_alike hZ.alike A.2.1) A.2.2 hin (Hs.at hin hv) hg hs hd _ k
theorem own_cal (X : Stand p l e R s m args below meth c T locs cells slots) (hx : p.tables.exec = Jvm.exec) (hZ : Z.Warmed39 s.vm) (eT : T.heap = H) (V : Arv Z H a ka .char z vs d) (hj : ¬ j < 0 ∧ j < z) (hv : vs.getD j.toNatClampNeg d = v) (hg : g.method = m) (hs : g.stack = .int j :: .ref a :: rest) (hd : decode c.code g.pc = .ok (.caload, 1))
    (k : Steps p.tables e below (T.setTop { g with pc := g.pc + 1, stack := v :: rest }) target) : Steps p.tables e below (T.setTop g) target := by
  obtain ⟨cl, A, -, S, -, Hs, -⟩ := V
  have hin := inb_of S hj
  exact X.caload hx (by rw [eT]; exact A.1) (State.isArrayOf_alike hZ.alike A.2.1) A.2.2 hin (Hs.at hin hv) hg hs hd _ k
theorem own_alen (X : Stand p l e R s m args below meth c T locs cells slots) (hx : p.tables.exec = Jvm.exec) (hZ : Z.Warmed39 s.vm) (eT : T.heap = H) (V : Arv Z H a ka ty z vs d) (hg : g.method = m) (hs : g.stack = .ref a :: rest) (hd : decode c.code g.pc = .ok (.arraylength, 1))
    (k : Steps p.tables e below (T.setTop { g with pc := g.pc + 1, stack := .int z :: rest }) target) : Steps p.tables e below (T.setTop g) target := by
  obtain ⟨cl, A, -, S, P, -, -⟩ := V
  rw [← len_of S P] at k
  exact X.arraylength hx (by rw [eT]; exact A.1) (State.isArrayOf_alike hZ.alike A.2.1) hg hs hd _ k
end OwnShort
theorem own_w {Z : State} {a0 : Array Value} (hw : ∀ d ∈ tables_1, d.before a0 Z = true) (i : Nat) {d : Jvm.Cond} (h : tables_1[i]? = some d) : d.before a0 Z = true := hw _ (List.mem_of_getElem? h)
theorem own_hd {p : Program} {l : Launch} {x : MethodName} {ws : List Jvm.Cond} {rm : Room} {code : ByteArray} {maxL : Nat} {ret : Option FieldType} {e : Env} {s s₁ : State} {m : MethodId} {args : Array Value} {below : List Frame} {meth : Method} {c : Code} {h0 : Heap} (Bd : BodyLoose p l x (head1 ws rm) code maxL ret e s m args below meth c s₁) (hh : s.heap = h0) :
    p.tables.exec = Jvm.exec ∧ c.code = code ∧ meth.locks = false ∧ s.vm.findClass x.cls = some m.cls ∧ meth.name = x.name ∧ meth.sig.returnType = ret ∧ Stand p l e rm s m args below meth c s₁ [] 0 0 ∧ s₁.heap = h0 :=
  ⟨Bd.exec, Bd.bytes, Bd.notSynchronized, findClass_of_methodNamed Bd.named, (name_of_methodNamed Bd.named Bd.method).1, Bd.returns, Stand.of_body Bd, by rw [← hh, Bd.state]; rfl⟩
def tabI : List (Int32 × Int32) := [(0, 1207963663), (1, 1207963663), (2, 1207963663), (3, 1207963663), (4, 1207963663), (5, 1207963663), (6, 1207963663), (7, 1207963663), (8, 1207963663), (9, 1476411407), (10, 1342193679), (11, 1476411407), (12, 1610629135), (13, 1342193679), (14, 1207963663), (15, 1207963663), (16, 1207963663), (17, 1207963663), (18, 1207963663), (19, 1207963663), (20, 1207963663), (21, 1207963663), (22, 1207963663), (23, 1207963663), (24, 1207963663), (25, 1207963663), (26, 1207963663), (27, 1207963663), (28, 1342193679), (29, 1342193679), (30, 1342193679), (31, 1476411407), (32, 1610629132), (33, 1744830488), (34, 1744830488), (35, 671088664), (36, 671113242), (37, 671088664), (38, 1744830488), (39, 1744830488), (40, (-402653163)), (41, (-402653162)), (42, 1744830488), (43, 536870937), (44, 939524120), (45, 536870932), (46, 939524120), (47, 939524120), (48, 402667017), (49, 402667017), (50, 402667017), (51, 402667017), (52, 402667017), (53, 402667017), (54, 402667017), (55, 402667017), (56, 402667017), (57, 402667017), (58, 939524120), (59, 1744830488), (60, (-402653159)), (61, 1744830489), (62, (-402653159)), (63, 1744830488), (64, 1744830488), (65, 8552417), (66, 8552417), (67, 8552417), (68, 8552417), (69, 8552417), (70, 8552417), (71, 8552417), (72, 8552417), (73, 8552417), (74, 8552417), (75, 8552417), (76, 8552417), (77, 8552417), (78, 8552417), (79, 8552417), (80, 8552417), (81, 8552417), (82, 8552417), (83, 8552417), (84, 8552417), (85, 8552417), (86, 8552417), (87, 8552417), (88, 8552417), (89, 8552417), (90, 8552417), (91, (-402653163)), (92, 1744830488), (93, (-402653162)), (94, 1744830491), (95, 1744850967), (96, 1744830491), (97, 8486882), (98, 8486882), (99, 8486882), (100, 8486882), (101, 8486882), (102, 8486882), (103, 8486882), (104, 8486882), (105, 8486882), (106, 8486882), (107, 8486882), (108, 8486882), (109, 8486882), (110, 8486882), (111, 8486882), (112, 8486882), (113, 8486882), (114, 8486882), (115, 8486882), (116, 8486882), (117, 8486882), (118, 8486882), (119, 8486882), (120, 8486882), (121, 8486882), (122, 8486882), (123, (-402653163)), (124, 1744830489), (125, (-402653162)), (126, 1744830489), (127, 1207963663), (128, 1207963663), (129, 1207963663), (130, 1207963663), (131, 1207963663), (132, 1207963663), (133, 1342181391), (134, 1207963663), (135, 1207963663), (136, 1207963663), (137, 1207963663), (138, 1207963663), (139, 1207963663), (140, 1207963663), (141, 1207963663), (142, 1207963663), (143, 1207963663), (144, 1207963663), (145, 1207963663), (146, 1207963663), (147, 1207963663), (148, 1207963663), (149, 1207963663), (150, 1207963663), (151, 1207963663), (152, 1207963663), (153, 1207963663), (154, 1207963663), (155, 1207963663), (156, 1207963663), (157, 1207963663), (158, 1207963663), (159, 1207963663), (160, 939524108), (161, 1744830488), (162, 671113242), (163, 671113242), (164, 671113242), (165, 671113242), (166, 1744830492), (167, 1744830488), (168, 1744830491), (169, 1744830492), (170, 28677), (171, (-402653155)), (172, 1744830489), (173, 1207963664), (174, 1744830492), (175, 1744830491), (176, 671088668), (177, 671088665), (178, 402654731), (179, 402654731), (180, 1744830491), (181, 134049794), (182, 1744830488), (183, 1744830488), (184, 1744830491), (185, 402654475), (186, 28677), (187, (-402653154)), (188, 1744832523), (189, 1744832523), (190, 1744832523), (191, 1744830488), (192, 8548353), (193, 8548353), (194, 8548353), (195, 8548353), (196, 8548353), (197, 8548353), (198, 8548353), (199, 8548353), (200, 8548353), (201, 8548353), (202, 8548353), (203, 8548353), (204, 8548353), (205, 8548353), (206, 8548353), (207, 8548353), (208, 8548353), (209, 8548353), (210, 8548353), (211, 8548353), (212, 8548353), (213, 8548353), (214, 8548353), (215, 1744830489), (216, 8548353), (217, 8548353), (218, 8548353), (219, 8548353), (220, 8548353), (221, 8548353), (222, 8548353), (223, 134049794), (224, 8482818), (225, 8482818), (226, 8482818), (227, 8482818), (228, 8482818), (229, 8482818), (230, 8482818), (231, 8482818), (232, 8482818), (233, 8482818), (234, 8482818), (235, 8482818), (236, 8482818), (237, 8482818), (238, 8482818), (239, 8482818), (240, 8482818), (241, 8482818), (242, 8482818), (243, 8482818), (244, 8482818), (245, 8482818), (246, 8482818), (247, 1744830489), (248, 8482818), (249, 8482818), (250, 8482818), (251, 8482818), (252, 8482818), (253, 8482818), (254, 8482818), (255, 102592514)]
def tabW (q : Int32 × Int32) : Jvm.Cond := Jvm.Cond.eq (Jvm.Term.elem (Jvm.Term.static "java/lang/CharacterDataLatin1" "A" "[I") (Jvm.Term.int q.1)) (Jvm.Term.int q.2)
set_option maxRecDepth 200000 in
theorem own_tab : (jdkStatics_1.drop 17).take 256 = tabI.map tabW := rfl
theorem own_tabn : ∀ n : Nat, n < 256 → (tabI.getD n (0, 0)).1.toNatClampNeg = n ∧ ¬ (tabI.getD n (0, 0)).1 < 0 := by decide +kernel
theorem own_tabl : tabI.length = 256 := by decide +kernel
def tv (x : Int32) : Int32 := (tabI.getD x.toNatClampNeg (0, 0)).2
def Ws (y : Int32) : Prop := (¬ y < (9 : Int32) ∧ ¬ (13 : Int32) < y) ∨ (¬ y < (28 : Int32) ∧ ¬ (31 : Int32) < y) ∨ y = (32 : Int32)
instance (y : Int32) : Decidable (Ws y) := by unfold Ws; infer_instance
def TA (Z : State) (wA : Addr) (cA : Cell) : Prop := Arr Z Z.heap wA cA .int ∧ cA.slots.size = 256 ∧ ∀ n : Nat, n < 256 → cA.slots[n]? = some (.int (tabI.getD n (0, 0)).2)
theorem own_TA {Z : State} {args : Array Value} {wA : Addr} {cA : Cell} (ev : (Jvm.Term.static "java/lang/CharacterDataLatin1" "A" "[I").eval args Z none [] Z = some (.ref wA)) (A : Arr Z Z.heap wA cA .int) (h1 : cA.slots.size < 2 ^ 31) (h2 : cA.slots.size.toInt32 = (256 : Int32)) (h : ∀ d ∈ jdkStatics_1, d.before args Z = true) : TA Z wA cA := by
  refine ⟨A, ?_, fun n hn => ?_⟩
  · have := congrArg Int32.toInt h2
    rw [len_toInt h1] at this
    have z : (256 : Int32).toInt = 256 := rfl
    omega
  · have hm : tabI.getD n (0, 0) ∈ tabI := by rw [List.getD_eq_getElem?_getD, List.getElem?_eq_getElem (by rw [own_tabl]; exact hn)]; exact List.getElem_mem _
    have hw := h _ (List.mem_of_mem_drop (List.mem_of_mem_take (own_tab ▸ List.mem_map_of_mem (f := tabW) hm)))
    obtain ⟨t1, t2⟩ := own_tabn n hn
    have q := eqv_i (Term.int_eval _) (Cond.before_iff.mp hw)
    rw [← t1, ← elem_f ev (Term.int_eval _) (A.fin (Vm.Alike.refl _)) t2]
    rw [t1]; exact q
theorem own_wsn : ∀ n : Nat, n < 256 → ((((tabI.getD n (0, 0)).2 &&& (28672 : Int32)) = (16384 : Int32)) ↔ Ws n.toInt32) := by decide +kernel
theorem own_u8n : ∀ n : Nat, n < 256 → ((n.toInt32).toInt8.toInt32 &&& (255 : Int32)) = n.toInt32 := by decide +kernel
theorem own_nn {x : Int32} (h0 : ¬ x < (0 : Int32)) (h1 : ¬ (255 : Int32) < x) : ∃ n : Nat, n < 256 ∧ x = n.toInt32 ∧ x.toNatClampNeg = n := by
  have z0 : (0 : Int32).toInt = 0 := rfl
  have z1 : (255 : Int32).toInt = 255 := rfl
  rw [Int32.lt_iff_toInt_lt] at h0 h1
  obtain ⟨n, hn⟩ : ∃ n : Nat, x.toInt = n := ⟨_, (Int.toNat_of_nonneg (by omega)).symm⟩
  have hx : x = n.toInt32 := by rw [← Int32.toInt_inj, hn, len_toInt (by omega)]
  exact ⟨n, by omega, hx, by simp only [Int32.toNatClampNeg]; omega⟩
theorem own_u8 {x : Int32} (h0 : ¬ x < (0 : Int32)) (h1 : ¬ (255 : Int32) < x) : ((x.toInt8.toInt32) &&& (255 : Int32)) = x := by
  obtain ⟨n, a, rfl, -⟩ := own_nn h0 h1
  exact own_u8n n a
theorem own_ws {x : Int32} (h0 : ¬ x < (0 : Int32)) (h1 : ¬ (255 : Int32) < x) : ((tv x &&& (28672 : Int32)) = (16384 : Int32)) ↔ Ws x := by
  obtain ⟨n, a, b, c⟩ := own_nn h0 h1
  have := own_wsn n a
  rw [tv, c, this, b]
theorem own_tvr {x : Int32} (h0 : ¬ x < (0 : Int32)) (h1 : ¬ (255 : Int32) < x) : ¬ x < 0 ∧ x < (256 : Int32) := by
  have z0 : (0 : Int32).toInt = 0 := rfl
  have z1 : (255 : Int32).toInt = 255 := rfl
  have z2 : (256 : Int32).toInt = 256 := rfl
  simp only [Int32.lt_iff_toInt_lt] at *
  omega
theorem own_w9 {y : Int32} (h : y = (9 : Int32)) : Ws y := by subst h; decide
theorem own_w32 {y : Int32} (h : y = (32 : Int32)) : Ws y := by subst h; decide
def Gh (Z : State) (vcs : Int32) (wI : Addr) (wA : Addr) (cA : Cell) : Prop := (Sta Z Z.heap "java/lang/String" "COMPACT_STRINGS" "Z" (.int vcs)) ∧ (¬ (vcs = (0 : Int32))) ∧ (Sta Z Z.heap "java/lang/CharacterDataLatin1" "instance" "Ljava/lang/CharacterDataLatin1;" (.ref wI)) ∧ (Exa Z Z.heap wI "java/lang/CharacterDataLatin1") ∧ (Sta Z Z.heap "java/lang/CharacterDataLatin1" "A" "[I" (.ref wA)) ∧ (TA Z wA cA)
/-! walks that may load String constants: what a walk bears besides its Stand -/
def Sb (Z : State) (EL : List (String × Nat)) (own : String) (cls : ClassId) (s : State) (vm0 : Vm) (h0 H : Heap) : Prop :=
  ∃ k0, s.Since vm0 k0 ∧ k0 ≤ H.size ∧ Z.Warmed39 vm0 ∧ vm0.findClass own = some cls ∧ CHr Z EL s.vm h0 vm0 H
section OwnS
variable {Z s : State} {EL : List (String × Nat)} {own : String} {cls : ClassId} {vm0 : Vm} {h0 H H' : Heap} {a0 : Array Value}
theorem Sb.start (hZ : Z.Warmed39 s.vm) (ho : s.vm.findClass own = some cls) (hC : CHv Z EL s.vm h0) : Sb Z EL own cls s s.vm h0 h0 := ⟨0, (State.WarmedH.refl s).since 0, Nat.zero_le _, hZ, ho, CHr.refl hC⟩
theorem Sb.hZ (b : Sb Z EL own cls s vm0 h0 H) : Z.Warmed39 (s.setVm vm0).vm := b.elim fun _ q => q.2.2.1
theorem Sb.hO (b : Sb Z EL own cls s vm0 h0 H) : (s.setVm vm0).vm.findClass own = some cls := b.elim fun _ q => q.2.2.2.1
theorem Sb.ch (b : Sb Z EL own cls s vm0 h0 H) : CHv Z EL vm0 H := b.elim fun _ q => q.2.2.2.2.1
theorem Sb.ext (b : Sb Z EL own cls s vm0 h0 H) (E : Ext H H') : Sb Z EL own cls s vm0 h0 H' := by
  obtain ⟨k0, b1, b2, b3, b4, b5⟩ := b
  exact ⟨k0, b1, Nat.le_trans b2 E.1, b3, b4, b5.trans (CHr.ext E b5.1)⟩
theorem Sb.wr (b : Sb Z EL own cls s vm0 h0 H) {a : Addr} {sl : Nat} {v : Value} (W : Wr H H' a sl v) (S : Safe Z EL vm0 H a) : Sb Z EL own cls s vm0 h0 H' := by
  obtain ⟨k0, b1, b2, b3, b4, b5⟩ := b
  exact ⟨k0, b1, Nat.le_trans b2 (Nat.le_of_eq W.size.symm), b3, b4, b5.trans (CHr.wr W S b5.1)⟩
theorem Sb.keep (b : Sb Z EL own cls s vm0 h0 H) {ws : List Addr} (K : Keep H H' ws) (hs : ∀ x ∈ ws, Safe Z EL vm0 H x) : Sb Z EL own cls s vm0 h0 H' := by
  obtain ⟨k0, b1, b2, b3, b4, b5⟩ := b
  exact ⟨k0, b1, Nat.le_trans b2 K.1, b3, b4, b5.trans (CHr.keep K hs b5.1)⟩
theorem Sb.called (b : Sb Z EL own cls s vm0 h0 H) {vm1 : Vm} (h2 : (s.setVm vm0).Since vm1 H'.size) (g : H.size ≤ H'.size) (A : CHr Z EL vm0 H vm1 H') : Sb Z EL own cls s vm1 h0 H' := by
  obtain ⟨k0, b1, b2, b3, b4, b5⟩ := b
  exact ⟨H'.size, b1.trans h2 (Nat.le_trans b2 g), Nat.le_refl _, State.Warmed39.trans (t := s.setVm vm0) b3 h2.1, (h2.1.alike.findClass _ _).trans b4, b5.trans A⟩
variable {p : Program} {l : Launch} {e : Env} {R : Room} {m : MethodId} {args : Array Value} {below : List Frame} {meth : Method} {c : Code} {T : State} {locs : List Loc} {cells slots : Nat}
/-- ldc of a String constant of EL, its text read -/
theorem own_ldc (X : Stand p l e R (s.setVm vm0) m args below meth c T locs cells slots) (hx : p.tables.exec = Jvm.exec) (b : Sb Z EL own m.cls s vm0 h0 H) {index : Nat} {text : String} (w : (Cond.stringLink own index text).before a0 Z = true) (wS : ∀ a ∈ Bundle.stringAtoms, a.before a0 Z = true)
    (eT : T.heap = H) (hEL : EW Z a0 EL) (hmem : (own, index) ∈ EL) {vs : List Value} {z : Int32} (ht : (∀ c ∈ text.toList, c.toNat < 256) ∧ text.toList.map (fun c => Value.int (Jvm.Lit.byteI c.toNat.toUInt16)) = vs) (hz : ¬ z < 0) (hl : z.toNatClampNeg = vs.length)
    {g : JFrame} (hg : g.method = m) (hd : decode c.code g.pc = .ok (.ldc index, 2)) {n : Nat} (hn : 4 * text.toList.length ≤ n) (hbig : n ≤ 536870912) (hc : cells + 2 ≤ R.cells) (hl' : slots + (n + 4) ≤ R.slots) :
    ∃ (T' : State) (h' : Heap) (a : Addr) (bb : Addr) (k : ClassId), Stand p l e R (s.setVm T'.vm) m args below meth c T' locs (cells + 2) (slots + (n + 4)) ∧ T'.heap = h' ∧ Ext H h' ∧ Sb Z EL own m.cls s T'.vm h0 h' ∧ CHr Z EL vm0 H T'.vm h' ∧
      Exa Z h' a "java/lang/String" ∧ Fld Z h' a "java/lang/String" "coder" "B" (.int 0) ∧ Fld Z h' a "java/lang/String" "value" "[B" (.ref bb) ∧ Arv Z h' bb k .byte z vs (.int 0) ∧ (∀ x, Safe Z EL T'.vm h' x → x ≠ a ∧ x ≠ bb) ∧
      ∀ target, Steps p.tables e below (T'.setTop { g with pc := g.pc + 2, stack := .ref a :: g.stack }) target → Steps p.tables e below (T.setTop g) target := by
  obtain ⟨k0, b1, b2, b3, b4, b5⟩ := b
  obtain ⟨a, T', h', k1, bb, k, X', e', E, hS, hk, hZ', ho', hA, hC, hV, hB, -, -, A, -, hne, st⟩ := ldcCH X hx b3 b4 w wS eT b1 b2 hEL hmem b5.1 ht hz hl hg hd hn hbig hc hl'
  exact ⟨T', h', a, bb, k, X', e', E, ⟨k1, hS, hk, hZ', ho', b5.trans A⟩, A, hA, hC, hV, hB, hne, st⟩
def FinS (Z : State) (EL : List (String × Nat)) (s : State) (below : List Frame) (ce sl : Nat) (Q : Option Value → Heap → Vm → List Loc → Prop) (u : State) : Prop := u.status = .running ∧ ∃ o, Ended u below o ∧ ∃ v L, o = .returned v ∧ Q v u.heap u.vm L ∧ CHr Z EL s.vm s.heap u.vm u.heap ∧ ReturnedEndW s o u L ce sl
theorem Go.bodyS {tb : Tables} {ce sl : Nat} {Q : Option Value → Heap → Vm → List Loc → Prop} (h : Go tb e below (FinS Z EL s below ce sl Q) T) :
    ∃ s₂ o, Steps tb e below T s₂ ∧ s₂.status = .running ∧ Ended s₂ below o ∧ ∃ v L, o = .returned v ∧ Q v s₂.heap s₂.vm L ∧ CHr Z EL s.vm s.heap s₂.vm s₂.heap ∧ ReturnedEndW s o s₂ L ce sl := by
  obtain ⟨u, ⟨h1, o, h2, h3⟩, h4⟩ := h
  exact ⟨u, o, h4 u (Steps.refl _), h1, h2, h3⟩
theorem Go.outS (X : Stand p l e R (s.setVm vm0) m args below meth c T locs cells slots) (hEL : EW Z a0 EL) (b : Sb Z EL own m.cls s vm0 h0 H) (eT : T.heap = H) (es : s.heap = h0) {v : Option Value} (hv : meth.sig.returnType = none → v = none) (hlocks : meth.locks = false) {g : JFrame} {ce sl : Nat} {Q : Option Value → Heap → Vm → List Loc → Prop}
    (st : ∀ fs : List Frame, (∀ (f : JFrame) (acts : List Action), f.method = m → f.locked = none → f.entered = [] → (doReturn e (T.setTop f) acts v).1 = T.setFrames fs) → Steps p.tables e below (T.setTop g) (T.setFrames fs))
    (hc : cells ≤ ce) (hs : slots ≤ sl) (q : Q v T.heap T.vm locs) : Go p.tables e below (FinS Z EL s below ce sl Q) (T.setTop g) := by
  obtain ⟨k0, b1, b2, b3, b4, b5⟩ := b
  subst eT es
  have A := b5.trans (CHv.at X b3 hEL b5.1)
  obtain ⟨fs, hr, hrun, hended, h1, h2, h3, h4⟩ := X.leaveW b1 b2 hv hlocks
  exact ⟨T.setFrames fs, ⟨hrun, _, hended, v, locs, rfl, q, A, h1, h2, h3, h4.mono hc hs⟩, fun t k => (st fs hr).trans k⟩
theorem Go.retIS (X : Stand p l e R (s.setVm vm0) m args below meth c T locs cells slots) (hx : p.tables.exec = Jvm.exec) (hEL : EW Z a0 EL) (b : Sb Z EL own m.cls s vm0 h0 H) (eT : T.heap = H) (es : s.heap = h0) {pc : Nat} {Ls : Array Slot} {z : Int32} {rest : List Value} {t : FieldType} (hret : meth.sig.returnType = some t) (hlocks : meth.locks = false)
    (ht : t = .int ∨ t = .boolean ∨ t = .byte ∨ t = .char ∨ t = .short) (hn : narrow t (.int z) = .int z) (hd : decode c.code pc = .ok (.ireturn, 1)) {ce sl : Nat} {Q : Option Value → Heap → Vm → List Loc → Prop} (hc : cells ≤ ce) (hs : slots ≤ sl) (q : Q (some (.int z)) T.heap T.vm locs) :
    Go p.tables e below (FinS Z EL s below ce sl Q) (T.setTop (mkF m pc Ls (.int z :: rest))) :=
  Go.outS X hEL b eT es (fun h => by rw [hret] at h; cases h) hlocks (fun _ hl => retOut X hx hret hn (Or.inl ⟨rfl, ht, z, rfl⟩) hd hl) hc hs q
theorem Go.retAS (X : Stand p l e R (s.setVm vm0) m args below meth c T locs cells slots) (hx : p.tables.exec = Jvm.exec) (hEL : EW Z a0 EL) (b : Sb Z EL own m.cls s vm0 h0 H) (eT : T.heap = H) (es : s.heap = h0) {pc : Nat} {Ls : Array Slot} {w : Value} {rest : List Value} {t : FieldType} (hret : meth.sig.returnType = some t) (hlocks : meth.locks = false)
    (ht : t.isReference = true) (hw : w.isRef = true) (hd : decode c.code pc = .ok (.areturn, 1)) {ce sl : Nat} {Q : Option Value → Heap → Vm → List Loc → Prop} (hc : cells ≤ ce) (hs : slots ≤ sl) (q : Q (some w) T.heap T.vm locs) :
    Go p.tables e below (FinS Z EL s below ce sl Q) (T.setTop (mkF m pc Ls (w :: rest))) :=
  Go.outS X hEL b eT es (fun h => by rw [hret] at h; cases h) hlocks (fun _ hl => retOut X hx hret (by cases t <;> first | (cases ht; done) | (rcases ref_cases hw with rfl | ⟨z, rfl⟩ <;> rfl)) (Or.inr (Or.inr (Or.inr (Or.inr ⟨rfl, ht, hw⟩)))) hd hl) hc hs q
theorem Go.retVS (X : Stand p l e R (s.setVm vm0) m args below meth c T locs cells slots) (hx : p.tables.exec = Jvm.exec) (hEL : EW Z a0 EL) (b : Sb Z EL own m.cls s vm0 h0 H) (eT : T.heap = H) (es : s.heap = h0) {pc : Nat} {Ls : Array Slot} (hret : meth.sig.returnType = none) (hlocks : meth.locks = false)
    (hd : decode c.code pc = .ok (.return_, 1)) {ce sl : Nat} {Q : Option Value → Heap → Vm → List Loc → Prop} (hc : cells ≤ ce) (hs : slots ≤ sl) (q : Q none T.heap T.vm locs) :
    Go p.tables e below (FinS Z EL s below ce sl Q) (T.setTop (mkF m pc Ls [])) :=
  Go.outS X hEL b eT es (fun _ => rfl) hlocks (fun _ hl => X.returnOut hx hret hd hl) hc hs q
/-- a callee that may load constants, by its contract; sf: objects that no constant's cell is -/
theorem own_backS {y : MethodName} {bytes : ByteArray} {maxL : Nat} {ret : Option FieldType} {rm : Room} {len W : Nat} {as' : Array Value} {Q : Option Value → Heap → Vm → List Loc → Prop} {sf : List Addr}
    (hM : MetFree l y (head1 [Cond.code y bytes maxL ret] rm) (fun a U => a = as' ∧ Z.Warmed39 U.vm ∧ U.heap = H ∧ CHv Z EL U.vm H ∧ ∀ x ∈ sf, Safe Z EL U.vm H x) (fun _ _ _ _ _ => True) (fun _ U o U' => ∃ v L, o = .returned v ∧ Q v U'.heap U'.vm L ∧ CHr Z EL U.vm U.heap U'.vm U'.heap ∧ ReturnedEndW U o U' L rm.cells rm.slots))
    (b : Sb Z EL own cls s vm0 h0 H) (wc : (Cond.code y bytes maxL ret).before a0 Z = true) (wz : (Cond.initialized y.cls).before a0 Z = true) (hf : rm.frames + 1 ≤ R.frames) (hl : W + (maxL + 11) + rm.locals ≤ R.locals) (hEL : EW Z a0 EL) (hsf : ∀ x ∈ sf, x < H.size ∧ Safe Z EL vm0 H x) :
    BackS l R p e below (s.setVm vm0) args y len W (fun A a => a = as' ∧ A.U.heap = H ∧ A.cells + rm.cells ≤ R.cells ∧ A.slots + rm.slots ≤ R.slots)
      (fun A _ v B => ∃ L, Q v B.U.heap B.U.vm L ∧ B.locs = A.locs ++ L ∧ B.cells = A.cells + rm.cells ∧ B.slots = A.slots + rm.slots ∧ CHr Z EL vm0 H B.U.vm B.U.heap) := by
  have hZ := b.hZ
  have hC := b.ch
  exact BackS.of_freeW (bytes := bytes) (maxL := maxL) (ret := ret) (E := fun _ first o t L k n => k = rm.cells ∧ n = rm.slots ∧ (∃ v, o = .returned v ∧ Q v t.heap t.vm L) ∧ CHr Z EL first.vm first.heap t.vm t.heap) hM hf hl
    (fun m meth c A a Y hp => by
      have hU : Z.Warmed39 A.U.vm := wtrans (s := s.setVm vm0) hZ Y.warmed
      refine ⟨?_, mv hU wc, mv hU wz, hp.2.2.1, hp.2.2.2⟩
      show (Cond.and _ .tt).before a A.U = true
      rw [Cond.before_and, mv hU wc]; rfl)
    (fun m meth c A a g mk Y hp => by
      have q := CHv.at Y hZ hEL hC
      exact ⟨hp.1, wtrans (s := s.setVm vm0) hZ Y.warmed, hp.2.1, q.1, fun x hx => q.safe (hsf x hx).1 (hsf x hx).2⟩)
    (fun _ _ _ _ _ _ _ _ _ => trivial)
    (fun _ _ _ _ h => by obtain ⟨v, L, h1, h2, h3, h4⟩ := h; exact ⟨L, _, _, h4, rfl, rfl, ⟨v, h1, h2⟩, h3⟩)
    (fun m meth c A a g mk v t L k n Y hp _ _ h => by
      obtain ⟨e1, e2, ⟨v', e3, e4⟩, e5⟩ := h
      cases e3; subst e1 e2
      refine ⟨L, e4, rfl, rfl, rfl, (CHv.at Y hZ hEL hC).trans ?_⟩
      rw [← hp.2.1]; exact e5)
theorem own_reb {vm1 : Vm} (X : Stand p l e R ((s.setVm vm0).setVm vm1) m args below meth c T locs cells slots) : Stand p l e R (s.setVm vm1) m args below meth c T locs cells slots := X
end OwnS
theorem own_EW {Z : State} {a0 : Array Value} (hw : ∀ d ∈ tables_1, d.before a0 Z = true) : EW Z a0 consts_1 := (EW.cons (hw _ (List.mem_of_getElem? (i := 87) rfl)) (by decide +kernel) (EW.cons (hw _ (List.mem_of_getElem? (i := 118) rfl)) (by decide +kernel) (EW.cons (hw _ (List.mem_of_getElem? (i := 14) rfl)) (by decide +kernel) (EW.cons (hw _ (List.mem_of_getElem? (i := 167) rfl)) (by decide +kernel) EW.nil))))
theorem own_SA {Z : State} {a0 : Array Value} (hw : ∀ d ∈ tables_1, d.before a0 Z = true) : ∀ d ∈ Bundle.stringAtoms, d.before a0 Z = true := fun d hd => by
  simp only [Bundle.stringAtoms, List.mem_cons, List.not_mem_nil, or_false] at hd
  rcases hd with rfl | rfl | rfl | rfl | rfl | rfl | rfl
  · exact (hw _ (List.mem_of_getElem? (i := 3) rfl))
  · exact (hw _ (List.mem_of_getElem? (i := 2) rfl))
  · exact (hw _ (List.mem_of_getElem? (i := 15) rfl))
  · exact (hw _ (List.mem_of_getElem? (i := 16) rfl))
  · exact (hw _ (List.mem_of_getElem? (i := 17) rfl))
  · exact (hw _ (List.mem_of_getElem? (i := 18) rfl))
  · exact (hw _ (List.mem_of_getElem? (i := 19) rfl))
section OwnCopy
variable {p : Program} {l : Launch} {e : Env} {R : Room} {s Z : State} {m : MethodId} {args a0 : Array Value} {below : List Frame} {meth : Method} {c : Code} {T : State} {locs : List Loc} {cells slots : Nat}
/-- System.arraycopy between arrays of one primitive type -/
theorem own_acopy (X : Stand p l e R s m args below meth c T locs cells slots) (hx : p.tables.exec = Jvm.exec) (hZ : Z.Warmed39 s.vm) {own : String} {index : Nat} (hown : s.vm.findClass own = some m.cls) (hw : ∀ w ∈ Jvm.Free.XT.acW own index, w.before args s = true) {H : Heap} (eT : T.heap = H)
    {ty : FieldType} (hp : ty.isReference = false) {a b : Addr} {ka kb : ClassId} {na nb : Int32} {va vb vs' : List Value} {d : Value} (A : Arv Z H a ka ty na va d) (B : Arv Z H b kb ty nb vb d) {o q n Na Nb : Nat} (hNa : na.toNatClampNeg = Na) (hNb : nb.toNatClampNeg = Nb)
    {jo jq jn : Int32} (ho : jo = Int32.ofNat o) (hq : jq = Int32.ofNat q) (hn : jn = Int32.ofNat n) (h4 : o + n ≤ Na) (h5 : q + n ≤ Nb) (hv : (List.range Nb).map (fun j => vs'.getD j d) = (List.range Nb).map (fun j => if q ≤ j ∧ j < q + n then va.getD (o + (j - q)) d else vb.getD j d))
    {g : JFrame} (hg : g.method = m) (hsize : g.locals.size = c.maxLocals) {rest : List Value} (hstack : g.stack = .int jn :: .int jq :: .ref b :: .int jo :: .ref a :: rest) (hdg : decode c.code g.pc = .ok (.invokestatic index, 3))
    {W : Nat} (hW : 2 * g.monitorRoom + (rest.map fun v => v.category).sum ≤ W) (hfr : 1 ≤ R.frames) (hlo : W + 40 ≤ R.locals) :
    ∃ (T' : State) (h' : Heap) (L : List Loc), Stand p l e R s m args below meth c T' (locs ++ L) cells slots ∧ T'.heap = h' ∧ Keep H h' [b] ∧ Arv Z h' b kb ty nb vs' d ∧ (∀ y ∈ L, y.base = b) ∧
      ∀ target, Steps p.tables e below (T'.setTop { g with pc := g.pc + 3, stack := rest }) target → Steps p.tables e below (T.setTop g) target := by
  obtain ⟨cA, A1, A2, A3, A4, A5, A6⟩ := A
  obtain ⟨cB, B1, B2, B3, B4, B5, B6⟩ := B
  subst eT
  have sa : na.toNatClampNeg < 2 ^ 31 := by have := Int32.toInt_lt na; simp only [Int32.toNatClampNeg]; omega
  have sb : nb.toNatClampNeg < 2 ^ 31 := by have := Int32.toInt_lt nb; simp only [Int32.toNatClampNeg]; omega
  have al := hZ.alike.trans X.warmed.alike
  have hA : Jvm.Free.XT.Arr ty a cA T := ⟨A1.1, State.isArrayOf_alike al A1.2.1, A1.2.2, by rw [A3]; exact sa⟩
  have hB : Jvm.Free.XT.Arr ty b cB T := ⟨B1.1, State.isArrayOf_alike al B1.2.1, B1.2.2, by rw [B3]; exact sb⟩
  have ga : ∀ i, i < cA.slots.size → cA.slots.getD i .null = va.getD i d := fun i hi => by rw [Array.getD_eq_getD_getElem?, A5 i hi]; rfl
  obtain ⟨T', B', X', P, q1, q2, q3, q4, st⟩ := X.acopy hx hown hw hA hB (by cases ty <;> first | rfl | cases hp) ho hq hn (by rw [A3, hNa]; exact h4) (by rw [B3, hNb]; exact h5)
    (fun i hi => ⟨by rw [ga _ (by rw [A3, hNa]; omega)]; exact A6 _ (by rw [A3, hNa]; omega), fun h => by rw [hp] at h; cases h⟩) hg hsize hstack hdg hW hfr hlo
  have hv' : ∀ j, j < Nb → vs'.getD j d = if q ≤ j ∧ j < q + n then va.getD (o + (j - q)) d else vb.getD j d := fun j hj => by
    have z := congrArg (fun L => L[j]?) hv
    simpa [hj] using z
  have sz : B'.slots.size = Nb := by rw [q3, B3, hNb]
  refine ⟨T', _, _, X', rfl, ⟨Nat.le_of_eq P.2.2.symm, fun x cx hx hn => ?_, fun x cx hx => ?_⟩, ⟨B', ⟨P.1, ?_, by rw [q2]; exact B1.2.2⟩, q1.trans B2, by rw [q3]; exact B3, B4, fun j hj => ?_, fun j hj => ?_⟩, fun y hy => copyLocs_base hy, st⟩
  · rw [P.2.1 x (fun z => hn (by simp [z]))]; exact hx
  · by_cases z : x = b
    · subst z; cases B1.1.symm.trans hx; exact ⟨B', P.1, q1, q2, q3⟩
    · exact ⟨cx, (P.2.1 x z).trans hx, rfl, rfl, rfl⟩
  · obtain ⟨r1, k, r2, r3⟩ := B1.2.1
    exact ⟨by rw [q2]; exact r1, k, by rw [q1]; exact r2, r3⟩
  · rw [sz] at hj
    rw [q4 j, hv' j hj]
    split
    · rw [ga _ (by rw [A3, hNa]; omega)]
    · exact B5 j (by rw [B3, hNb]; exact hj)
  · rw [sz] at hj
    rw [hv' j hj]
    split
    · exact A6 _ (by rw [A3, hNa]; omega)
    · exact B6 j (by rw [B3, hNb]; exact hj)
theorem own_acw {own : String} {index : Nat} (h1 : (Cond.methodLink own index acN).before args s = true) (h2 : (Cond.native acN).before args s = true) (h3 : (Cond.static acN).before args s = true) (h4 : (Cond.initialized "java/lang/System").before args s = true) : ∀ w ∈ Jvm.Free.XT.acW own index, w.before args s = true := fun w hw => by
  simp only [Jvm.Free.XT.acW, List.mem_cons, List.not_mem_nil, or_false] at hw
  rcases hw with rfl | rfl | rfl | rfl
  · exact h1
  · exact h2
  · exact h3
  · exact h4
theorem own_nf {C : String} {y z : MethodName} (hsel : (Cond.selects C z z).before args s = true) (h : y.cls = z.cls) : NotFace s y := fun r0 h0 => by
  obtain ⟨c2, r2, m2, q1, q2, q3, q4, -⟩ := Cond.selects_spec hsel
  obtain ⟨kP, hk, hi⟩ := notFace_of_selects hsel _ q3
  have a := findClass_of_methodNamed h0
  have b := findClass_of_methodNamed q3
  rw [h] at a
  exact ⟨kP, by rw [Option.some.inj (a.symm.trans b)]; exact hk, hi⟩
theorem own_same {y : MethodName} (hdecl : (Cond.declares y).before args s = true) (nf : NotFace s y) (hy : y.cls ≠ "java/lang/invoke/MethodHandle" ∧ y.cls ≠ "java/lang/invoke/VarHandle") : (Cond.sameMethod y.cls y.cls y.name y.desc).before args s = true := by
  obtain ⟨r0, r, hn, hrm, hstR, hsigR⟩ := Cond.declares_spec hdecl
  obtain ⟨k, hk, hi⟩ := nf r0 hn
  have hc := findClass_of_methodNamed hn
  have hf := State.methodFound?_of_named hn hy
  cases y
  simp [Cond.before, Cond.holds, Cond.value, hc, hf, hn, hk, hi]
theorem own_selP {C : String} {y : MethodName} (hsel : (Cond.selects C y y).before args s = true) (hpriv : s.PrivateAt y) (hinst : (Cond.instanceMethod y).before args s = true) (hy : y.cls ≠ "java/lang/invoke/MethodHandle" ∧ y.cls ≠ "java/lang/invoke/VarHandle") : (Cond.selects y.cls y y).before args s = true := by
  obtain ⟨c2, r2, m2, q1, q2, q3, q4, kP, hkP, hkPi⟩ := Cond.selects_spec hsel
  exact selects_self_of_private (findClass_of_methodNamed q3) hkP hkPi hpriv hinst hy
end OwnCopy
theorem own_shl0 (x : Int32) : (x <<< ((0 : Int32) &&& 31)) = x := by
  rw [show ((0 : Int32) &&& 31) = 0 from by decide]; simp
theorem own_shr0 (x : Int32) : (x >>> ((0 : Int32) &&& 31)) = x := by
  rw [show ((0 : Int32) &&& 31) = 0 from by decide]; simp
theorem own_sub0 (x : Int32) : (x - (0 : Int32)) = x := by simp
def cpl (va vb : List Value) (jo jq jn nb : Int32) : List Value := (List.range nb.toNatClampNeg).map fun j => if jq.toNatClampNeg ≤ j ∧ j < jq.toNatClampNeg + jn.toNatClampNeg then va.getD (jo.toNatClampNeg + (j - jq.toNatClampNeg)) (.int 0) else vb.getD j (.int 0)
theorem own_nat {j : Int32} (h : ¬ j < 0) : j = Int32.ofNat j.toNatClampNeg := (back32 h).1.symm
section OwnCopyG
variable {p : Program} {l : Launch} {e : Env} {R : Room} {s Z : State} {m : MethodId} {args a0 : Array Value} {below : List Frame} {meth : Method} {c : Code} {T : State} {locs : List Loc} {cells slots : Nat}
theorem own_acopyG (X : Stand p l e R s m args below meth c T locs cells slots) (hx : p.tables.exec = Jvm.exec) (hZ : Z.Warmed39 s.vm) {own : String} {index : Nat} (hown : s.vm.findClass own = some m.cls) (hw : ∀ w ∈ Jvm.Free.XT.acW own index, w.before args s = true) {H : Heap} (eT : T.heap = H)
    {ty : FieldType} (hp : ty.isReference = false) {a b : Addr} {ka kb : ClassId} {na nb : Int32} {va vb : List Value} (A : Arv Z H a ka ty na va (.int 0)) (B : Arv Z H b kb ty nb vb (.int 0))
    {jo jq jn : Int32} (ho : ¬ jo < 0) (hq : ¬ jq < 0) (hn : ¬ jn < 0) (h4 : jo.toInt + jn.toInt ≤ na.toInt) (h5 : jq.toInt + jn.toInt ≤ nb.toInt)
    {g : JFrame} (hg : g.method = m) (hsize : g.locals.size = c.maxLocals) {rest : List Value} (hstack : g.stack = .int jn :: .int jq :: .ref b :: .int jo :: .ref a :: rest) (hdg : decode c.code g.pc = .ok (.invokestatic index, 3))
    {W : Nat} (hW : 2 * g.monitorRoom + (rest.map fun v => v.category).sum ≤ W) (hfr : 1 ≤ R.frames) (hlo : W + 40 ≤ R.locals) :
    ∃ (T' : State) (h' : Heap) (L : List Loc) (vs' : List Value), Stand p l e R s m args below meth c T' (locs ++ L) cells slots ∧ T'.heap = h' ∧ Keep H h' [b] ∧ Arv Z h' b kb ty nb vs' (.int 0) ∧ vs' = cpl va vb jo jq jn nb ∧ (∀ y ∈ L, y.base = b) ∧
      ∀ target, Steps p.tables e below (T'.setTop { g with pc := g.pc + 3, stack := rest }) target → Steps p.tables e below (T.setTop g) target := by
  have z0 : (0 : Int32).toInt = 0 := rfl
  have zo := ho; have zq := hq; have zn := hn
  rw [Int32.lt_iff_toInt_lt, z0] at zo zq zn
  have i1 : jo.toNatClampNeg = jo.toInt.toNat := rfl
  have i2 : jq.toNatClampNeg = jq.toInt.toNat := rfl
  have i3 : jn.toNatClampNeg = jn.toInt.toNat := rfl
  have i4 : na.toNatClampNeg = na.toInt.toNat := rfl
  have i5 : nb.toNatClampNeg = nb.toInt.toNat := rfl
  obtain ⟨T', h', L, X', e', K, V, By, st⟩ := own_acopy X hx hZ hown hw eT hp A B (vs' := cpl va vb jo jq jn nb) rfl rfl (own_nat ho) (own_nat hq) (own_nat hn) (by omega) (by omega)
    (List.map_congr_left fun j hj => by simp [cpl, List.getD, List.mem_range.mp hj]) hg hsize hstack hdg hW hfr hlo
  exact ⟨T', h', L, _, X', e', K, V, rfl, By, st⟩
end OwnCopyG
def Rm (nn mm : Int32) : Prop := ¬ nn < (0 : Int32) ∧ ¬ mm < (0 : Int32) ∧ nn.toInt + mm.toInt ≤ 15 ∧ ¬ ((0 : Int32) < ((nn + mm) - (16 : Int32)))
def QL (za zb : Int32) (v1 v2 : List Value) : List Value := cpl (cpl v2 (cpl [.int 46] (cpl v1 [] 0 0 za 16) 0 ((0 : Int32) + za) 1 16) 0 (((0 : Int32) + za) + (1 : Int32)) zb 16) [] 0 0 ((((0 : Int32) + za) + (1 : Int32)) + zb) ((((0 : Int32) + za) + (1 : Int32)) + zb)
def Z2 (z : Int32) : Prop := z = (0 : Int32) ∨ z = (1 : Int32) ∨ z = (2 : Int32)
theorem own_rm1 {z : Int32} (h : Z2 z) : Rm (0 : Int32) z := by rcases h with rfl | rfl | rfl <;> (unfold Rm; decide)
theorem own_rm2 {z : Int32} (h : Z2 z) : Rm ((0 : Int32) + z) (1 : Int32) := by rcases h with rfl | rfl | rfl <;> (unfold Rm; decide)
theorem own_rm3 {z w : Int32} (h : Z2 z) (g : Z2 w) : Rm (((0 : Int32) + z) + (1 : Int32)) w := by rcases h with rfl | rfl | rfl <;> rcases g with rfl | rfl | rfl <;> (unfold Rm; decide)
theorem own_cc {z w : Int32} (h : Z2 z) (g : Z2 w) : ¬ ((((0 : Int32) + z) + (1 : Int32)) + w) < (0 : Int32) ∧ ((((0 : Int32) + z) + (1 : Int32)) + w) < (16 : Int32) ∧ ¬ ((((0 : Int32) + z) + (1 : Int32)) + w) = (16 : Int32) := by rcases h with rfl | rfl | rfl <;> rcases g with rfl | rfl | rfl <;> decide
example (x y z : Int32) : QL 1 2 [.int x] [.int y, .int z] = [.int x, .int 46, .int y, .int z] := rfl
theorem d16_0 : decode jdk_116_method_1_code 0 = .ok (.iload_n 1, 1) := by decide +kernel
theorem d16_1 : decode jdk_116_method_1_code 1 = .ok (.i2c, 1) := by decide +kernel
theorem d16_2 : decode jdk_116_method_1_code 2 = .ok (.istore_n 2, 1) := by decide +kernel
theorem d16_3 : decode jdk_116_method_1_code 3 = .ok (.getstatic 1, 3) := by decide +kernel
theorem d16_6 : decode jdk_116_method_1_code 6 = .ok (.iload_n 2, 1) := by decide +kernel
theorem d16_7 : decode jdk_116_method_1_code 7 = .ok (.iaload, 1) := by decide +kernel
theorem d16_8 : decode jdk_116_method_1_code 8 = .ok (.istore_n 3, 1) := by decide +kernel
theorem d16_9 : decode jdk_116_method_1_code 9 = .ok (.iload_n 3, 1) := by decide +kernel
theorem d16_10 : decode jdk_116_method_1_code 10 = .ok (.ireturn, 1) := by decide +kernel
theorem pn_16 : plainName "java/lang/CharacterDataLatin1" = true := by first | (simp [plainName, overriddenIn]; done) | decide +kernel
theorem ef_rmGP (m : MethodId) {wI : Addr} {iy : Int32} : entryFrame m #[(.ref wI), (.int iy)] 4 = mkF m 0 #[vr wI, vi iy, .unset, .unset] [] := by first | (simp [entryFrame, mkF, argsToLocals, Value.category]; done) | rfl
abbrev own_y0 : MethodName := ⟨"java/lang/CharacterDataLatin1", "getProperties", "(I)I"⟩
def QrmGP (Z : State) (vcs : Int32) (wI : Addr) (wA : Addr) (cA : Cell) (iy : Int32) (h0 : Heap) (n0 : Nat) (v : Option Value) (h : Heap) (L : List Loc) : Prop := (v = some (.int (tv iy))) ∧ (L = []) ∧ (h = h0)
theorem rmGP (l : Launch) (Z : State) (a0 : Array Value) (hw : ∀ d ∈ tables_1, d.before a0 Z = true) (ws : List Jvm.Cond) (vcs : Int32) (wI : Addr) (wA : Addr) (cA : Cell) (G : Gh Z vcs wI wA cA) (iy : Int32) (h0 : Heap) (n0 : Nat) (O0 : Old Z n0 h0) (hlo : ¬ (iy < (0 : Int32))) (hhi : ¬ ((255 : Int32) < iy)) :
    MetFree l own_y0 (head1 (Jvm.Cond.code own_y0 jdk_116_method_1_code 4 (some .int) :: ws) ({ frames := 0, cells := 0, slots := 0, locals := 0 } : Room)) (fun aa' UU' => aa' = #[(.ref wI), (.int iy)] ∧ Z.Warmed39 UU'.vm ∧ UU'.heap = h0) (fun _ _ _ _ _ => True) (fun _ UU' oo' VV' => ∃ v' L', oo' = .returned v' ∧ QrmGP Z vcs wI wA cA iy h0 n0 v' VV'.heap L' ∧ FrameEnd UU' oo' VV' L' ({ frames := 0, cells := 0, slots := 0, locals := 0 } : Room).cells ({ frames := 0, cells := 0, slots := 0, locals := 0 } : Room).slots) := by
  refine MetFree.of_bodySF (plainFor_of_name pn_16) hisR ?_
  intro p e s m args below meth c s₁ Bd hml0 hP hK
  obtain ⟨rfl, hZ, hh⟩ := hP
  have hml : c.maxLocals = 4 := hml0
  obtain ⟨hx, hby, hlk, hown, hnm, hret, X0, e0⟩ := own_hd Bd hh
  have N0 := Fr.nil n0
  refine Go.body ?_
  obtain ⟨Pf, hPf⟩ : ∃ P, P = Fin' s below ({ frames := 0, cells := 0, slots := 0, locals := 0 } : Room).cells ({ frames := 0, cells := 0, slots := 0, locals := 0 } : Room).slots (QrmGP Z vcs wI wA cA iy h0 n0) := ⟨_, rfl⟩
  rw [← hPf]
  refine Go.cast (ef_rmGP m) ?_
  have hw78 := own_w hw 78 rfl
  show Go p.tables e below Pf (s₁.setTop (mkF m 0 #[vr wI, vi iy, .unset, .unset] []))
  refine Go.by' (fun t k => (XS.iloadN X0.here hx rfl (hb hby d16_0) rfl (XS.i2c X0.here hx rfl (hb hby d16_1) rfl k))) ?_
  show Go p.tables e below Pf (s₁.setTop (mkF m 2 #[vr wI, vi iy, .unset, .unset] [(.int (iy.toUInt32.toUInt16.toUInt32.toInt32))]))
  refine Go.castF (a := (iy.toUInt32.toUInt16.toUInt32.toInt32)) (b := iy) (fun z' : Int32 => mkF m 2 #[vr wI, vi iy, .unset, .unset] [(.int z')]) (own_i2c hlo hhi) ?_
  show Go p.tables e below Pf (s₁.setTop (mkF m 2 #[vr wI, vi iy, .unset, .unset] [(.int iy)]))
  refine Go.by' (fun t k => (XS.istoreN X0.here hx rfl (hb hby d16_2) rfl (l' := #[vr wI, vi iy, vi iy, .unset]) rfl k)) ?_
  obtain ⟨T1, X1, e1, st1⟩ := getS2 X0 hx hZ hown (host := "") (Or.inl hw78) Via.refl e0 (G.2.2.2.2.1.ext O0.2) (g := (mkF m 3 #[vr wI, vi iy, vi iy, .unset] [])) rfl (hb hby d16_3)
  refine Go.by' st1 ?_
  show Go p.tables e below Pf (T1.setTop (mkF m 6 #[vr wI, vi iy, vi iy, .unset] [(.ref wA)]))
  refine Go.by' (fun t k => (XS.iloadN X1.here hx rfl (hb hby d16_6) rfl k)) ?_
  have hin2 : ¬ (iy < 0 ∨ cA.slots.size ≤ iy.toNatClampNeg) := inb_of (z := 256) G.2.2.2.2.2.2.1 (own_tvr hlo hhi)
  have at2 : cA.slots[iy.toNatClampNeg]? = some (.int (tv iy)) := G.2.2.2.2.2.2.2 _ (by have := hin2; rw [G.2.2.2.2.2.2.1] at this; exact Nat.lt_of_not_le fun z => this (Or.inr z))
  show Go p.tables e below Pf (T1.setTop (mkF m 7 #[vr wI, vi iy, vi iy, .unset] [(.int iy), (.ref wA)]))
  refine Go.by' (fun t k => (X1.iaload hx (j := iy) (v := (.int (tv iy))) (by rw [e1]; exact (G.2.2.2.2.2.1.ext O0.2).1) (State.isArrayOf_alike hZ.alike G.2.2.2.2.2.1.2.1) G.2.2.2.2.2.1.2.2 hin2 at2 (g := (mkF m 7 #[vr wI, vi iy, vi iy, .unset] [(.int iy), (.ref wA)])) rfl rfl (hb hby d16_7) t (XS.istoreN X1.here hx rfl (hb hby d16_8) rfl (l' := #[vr wI, vi iy, vi iy, vi (tv iy)]) rfl (XS.iloadN X1.here hx rfl (hb hby d16_9) rfl k)))) ?_
  show Go p.tables e below Pf (T1.setTop (mkF m 10 #[vr wI, vi iy, vi iy, vi (tv iy)] [(.int (tv iy))]))
  rw [hPf]
  exact Go.retI' X1 hx hret hlk (by simp) rfl (hb hby d16_10) (by decide) (by decide) ⟨rfl, rfl, e1⟩
theorem d15_0 : decode jdk_116_method_26_code 0 = .ok (.aload_n 0, 1) := by decide +kernel
theorem d15_1 : decode jdk_116_method_26_code 1 = .ok (.iload_n 1, 1) := by decide +kernel
theorem d15_2 : decode jdk_116_method_26_code 2 = .ok (.invokevirtual 15, 3) := by decide +kernel
theorem pd_0 : parseMethodDescriptor "(I)I" = some ⟨[.int], some .int⟩ := by decide +kernel
theorem d15_5 : decode jdk_116_method_26_code 5 = .ok (.istore_n 2, 1) := by decide +kernel
theorem d15_6 : decode jdk_116_method_26_code 6 = .ok (.iload_n 2, 1) := by decide +kernel
theorem d15_7 : decode jdk_116_method_26_code 7 = .ok (.sipush 28672, 3) := by decide +kernel
theorem d15_10 : decode jdk_116_method_26_code 10 = .ok (.iand, 1) := by decide +kernel
theorem d15_11 : decode jdk_116_method_26_code 11 = .ok (.sipush 16384, 3) := by decide +kernel
theorem d15_14 : decode jdk_116_method_26_code 14 = .ok (.if_icmp .ne 7, 3) := by decide +kernel
theorem d15_17 : decode jdk_116_method_26_code 17 = .ok (.iconst 1, 1) := by decide +kernel
theorem d15_18 : decode jdk_116_method_26_code 18 = .ok (.goto 4, 3) := by decide +kernel
theorem d15_21 : decode jdk_116_method_26_code 21 = .ok (.iconst 0, 1) := by decide +kernel
theorem d15_22 : decode jdk_116_method_26_code 22 = .ok (.ireturn, 1) := by decide +kernel
theorem pn_15 : plainName "java/lang/CharacterDataLatin1" = true := by first | (simp [plainName, overriddenIn]; done) | decide +kernel
theorem ef_rmIW (m : MethodId) {wI : Addr} {iy : Int32} : entryFrame m #[(.ref wI), (.int iy)] 3 = mkF m 0 #[vr wI, vi iy, .unset] [] := by first | (simp [entryFrame, mkF, argsToLocals, Value.category]; done) | rfl
abbrev own_y1 : MethodName := ⟨"java/lang/CharacterDataLatin1", "isWhitespace", "(I)Z"⟩
def QrmIW (Z : State) (vcs : Int32) (wI : Addr) (wA : Addr) (cA : Cell) (iy : Int32) (h0 : Heap) (n0 : Nat) (v : Option Value) (h : Heap) (L : List Loc) : Prop := ∃ (r : Int32), (v = some (.int r)) ∧ (L = []) ∧ (h = h0) ∧ ((Ws iy ∧ r = (1 : Int32)) ∨ (¬ Ws iy ∧ r = (0 : Int32)))
theorem rmIW (l : Launch) (Z : State) (a0 : Array Value) (hw : ∀ d ∈ tables_1, d.before a0 Z = true) (ws : List Jvm.Cond) (vcs : Int32) (wI : Addr) (wA : Addr) (cA : Cell) (G : Gh Z vcs wI wA cA) (iy : Int32) (h0 : Heap) (n0 : Nat) (O0 : Old Z n0 h0) (hlo : ¬ (iy < (0 : Int32))) (hhi : ¬ ((255 : Int32) < iy)) :
    MetFree l own_y1 (head1 (Jvm.Cond.code own_y1 jdk_116_method_26_code 3 (some .boolean) :: ws) ({ frames := 1, cells := 0, slots := 0, locals := 15 } : Room)) (fun aa' UU' => aa' = #[(.ref wI), (.int iy)] ∧ Z.Warmed39 UU'.vm ∧ UU'.heap = h0) (fun _ _ _ _ _ => True) (fun _ UU' oo' VV' => ∃ v' L', oo' = .returned v' ∧ QrmIW Z vcs wI wA cA iy h0 n0 v' VV'.heap L' ∧ FrameEnd UU' oo' VV' L' ({ frames := 1, cells := 0, slots := 0, locals := 15 } : Room).cells ({ frames := 1, cells := 0, slots := 0, locals := 15 } : Room).slots) := by
  refine MetFree.of_bodySF (plainFor_of_name pn_15) hisR ?_
  intro p e s m args below meth c s₁ Bd hml0 hP hK
  obtain ⟨rfl, hZ, hh⟩ := hP
  have hml : c.maxLocals = 3 := hml0
  obtain ⟨hx, hby, hlk, hown, hnm, hret, X0, e0⟩ := own_hd Bd hh
  have N0 := Fr.nil n0
  refine Go.body ?_
  obtain ⟨Pf, hPf⟩ : ∃ P, P = Fin' s below ({ frames := 1, cells := 0, slots := 0, locals := 15 } : Room).cells ({ frames := 1, cells := 0, slots := 0, locals := 15 } : Room).slots (QrmIW Z vcs wI wA cA iy h0 n0) := ⟨_, rfl⟩
  rw [← hPf]
  refine Go.cast (ef_rmIW m) ?_
  have hw67 := own_w hw 67 rfl
  have hw73 := own_w hw 73 rfl
  have hw74 := own_w hw 74 rfl
  have hw75 := own_w hw 75 rfl
  have hw76 := own_w hw 76 rfl
  have hw77 := own_w hw 77 rfl
  show Go p.tables e below Pf (s₁.setTop (mkF m 0 #[vr wI, vi iy, .unset] []))
  refine Go.by' (fun t k => (XS.aloadN X0.here hx rfl (hb hby d15_0) rfl rfl (XS.iloadN X0.here hx rfl (hb hby d15_1) rfl k))) ?_
  obtain ⟨cq3, kq3, q3a, q3b, q3c⟩ := isOf hZ e0 (G.2.2.2.1.ext O0.2)
  obtain ⟨_, _, ⟨T3, L3, k3, n3⟩, -, X3, ⟨Lc3, hQ3, l3, y3, z3⟩, st3⟩ := X0.virtualBack hx (y := own_y0) (z := own_y0) hown (mvT hZ hw73) (mvT hZ hw74) (notFace_of_selects (args := #[]) (mvT hZ hw76)) (mvT hZ hw76) (mvT hZ hw75) (by decide) (backOf (W := 0) (rmGP l Z a0 hw [] vcs wI wA cA G iy h0 n0 O0 hlo hhi) hZ hw77 hw67 (by decide) (by decide)) q3a q3c (g := (mkF m 2 #[vr wI, vi iy, .unset] [(.int iy), (.ref wI)])) rfl (by rw [hml]; rfl) (Steps.refl _) (argsL := [(.int iy)]) (rest := []) (lenOf pd_0 rfl) rfl (Nat.le_of_eq rfl) (hb hby d15_2) (fun _ _ => ⟨rfl, e0, (by decide : 0 + 0 ≤ _), (by decide : 0 + 0 ≤ _)⟩)
  dsimp only [Pt.U, Pt.locs, Pt.cells, Pt.slots] at X3 l3 y3 z3 st3 hQ3
  subst l3 y3 z3
  obtain ⟨rfl, rfl, e3⟩ := hQ3
  try replace X3 := own_nil X3
  refine Go.by' (fun t k => st3.trans k) ?_
  show Go p.tables e below Pf (T3.setTop (mkF m 5 #[vr wI, vi iy, .unset] [(.int (tv iy))]))
  refine Go.by' (fun t k => (XS.istoreN X3.here hx rfl (hb hby d15_5) rfl (l' := #[vr wI, vi iy, vi (tv iy)]) rfl (XS.iloadN X3.here hx rfl (hb hby d15_6) rfl (XS.sipush X3.here hx rfl (hb hby d15_7) (XS.iand X3.here hx rfl (hb hby d15_10) rfl (XS.sipush X3.here hx rfl (hb hby d15_11) k)))))) ?_
  show Go p.tables e below Pf (T3.setTop (mkF m 14 #[vr wI, vi iy, vi (tv iy)] [(.int (16384 : Int32)), (.int ((tv iy) &&& (28672 : Int32)))]))
  have jn5 : ∀ (T' : State) (w5_0 : Int32), Like X3 T' → T'.heap = h0 → ((((tv iy) &&& (28672 : Int32)) = (16384 : Int32) ∧ w5_0 = (1 : Int32)) ∨ (¬ (((tv iy) &&& (28672 : Int32)) = (16384 : Int32)) ∧ w5_0 = (0 : Int32))) → Go p.tables e below Pf (T'.setTop (mkF m 22 #[vr wI, vi iy, vi (tv iy)] [(.int w5_0)])) := by
    intro T5 w5_0 X5 e5 hm5
    unfold Like at X5
    have bw5_0 : w5_0 = 0 ∨ w5_0 = 1 := by rcases hm5 with ⟨_, h⟩ | ⟨_, h⟩ <;> first | exact Or.inl h | exact Or.inr h
    show Go p.tables e below Pf (T5.setTop (mkF m 22 #[vr wI, vi iy, vi (tv iy)] [(.int w5_0)]))
    rw [hPf]
    exact Go.retI' X5 hx hret hlk (by simp) (own_nb bw5_0) (hb hby d15_22) (by decide) (by decide) ⟨w5_0, rfl, rfl, e5, (hm5.elim (fun q => Or.inl ⟨(own_ws hlo hhi).mp q.1, q.2⟩) (fun q => Or.inr ⟨fun z => q.1 ((own_ws hlo hhi).mpr z), q.2⟩))⟩
  by_cases hc6 : ((tv iy) &&& (28672 : Int32)) = (16384 : Int32)
  · refine Go.by' (fun t k => (XS.icmpNo X3.here hx rfl (hb hby d15_14) rfl (teq hc6).2 (XS.iconst X3.here hx rfl (hb hby d15_17) (XS.goto X3.here hx rfl (pc0 := 18) (pc' := 22) rfl (hb hby d15_18) (by decide) (by decide) k)))) ?_
    show Go p.tables e below Pf (T3.setTop (mkF m 22 #[vr wI, vi iy, vi (tv iy)] [(.int (1 : Int32))]))
    exact jn5 T3 ((1 : Int32)) X3 e3  (Or.inl ⟨hc6, rfl⟩)
  · refine Go.by' (fun t k => (XS.icmpYes X3.here hx rfl (pc0 := 14) (pc' := 21) rfl (hb hby d15_14) rfl (feq hc6).2 (by decide) (by decide) (XS.iconst X3.here hx rfl (hb hby d15_21) k))) ?_
    show Go p.tables e below Pf (T3.setTop (mkF m 22 #[vr wI, vi iy, vi (tv iy)] [(.int (0 : Int32))]))
    exact jn5 T3 ((0 : Int32)) X3 e3  (Or.inr ⟨hc6, rfl⟩)
theorem d9_0 : decode method_2_code 0 = .ok (.iload_n 0, 1) := by decide +kernel
theorem d9_1 : decode method_2_code 1 = .ok (.bipush 9, 2) := by decide +kernel
theorem d9_3 : decode method_2_code 3 = .ok (.if_icmp .lt 9, 3) := by decide +kernel
theorem d9_12 : decode method_2_code 12 = .ok (.iload_n 0, 1) := by decide +kernel
theorem d9_13 : decode method_2_code 13 = .ok (.bipush 28, 2) := by decide +kernel
theorem d9_15 : decode method_2_code 15 = .ok (.if_icmp .lt 9, 3) := by decide +kernel
theorem d9_24 : decode method_2_code 24 = .ok (.iload_n 0, 1) := by decide +kernel
theorem d9_25 : decode method_2_code 25 = .ok (.bipush 32, 2) := by decide +kernel
theorem d9_27 : decode method_2_code 27 = .ok (.if_icmp .ne 7, 3) := by decide +kernel
theorem d9_30 : decode method_2_code 30 = .ok (.iconst 1, 1) := by decide +kernel
theorem d9_31 : decode method_2_code 31 = .ok (.goto 4, 3) := by decide +kernel
theorem d9_35 : decode method_2_code 35 = .ok (.ireturn, 1) := by decide +kernel
theorem d9_34 : decode method_2_code 34 = .ok (.iconst 0, 1) := by decide +kernel
theorem d9_18 : decode method_2_code 18 = .ok (.iload_n 0, 1) := by decide +kernel
theorem d9_19 : decode method_2_code 19 = .ok (.bipush 31, 2) := by decide +kernel
theorem d9_21 : decode method_2_code 21 = .ok (.if_icmp .le 9, 3) := by decide +kernel
theorem d9_6 : decode method_2_code 6 = .ok (.iload_n 0, 1) := by decide +kernel
theorem d9_7 : decode method_2_code 7 = .ok (.bipush 13, 2) := by decide +kernel
theorem d9_9 : decode method_2_code 9 = .ok (.if_icmp .le 21, 3) := by decide +kernel
theorem pn_9 : plainName "com/example/usher/usher/ProfilesIsNamePinLaw" = true := by first | (simp [plainName, overriddenIn]; done) | decide +kernel
theorem ef_rmWs (m : MethodId) {iy : Int32} : entryFrame m #[(.int iy)] 1 = mkF m 0 #[vi iy] [] := by first | (simp [entryFrame, mkF, argsToLocals, Value.category]; done) | rfl
abbrev own_y2 : MethodName := ⟨"com/example/usher/usher/ProfilesIsNamePinLaw", "ws", "(C)Z"⟩
def QrmWs (Z : State) (vcs : Int32) (wI : Addr) (wA : Addr) (cA : Cell) (iy : Int32) (h0 : Heap) (n0 : Nat) (v : Option Value) (h : Heap) (L : List Loc) : Prop := ∃ (r : Int32), (v = some (.int r)) ∧ (L = []) ∧ (h = h0) ∧ ((Ws iy ∧ r = (1 : Int32)) ∨ (¬ Ws iy ∧ r = (0 : Int32)))
theorem rmWs (l : Launch) (Z : State) (a0 : Array Value) (hw : ∀ d ∈ tables_1, d.before a0 Z = true) (ws : List Jvm.Cond) (vcs : Int32) (wI : Addr) (wA : Addr) (cA : Cell) (G : Gh Z vcs wI wA cA) (iy : Int32) (h0 : Heap) (n0 : Nat) (O0 : Old Z n0 h0) :
    MetFree l own_y2 (head1 (Jvm.Cond.code own_y2 method_2_code 1 (some .boolean) :: ws) ({ frames := 0, cells := 0, slots := 0, locals := 0 } : Room)) (fun aa' UU' => aa' = #[(.int iy)] ∧ Z.Warmed39 UU'.vm ∧ UU'.heap = h0) (fun _ _ _ _ _ => True) (fun _ UU' oo' VV' => ∃ v' L', oo' = .returned v' ∧ QrmWs Z vcs wI wA cA iy h0 n0 v' VV'.heap L' ∧ FrameEnd UU' oo' VV' L' ({ frames := 0, cells := 0, slots := 0, locals := 0 } : Room).cells ({ frames := 0, cells := 0, slots := 0, locals := 0 } : Room).slots) := by
  refine MetFree.of_bodySF (plainFor_of_name pn_9) hisR ?_
  intro p e s m args below meth c s₁ Bd hml0 hP hK
  obtain ⟨rfl, hZ, hh⟩ := hP
  have hml : c.maxLocals = 1 := hml0
  obtain ⟨hx, hby, hlk, hown, hnm, hret, X0, e0⟩ := own_hd Bd hh
  have N0 := Fr.nil n0
  refine Go.body ?_
  obtain ⟨Pf, hPf⟩ : ∃ P, P = Fin' s below ({ frames := 0, cells := 0, slots := 0, locals := 0 } : Room).cells ({ frames := 0, cells := 0, slots := 0, locals := 0 } : Room).slots (QrmWs Z vcs wI wA cA iy h0 n0) := ⟨_, rfl⟩
  rw [← hPf]
  refine Go.cast (ef_rmWs m) ?_
  show Go p.tables e below Pf (s₁.setTop (mkF m 0 #[vi iy] []))
  refine Go.by' (fun t k => (XS.iloadN X0.here hx rfl (hb hby d9_0) rfl (XS.bipush X0.here hx rfl (hb hby d9_1) k))) ?_
  show Go p.tables e below Pf (s₁.setTop (mkF m 3 #[vi iy] [(.int (9 : Int32)), (.int iy)]))
  by_cases hc7 : iy < (9 : Int32)
  · refine Go.by' (fun t k => (XS.icmpYes X0.here hx rfl (pc0 := 3) (pc' := 12) rfl (hb hby d9_3) rfl (tlt hc7).1 (by decide) (by decide) (XS.iloadN X0.here hx rfl (hb hby d9_12) rfl (XS.bipush X0.here hx rfl (hb hby d9_13) k)))) ?_
    show Go p.tables e below Pf (s₁.setTop (mkF m 15 #[vi iy] [(.int (28 : Int32)), (.int iy)]))
    by_cases hc8 : iy < (28 : Int32)
    · refine Go.by' (fun t k => (XS.icmpYes X0.here hx rfl (pc0 := 15) (pc' := 24) rfl (hb hby d9_15) rfl (tlt hc8).1 (by decide) (by decide) (XS.iloadN X0.here hx rfl (hb hby d9_24) rfl (XS.bipush X0.here hx rfl (hb hby d9_25) k)))) ?_
      show Go p.tables e below Pf (s₁.setTop (mkF m 27 #[vi iy] [(.int (32 : Int32)), (.int iy)]))
      by_cases hc9 : iy = (32 : Int32)
      · refine Go.by' (fun t k => (XS.icmpNo X0.here hx rfl (hb hby d9_27) rfl (teq hc9).2 (XS.iconst X0.here hx rfl (hb hby d9_30) (XS.goto X0.here hx rfl (pc0 := 31) (pc' := 35) rfl (hb hby d9_31) (by decide) (by decide) k)))) ?_
        show Go p.tables e below Pf (s₁.setTop (mkF m 35 #[vi iy] [(.int (1 : Int32))]))
        rw [hPf]
        exact Go.retI' X0 hx hret hlk (by simp) rfl (hb hby d9_35) (by decide) (by decide) ⟨(1 : Int32), rfl, rfl, e0, (by unfold Ws; simp [hc7, hc8, hc9])⟩
      · refine Go.by' (fun t k => (XS.icmpYes X0.here hx rfl (pc0 := 27) (pc' := 34) rfl (hb hby d9_27) rfl (feq hc9).2 (by decide) (by decide) (XS.iconst X0.here hx rfl (hb hby d9_34) k))) ?_
        show Go p.tables e below Pf (s₁.setTop (mkF m 35 #[vi iy] [(.int (0 : Int32))]))
        rw [hPf]
        exact Go.retI' X0 hx hret hlk (by simp) rfl (hb hby d9_35) (by decide) (by decide) ⟨(0 : Int32), rfl, rfl, e0, (by unfold Ws; simp [hc7, hc8, hc9])⟩
    · refine Go.by' (fun t k => (XS.icmpNo X0.here hx rfl (hb hby d9_15) rfl (flt hc8).1 (XS.iloadN X0.here hx rfl (hb hby d9_18) rfl (XS.bipush X0.here hx rfl (hb hby d9_19) k)))) ?_
      show Go p.tables e below Pf (s₁.setTop (mkF m 21 #[vi iy] [(.int (31 : Int32)), (.int iy)]))
      by_cases hc10 : (31 : Int32) < iy
      · refine Go.by' (fun t k => (XS.icmpNo X0.here hx rfl (hb hby d9_21) rfl (tlt hc10).2.2.2 (XS.iloadN X0.here hx rfl (hb hby d9_24) rfl (XS.bipush X0.here hx rfl (hb hby d9_25) k)))) ?_
        show Go p.tables e below Pf (s₁.setTop (mkF m 27 #[vi iy] [(.int (32 : Int32)), (.int iy)]))
        by_cases hc11 : iy = (32 : Int32)
        · refine Go.by' (fun t k => (XS.icmpNo X0.here hx rfl (hb hby d9_27) rfl (teq hc11).2 (XS.iconst X0.here hx rfl (hb hby d9_30) (XS.goto X0.here hx rfl (pc0 := 31) (pc' := 35) rfl (hb hby d9_31) (by decide) (by decide) k)))) ?_
          show Go p.tables e below Pf (s₁.setTop (mkF m 35 #[vi iy] [(.int (1 : Int32))]))
          rw [hPf]
          exact Go.retI' X0 hx hret hlk (by simp) rfl (hb hby d9_35) (by decide) (by decide) ⟨(1 : Int32), rfl, rfl, e0, (by unfold Ws; simp [hc7, hc8, hc10, hc11])⟩
        · refine Go.by' (fun t k => (XS.icmpYes X0.here hx rfl (pc0 := 27) (pc' := 34) rfl (hb hby d9_27) rfl (feq hc11).2 (by decide) (by decide) (XS.iconst X0.here hx rfl (hb hby d9_34) k))) ?_
          show Go p.tables e below Pf (s₁.setTop (mkF m 35 #[vi iy] [(.int (0 : Int32))]))
          rw [hPf]
          exact Go.retI' X0 hx hret hlk (by simp) rfl (hb hby d9_35) (by decide) (by decide) ⟨(0 : Int32), rfl, rfl, e0, (by unfold Ws; simp [hc7, hc8, hc10, hc11])⟩
      · refine Go.by' (fun t k => (XS.icmpYes X0.here hx rfl (pc0 := 21) (pc' := 30) rfl (hb hby d9_21) rfl (flt hc10).2.2.2 (by decide) (by decide) (XS.iconst X0.here hx rfl (hb hby d9_30) (XS.goto X0.here hx rfl (pc0 := 31) (pc' := 35) rfl (hb hby d9_31) (by decide) (by decide) k)))) ?_
        show Go p.tables e below Pf (s₁.setTop (mkF m 35 #[vi iy] [(.int (1 : Int32))]))
        rw [hPf]
        exact Go.retI' X0 hx hret hlk (by simp) rfl (hb hby d9_35) (by decide) (by decide) ⟨(1 : Int32), rfl, rfl, e0, (by unfold Ws; simp [hc7, hc8, hc10])⟩
  · refine Go.by' (fun t k => (XS.icmpNo X0.here hx rfl (hb hby d9_3) rfl (flt hc7).1 (XS.iloadN X0.here hx rfl (hb hby d9_6) rfl (XS.bipush X0.here hx rfl (hb hby d9_7) k)))) ?_
    show Go p.tables e below Pf (s₁.setTop (mkF m 9 #[vi iy] [(.int (13 : Int32)), (.int iy)]))
    by_cases hc12 : (13 : Int32) < iy
    · refine Go.by' (fun t k => (XS.icmpNo X0.here hx rfl (hb hby d9_9) rfl (tlt hc12).2.2.2 (XS.iloadN X0.here hx rfl (hb hby d9_12) rfl (XS.bipush X0.here hx rfl (hb hby d9_13) k)))) ?_
      show Go p.tables e below Pf (s₁.setTop (mkF m 15 #[vi iy] [(.int (28 : Int32)), (.int iy)]))
      by_cases hc13 : iy < (28 : Int32)
      · refine Go.by' (fun t k => (XS.icmpYes X0.here hx rfl (pc0 := 15) (pc' := 24) rfl (hb hby d9_15) rfl (tlt hc13).1 (by decide) (by decide) (XS.iloadN X0.here hx rfl (hb hby d9_24) rfl (XS.bipush X0.here hx rfl (hb hby d9_25) k)))) ?_
        show Go p.tables e below Pf (s₁.setTop (mkF m 27 #[vi iy] [(.int (32 : Int32)), (.int iy)]))
        by_cases hc14 : iy = (32 : Int32)
        · refine Go.by' (fun t k => (XS.icmpNo X0.here hx rfl (hb hby d9_27) rfl (teq hc14).2 (XS.iconst X0.here hx rfl (hb hby d9_30) (XS.goto X0.here hx rfl (pc0 := 31) (pc' := 35) rfl (hb hby d9_31) (by decide) (by decide) k)))) ?_
          show Go p.tables e below Pf (s₁.setTop (mkF m 35 #[vi iy] [(.int (1 : Int32))]))
          rw [hPf]
          exact Go.retI' X0 hx hret hlk (by simp) rfl (hb hby d9_35) (by decide) (by decide) ⟨(1 : Int32), rfl, rfl, e0, (by unfold Ws; simp [hc7, hc12, hc13, hc14])⟩
        · refine Go.by' (fun t k => (XS.icmpYes X0.here hx rfl (pc0 := 27) (pc' := 34) rfl (hb hby d9_27) rfl (feq hc14).2 (by decide) (by decide) (XS.iconst X0.here hx rfl (hb hby d9_34) k))) ?_
          show Go p.tables e below Pf (s₁.setTop (mkF m 35 #[vi iy] [(.int (0 : Int32))]))
          rw [hPf]
          exact Go.retI' X0 hx hret hlk (by simp) rfl (hb hby d9_35) (by decide) (by decide) ⟨(0 : Int32), rfl, rfl, e0, (by unfold Ws; simp [hc7, hc12, hc13, hc14])⟩
      · refine Go.by' (fun t k => (XS.icmpNo X0.here hx rfl (hb hby d9_15) rfl (flt hc13).1 (XS.iloadN X0.here hx rfl (hb hby d9_18) rfl (XS.bipush X0.here hx rfl (hb hby d9_19) k)))) ?_
        show Go p.tables e below Pf (s₁.setTop (mkF m 21 #[vi iy] [(.int (31 : Int32)), (.int iy)]))
        by_cases hc15 : (31 : Int32) < iy
        · refine Go.by' (fun t k => (XS.icmpNo X0.here hx rfl (hb hby d9_21) rfl (tlt hc15).2.2.2 (XS.iloadN X0.here hx rfl (hb hby d9_24) rfl (XS.bipush X0.here hx rfl (hb hby d9_25) k)))) ?_
          show Go p.tables e below Pf (s₁.setTop (mkF m 27 #[vi iy] [(.int (32 : Int32)), (.int iy)]))
          by_cases hc16 : iy = (32 : Int32)
          · refine Go.by' (fun t k => (XS.icmpNo X0.here hx rfl (hb hby d9_27) rfl (teq hc16).2 (XS.iconst X0.here hx rfl (hb hby d9_30) (XS.goto X0.here hx rfl (pc0 := 31) (pc' := 35) rfl (hb hby d9_31) (by decide) (by decide) k)))) ?_
            show Go p.tables e below Pf (s₁.setTop (mkF m 35 #[vi iy] [(.int (1 : Int32))]))
            rw [hPf]
            exact Go.retI' X0 hx hret hlk (by simp) rfl (hb hby d9_35) (by decide) (by decide) ⟨(1 : Int32), rfl, rfl, e0, (by unfold Ws; simp [hc7, hc12, hc13, hc15, hc16])⟩
          · refine Go.by' (fun t k => (XS.icmpYes X0.here hx rfl (pc0 := 27) (pc' := 34) rfl (hb hby d9_27) rfl (feq hc16).2 (by decide) (by decide) (XS.iconst X0.here hx rfl (hb hby d9_34) k))) ?_
            show Go p.tables e below Pf (s₁.setTop (mkF m 35 #[vi iy] [(.int (0 : Int32))]))
            rw [hPf]
            exact Go.retI' X0 hx hret hlk (by simp) rfl (hb hby d9_35) (by decide) (by decide) ⟨(0 : Int32), rfl, rfl, e0, (by unfold Ws; simp [hc7, hc12, hc13, hc15, hc16])⟩
        · refine Go.by' (fun t k => (XS.icmpYes X0.here hx rfl (pc0 := 21) (pc' := 30) rfl (hb hby d9_21) rfl (flt hc15).2.2.2 (by decide) (by decide) (XS.iconst X0.here hx rfl (hb hby d9_30) (XS.goto X0.here hx rfl (pc0 := 31) (pc' := 35) rfl (hb hby d9_31) (by decide) (by decide) k)))) ?_
          show Go p.tables e below Pf (s₁.setTop (mkF m 35 #[vi iy] [(.int (1 : Int32))]))
          rw [hPf]
          exact Go.retI' X0 hx hret hlk (by simp) rfl (hb hby d9_35) (by decide) (by decide) ⟨(1 : Int32), rfl, rfl, e0, (by unfold Ws; simp [hc7, hc12, hc13, hc15])⟩
    · refine Go.by' (fun t k => (XS.icmpYes X0.here hx rfl (pc0 := 9) (pc' := 30) rfl (hb hby d9_9) rfl (flt hc12).2.2.2 (by decide) (by decide) (XS.iconst X0.here hx rfl (hb hby d9_30) (XS.goto X0.here hx rfl (pc0 := 31) (pc' := 35) rfl (hb hby d9_31) (by decide) (by decide) k)))) ?_
      show Go p.tables e below Pf (s₁.setTop (mkF m 35 #[vi iy] [(.int (1 : Int32))]))
      rw [hPf]
      exact Go.retI' X0 hx hret hlk (by simp) rfl (hb hby d9_35) (by decide) (by decide) ⟨(1 : Int32), rfl, rfl, e0, (by unfold Ws; simp [hc7, hc12])⟩
theorem d14_0 : decode jdk_43_method_44_code 0 = .ok (.aload_n 0, 1) := by decide +kernel
theorem d14_1 : decode jdk_43_method_44_code 1 = .ok (.iload_n 1, 1) := by decide +kernel
theorem d14_2 : decode jdk_43_method_44_code 2 = .ok (.baload, 1) := by decide +kernel
theorem d14_3 : decode jdk_43_method_44_code 3 = .ok (.sipush 255, 3) := by decide +kernel
theorem d14_6 : decode jdk_43_method_44_code 6 = .ok (.iand, 1) := by decide +kernel
theorem d14_7 : decode jdk_43_method_44_code 7 = .ok (.i2c, 1) := by decide +kernel
theorem d14_8 : decode jdk_43_method_44_code 8 = .ok (.ireturn, 1) := by decide +kernel
theorem pn_14 : plainName "java/lang/StringLatin1" = true := by first | (simp [plainName, overriddenIn]; done) | decide +kernel
theorem ef_rmGC (m : MethodId) {va : Addr} {ix : Int32} : entryFrame m #[(.ref va), (.int ix)] 2 = mkF m 0 #[vr va, vi ix] [] := by first | (simp [entryFrame, mkF, argsToLocals, Value.category]; done) | rfl
abbrev own_y3 : MethodName := ⟨"java/lang/StringLatin1", "getChar", "([BI)C"⟩
def QrmGC (Z : State) (vcs : Int32) (wI : Addr) (wA : Addr) (cA : Cell) (va : Addr) (ix : Int32) (ka : ClassId) (zn : Int32) (vsx : (List Value)) (xe : Int32) (h0 : Heap) (n0 : Nat) (v : Option Value) (h : Heap) (L : List Loc) : Prop := (v = some (.int (xe &&& (255 : Int32)))) ∧ (L = []) ∧ (h = h0)
theorem rmGC (l : Launch) (Z : State) (a0 : Array Value) (hw : ∀ d ∈ tables_1, d.before a0 Z = true) (ws : List Jvm.Cond) (vcs : Int32) (wI : Addr) (wA : Addr) (cA : Cell) (G : Gh Z vcs wI wA cA) (va : Addr) (ix : Int32) (ka : ClassId) (zn : Int32) (vsx : (List Value)) (xe : Int32) (h0 : Heap) (n0 : Nat) (O0 : Old Z n0 h0) (VA : Arv Z h0 va ka .byte zn vsx (.int (0 : Int32))) (hi0 : ¬ (ix < (0 : Int32))) (hi1 : ix < zn) (hel : vsx.getD ix.toNatClampNeg (Value.int (0 : Int32)) = Value.int xe) :
    MetFree l own_y3 (head1 (Jvm.Cond.code own_y3 jdk_43_method_44_code 2 (some .char) :: ws) ({ frames := 0, cells := 0, slots := 0, locals := 0 } : Room)) (fun aa' UU' => aa' = #[(.ref va), (.int ix)] ∧ Z.Warmed39 UU'.vm ∧ UU'.heap = h0) (fun _ _ _ _ _ => True) (fun _ UU' oo' VV' => ∃ v' L', oo' = .returned v' ∧ QrmGC Z vcs wI wA cA va ix ka zn vsx xe h0 n0 v' VV'.heap L' ∧ FrameEnd UU' oo' VV' L' ({ frames := 0, cells := 0, slots := 0, locals := 0 } : Room).cells ({ frames := 0, cells := 0, slots := 0, locals := 0 } : Room).slots) := by
  refine MetFree.of_bodySF (plainFor_of_name pn_14) hisR ?_
  intro p e s m args below meth c s₁ Bd hml0 hP hK
  obtain ⟨rfl, hZ, hh⟩ := hP
  have hml : c.maxLocals = 2 := hml0
  obtain ⟨hx, hby, hlk, hown, hnm, hret, X0, e0⟩ := own_hd Bd hh
  have N0 := Fr.nil n0
  refine Go.body ?_
  obtain ⟨Pf, hPf⟩ : ∃ P, P = Fin' s below ({ frames := 0, cells := 0, slots := 0, locals := 0 } : Room).cells ({ frames := 0, cells := 0, slots := 0, locals := 0 } : Room).slots (QrmGC Z vcs wI wA cA va ix ka zn vsx xe h0 n0) := ⟨_, rfl⟩
  rw [← hPf]
  refine Go.cast (ef_rmGC m) ?_
  show Go p.tables e below Pf (s₁.setTop (mkF m 0 #[vr va, vi ix] []))
  refine Go.by' (fun t k => (XS.aloadN X0.here hx rfl (hb hby d14_0) rfl rfl (XS.iloadN X0.here hx rfl (hb hby d14_1) rfl (own_bal X0 hx hZ e0 VA (j := ix) (v := (.int xe)) ⟨hi0, hi1⟩ hel rfl rfl (hb hby d14_2) (XS.sipush X0.here hx rfl (hb hby d14_3) (XS.iand X0.here hx rfl (hb hby d14_6) rfl (XS.i2c X0.here hx rfl (hb hby d14_7) rfl k))))))) ?_
  show Go p.tables e below Pf (s₁.setTop (mkF m 8 #[vr va, vi ix] [(.int ((xe &&& (255 : Int32)).toUInt32.toUInt16.toUInt32.toInt32))]))
  refine Go.castF (a := ((xe &&& (255 : Int32)).toUInt32.toUInt16.toUInt32.toInt32)) (b := (xe &&& (255 : Int32))) (fun z' : Int32 => mkF m 8 #[vr va, vi ix] [(.int z')]) (i2c_mask _) ?_
  show Go p.tables e below Pf (s₁.setTop (mkF m 8 #[vr va, vi ix] [(.int (xe &&& (255 : Int32)))]))
  rw [hPf]
  exact Go.retI' X0 hx hret hlk (by simp) (congrArg Value.int (i2c_mask _)) (hb hby d14_8) (by decide) (by decide) ⟨rfl, rfl, e0⟩
theorem d13_0 : decode jdk_43_method_37_code 0 = .ok (.aload_n 0, 1) := by decide +kernel
theorem d13_1 : decode jdk_43_method_37_code 1 = .ok (.arraylength, 1) := by decide +kernel
theorem d13_2 : decode jdk_43_method_37_code 2 = .ok (.istore_n 1, 1) := by decide +kernel
theorem d13_3 : decode jdk_43_method_37_code 3 = .ok (.iconst 0, 1) := by decide +kernel
theorem d13_4 : decode jdk_43_method_37_code 4 = .ok (.istore_n 2, 1) := by decide +kernel
theorem d13_5 : decode jdk_43_method_37_code 5 = .ok (.iload_n 2, 1) := by decide +kernel
theorem d13_6 : decode jdk_43_method_37_code 6 = .ok (.iload_n 1, 1) := by decide +kernel
theorem d13_7 : decode jdk_43_method_37_code 7 = .ok (.if_icmp .ge 40, 3) := by decide +kernel
theorem d13_47 : decode jdk_43_method_37_code 47 = .ok (.iload_n 2, 1) := by decide +kernel
theorem d13_48 : decode jdk_43_method_37_code 48 = .ok (.ireturn, 1) := by decide +kernel
theorem d13_10 : decode jdk_43_method_37_code 10 = .ok (.aload_n 0, 1) := by decide +kernel
theorem d13_11 : decode jdk_43_method_37_code 11 = .ok (.iload_n 2, 1) := by decide +kernel
theorem d13_12 : decode jdk_43_method_37_code 12 = .ok (.invokestatic 50, 3) := by decide +kernel
theorem pd_1 : parseMethodDescriptor "([BI)C" = some ⟨[(.array .byte), .int], some .char⟩ := by decide +kernel
theorem d13_15 : decode jdk_43_method_37_code 15 = .ok (.istore_n 3, 1) := by decide +kernel
theorem d13_16 : decode jdk_43_method_37_code 16 = .ok (.iload_n 3, 1) := by decide +kernel
theorem d13_17 : decode jdk_43_method_37_code 17 = .ok (.bipush 32, 2) := by decide +kernel
theorem d13_19 : decode jdk_43_method_37_code 19 = .ok (.if_icmp .eq 22, 3) := by decide +kernel
theorem d13_41 : decode jdk_43_method_37_code 41 = .ok (.iinc 2 1, 3) := by decide +kernel
theorem d13_44 : decode jdk_43_method_37_code 44 = .ok (.goto (-39), 3) := by decide +kernel
theorem d13_22 : decode jdk_43_method_37_code 22 = .ok (.iload_n 3, 1) := by decide +kernel
theorem d13_23 : decode jdk_43_method_37_code 23 = .ok (.bipush 9, 2) := by decide +kernel
theorem d13_25 : decode jdk_43_method_37_code 25 = .ok (.if_icmp .eq 16, 3) := by decide +kernel
theorem d13_28 : decode jdk_43_method_37_code 28 = .ok (.getstatic 66, 3) := by decide +kernel
theorem d13_31 : decode jdk_43_method_37_code 31 = .ok (.iload_n 3, 1) := by decide +kernel
theorem d13_32 : decode jdk_43_method_37_code 32 = .ok (.invokevirtual 211, 3) := by decide +kernel
theorem pd_2 : parseMethodDescriptor "(I)Z" = some ⟨[.int], some .boolean⟩ := by decide +kernel
theorem d13_35 : decode jdk_43_method_37_code 35 = .ok (.ifCond .ne 6, 3) := by decide +kernel
theorem d13_38 : decode jdk_43_method_37_code 38 = .ok (.goto 9, 3) := by decide +kernel
theorem pn_13 : plainName "java/lang/StringLatin1" = true := by first | (simp [plainName, overriddenIn]; done) | decide +kernel
theorem ef_rmNW_1 (m : MethodId) {va : Addr} : entryFrame m #[(.ref va)] 4 = mkF m 0 #[vr va, .unset, .unset, .unset] [] := by first | (simp [entryFrame, mkF, argsToLocals, Value.category]; done) | rfl
abbrev own_y4 : MethodName := ⟨"java/lang/StringLatin1", "indexOfNonWhitespace", "([B)I"⟩
def QrmNW_1 (Z : State) (vcs : Int32) (wI : Addr) (wA : Addr) (cA : Cell) (va : Addr) (ka : ClassId) (x0 : Int32) (h0 : Heap) (n0 : Nat) (v : Option Value) (h : Heap) (L : List Loc) : Prop := ∃ (r : Int32), (v = some (.int r)) ∧ (L = []) ∧ (h = h0) ∧ ((¬ Ws (x0 &&& (255 : Int32)) ∧ r = (0 : Int32)) ∨ (Ws (x0 &&& (255 : Int32)) ∧ r = (1 : Int32)))
theorem rmNW_1 (l : Launch) (Z : State) (a0 : Array Value) (hw : ∀ d ∈ tables_1, d.before a0 Z = true) (ws : List Jvm.Cond) (vcs : Int32) (wI : Addr) (wA : Addr) (cA : Cell) (G : Gh Z vcs wI wA cA) (va : Addr) (ka : ClassId) (x0 : Int32) (h0 : Heap) (n0 : Nat) (O0 : Old Z n0 h0) (VA : Arv Z h0 va ka .byte (1 : Int32) [(.int x0)] (.int (0 : Int32))) :
    MetFree l own_y4 (head1 (Jvm.Cond.code own_y4 jdk_43_method_37_code 4 (some .int) :: ws) ({ frames := 2, cells := 0, slots := 0, locals := 29 } : Room)) (fun aa' UU' => aa' = #[(.ref va)] ∧ Z.Warmed39 UU'.vm ∧ UU'.heap = h0) (fun _ _ _ _ _ => True) (fun _ UU' oo' VV' => ∃ v' L', oo' = .returned v' ∧ QrmNW_1 Z vcs wI wA cA va ka x0 h0 n0 v' VV'.heap L' ∧ FrameEnd UU' oo' VV' L' ({ frames := 2, cells := 0, slots := 0, locals := 29 } : Room).cells ({ frames := 2, cells := 0, slots := 0, locals := 29 } : Room).slots) := by
  refine MetFree.of_bodySF (plainFor_of_name pn_13) hisR ?_
  intro p e s m args below meth c s₁ Bd hml0 hP hK
  obtain ⟨rfl, hZ, hh⟩ := hP
  have hml : c.maxLocals = 4 := hml0
  obtain ⟨hx, hby, hlk, hown, hnm, hret, X0, e0⟩ := own_hd Bd hh
  have N0 := Fr.nil n0
  refine Go.body ?_
  obtain ⟨Pf, hPf⟩ : ∃ P, P = Fin' s below ({ frames := 2, cells := 0, slots := 0, locals := 29 } : Room).cells ({ frames := 2, cells := 0, slots := 0, locals := 29 } : Room).slots (QrmNW_1 Z vcs wI wA cA va ka x0 h0 n0) := ⟨_, rfl⟩
  rw [← hPf]
  refine Go.cast (ef_rmNW_1 m) ?_
  have hw58 := own_w hw 58 rfl
  have hw63 := own_w hw 63 rfl
  have hw64 := own_w hw 64 rfl
  have hw65 := own_w hw 65 rfl
  have hw66 := own_w hw 66 rfl
  have hw67 := own_w hw 67 rfl
  have hw68 := own_w hw 68 rfl
  have hw69 := own_w hw 69 rfl
  have hw70 := own_w hw 70 rfl
  have hw71 := own_w hw 71 rfl
  have hw72 := own_w hw 72 rfl
  show Go p.tables e below Pf (s₁.setTop (mkF m 0 #[vr va, .unset, .unset, .unset] []))
  refine Go.by' (fun t k => (XS.aloadN X0.here hx rfl (hb hby d13_0) rfl rfl (own_alen X0 hx hZ e0 VA rfl rfl (hb hby d13_1) (XS.istoreN X0.here hx rfl (hb hby d13_2) rfl (l' := #[vr va, vi (1 : Int32), .unset, .unset]) rfl (XS.iconst X0.here hx rfl (hb hby d13_3) (XS.istoreN X0.here hx rfl (hb hby d13_4) rfl (l' := #[vr va, vi (1 : Int32), vi (0 : Int32), .unset]) rfl k)))))) ?_
  show Go p.tables e below Pf (s₁.setTop (mkF m 5 #[vr va, vi (1 : Int32), vi (0 : Int32), .unset] []))
  have jnl1 : ∀ (T' : State) (w3 : Int32), Ws (x0 &&& (255 : Int32)) → Like X0 T' → T'.heap = h0 → Go p.tables e below Pf (T'.setTop (mkF m 5 #[vr va, vi (1 : Int32), vi (1 : Int32), vi w3] [])) := by
    intro T19 w3 hW0 X19 e19
    unfold Like at X19
    show Go p.tables e below Pf (T19.setTop (mkF m 5 #[vr va, vi (1 : Int32), vi (1 : Int32), vi w3] []))
    refine Go.by' (fun t k => (XS.iloadN X19.here hx rfl (hb hby d13_5) rfl (XS.iloadN X19.here hx rfl (hb hby d13_6) rfl (XS.icmpYes X19.here hx rfl (pc0 := 7) (pc' := 47) rfl (hb hby d13_7) rfl (flt (by decide)).2.1 (by decide) (by decide) (XS.iloadN X19.here hx rfl (hb hby d13_47) rfl k))))) ?_
    show Go p.tables e below Pf (T19.setTop (mkF m 48 #[vr va, vi (1 : Int32), vi (1 : Int32), vi w3] [(.int (1 : Int32))]))
    rw [hPf]
    exact Go.retI' X19 hx hret hlk (by simp) rfl (hb hby d13_48) (by decide) (by decide) ⟨(1 : Int32), rfl, rfl, e19, (Or.inr ⟨hW0, rfl⟩)⟩
  show Go p.tables e below Pf (s₁.setTop (mkF m 5 #[vr va, vi (1 : Int32), vi (0 : Int32), .unset] []))
  refine Go.by' (fun t k => (XS.iloadN X0.here hx rfl (hb hby d13_5) rfl (XS.iloadN X0.here hx rfl (hb hby d13_6) rfl (XS.icmpNo X0.here hx rfl (hb hby d13_7) rfl (tlt (by decide)).2.1 (XS.aloadN X0.here hx rfl (hb hby d13_10) rfl rfl (XS.iloadN X0.here hx rfl (hb hby d13_11) rfl k)))))) ?_
  obtain ⟨_, _, ⟨T20, L20, k20, n20⟩, -, X20, ⟨Lc20, hQ20, l20, y20, z20⟩, st20⟩ := Jvm.LawKit.callS X0 hx (y := own_y3) hown (mvT hZ hw63) (mvT hZ hw64) (mvT hZ hw58) (mvT hZ hw65) (by decide) (backOf (W := 0) (rmGC l Z a0 hw [] vcs wI wA cA G va ((0 : Int32)) ka ((1 : Int32)) ([(Value.int x0)]) x0 h0 n0 O0 VA (by decide) (by decide) rfl) hZ hw65 hw58 (by decide) (by decide)) (g := (mkF m 12 #[vr va, vi (1 : Int32), vi (0 : Int32), .unset] [(.int (0 : Int32)), (.ref va)])) rfl (by rw [hml]; rfl) (argsL := [(.ref va), (.int (0 : Int32))]) (rest := []) (lenOf pd_1 rfl) rfl (Nat.le_of_eq rfl) (hb hby d13_12) (fun _ _ => ⟨rfl, e0, (by decide : 0 + 0 ≤ _), (by decide : 0 + 0 ≤ _)⟩)
  dsimp only [Pt.U, Pt.locs, Pt.cells, Pt.slots] at X20 l20 y20 z20 st20 hQ20
  subst l20 y20 z20
  obtain ⟨rfl, rfl, e20⟩ := hQ20
  try replace X20 := own_nil X20
  refine Go.by' st20 ?_
  show Go p.tables e below Pf (T20.setTop (mkF m 15 #[vr va, vi (1 : Int32), vi (0 : Int32), .unset] [(.int (x0 &&& (255 : Int32)))]))
  refine Go.by' (fun t k => (XS.istoreN X20.here hx rfl (hb hby d13_15) rfl (l' := #[vr va, vi (1 : Int32), vi (0 : Int32), vi (x0 &&& (255 : Int32))]) rfl (XS.iloadN X20.here hx rfl (hb hby d13_16) rfl (XS.bipush X20.here hx rfl (hb hby d13_17) k)))) ?_
  show Go p.tables e below Pf (T20.setTop (mkF m 19 #[vr va, vi (1 : Int32), vi (0 : Int32), vi (x0 &&& (255 : Int32))] [(.int (32 : Int32)), (.int (x0 &&& (255 : Int32)))]))
  by_cases hc21 : (x0 &&& (255 : Int32)) = (32 : Int32)
  · refine Go.by' (fun t k => (XS.icmpYes X20.here hx rfl (pc0 := 19) (pc' := 41) rfl (hb hby d13_19) rfl (teq hc21).1 (by decide) (by decide) (XS.iinc X20.here hx rfl (hb hby d13_41) rfl (l' := #[vr va, vi (1 : Int32), vi (1 : Int32), vi (x0 &&& (255 : Int32))]) rfl (XS.goto X20.here hx rfl (pc0 := 44) (pc' := 5) rfl (hb hby d13_44) (by decide) (by decide) k)))) ?_
    show Go p.tables e below Pf (T20.setTop (mkF m 5 #[vr va, vi (1 : Int32), vi (1 : Int32), vi (x0 &&& (255 : Int32))] []))
    exact jnl1 T20 ((x0 &&& (255 : Int32))) (own_w32 hc21) X20 e20
  · refine Go.by' (fun t k => (XS.icmpNo X20.here hx rfl (hb hby d13_19) rfl (feq hc21).1 (XS.iloadN X20.here hx rfl (hb hby d13_22) rfl (XS.bipush X20.here hx rfl (hb hby d13_23) k)))) ?_
    show Go p.tables e below Pf (T20.setTop (mkF m 25 #[vr va, vi (1 : Int32), vi (0 : Int32), vi (x0 &&& (255 : Int32))] [(.int (9 : Int32)), (.int (x0 &&& (255 : Int32)))]))
    by_cases hc22 : (x0 &&& (255 : Int32)) = (9 : Int32)
    · refine Go.by' (fun t k => (XS.icmpYes X20.here hx rfl (pc0 := 25) (pc' := 41) rfl (hb hby d13_25) rfl (teq hc22).1 (by decide) (by decide) (XS.iinc X20.here hx rfl (hb hby d13_41) rfl (l' := #[vr va, vi (1 : Int32), vi (1 : Int32), vi (x0 &&& (255 : Int32))]) rfl (XS.goto X20.here hx rfl (pc0 := 44) (pc' := 5) rfl (hb hby d13_44) (by decide) (by decide) k)))) ?_
      show Go p.tables e below Pf (T20.setTop (mkF m 5 #[vr va, vi (1 : Int32), vi (1 : Int32), vi (x0 &&& (255 : Int32))] []))
      exact jnl1 T20 ((x0 &&& (255 : Int32))) (own_w9 hc22) X20 e20
    · refine Go.by' (fun t k => (XS.icmpNo X20.here hx rfl (hb hby d13_25) rfl (feq hc22).1 k)) ?_
      obtain ⟨T23, X23, e23, st23⟩ := getS2 X20 hx hZ hown (host := "") (Or.inl hw66) Via.refl e20 (G.2.2.1.ext O0.2) (g := (mkF m 28 #[vr va, vi (1 : Int32), vi (0 : Int32), vi (x0 &&& (255 : Int32))] [])) rfl (hb hby d13_28)
      refine Go.by' st23 ?_
      show Go p.tables e below Pf (T23.setTop (mkF m 31 #[vr va, vi (1 : Int32), vi (0 : Int32), vi (x0 &&& (255 : Int32))] [(.ref wI)]))
      refine Go.by' (fun t k => (XS.iloadN X23.here hx rfl (hb hby d13_31) rfl k)) ?_
      obtain ⟨cq24, kq24, q24a, q24b, q24c⟩ := isOf hZ e23 (G.2.2.2.1.ext O0.2)
      obtain ⟨_, _, ⟨T24, L24, k24, n24⟩, -, X24, ⟨Lc24, hQ24, l24, y24, z24⟩, st24⟩ := X23.virtualBack hx (y := own_y1) (z := own_y1) hown (mvT hZ hw68) (mvT hZ hw69) (notFace_of_selects (args := #[]) (mvT hZ hw71)) (mvT hZ hw71) (mvT hZ hw70) (by decide) (backOf (W := 0) (rmIW l Z a0 hw [] vcs wI wA cA G ((x0 &&& (255 : Int32))) h0 n0 O0 (own_m _).1 (own_m _).2) hZ hw72 hw67 (by decide) (by decide)) q24a q24c (g := (mkF m 32 #[vr va, vi (1 : Int32), vi (0 : Int32), vi (x0 &&& (255 : Int32))] [(.int (x0 &&& (255 : Int32))), (.ref wI)])) rfl (by rw [hml]; rfl) (Steps.refl _) (argsL := [(.int (x0 &&& (255 : Int32)))]) (rest := []) (lenOf pd_2 rfl) rfl (Nat.le_of_eq rfl) (hb hby d13_32) (fun _ _ => ⟨rfl, e23, (by decide : 0 + 0 ≤ _), (by decide : 0 + 0 ≤ _)⟩)
      dsimp only [Pt.U, Pt.locs, Pt.cells, Pt.slots] at X24 l24 y24 z24 st24 hQ24
      subst l24 y24 z24
      obtain ⟨r_24, rfl, rfl, e24, r24_0⟩ := hQ24
      try replace X24 := own_nil X24
      refine Go.by' (fun t k => st24.trans k) ?_
      rcases r24_0 with ⟨hw24, hz24⟩ | ⟨hw24, hz24⟩
      · subst hz24
        show Go p.tables e below Pf (T24.setTop (mkF m 35 #[vr va, vi (1 : Int32), vi (0 : Int32), vi (x0 &&& (255 : Int32))] [(.int (1 : Int32))]))
        refine Go.by' (fun t k => (XS.ifYes X24.here hx rfl (pc0 := 35) (pc' := 41) rfl (hb hby d13_35) rfl ((if0 _ _).trans (feq (by decide)).2) (by decide) (by decide) (XS.iinc X24.here hx rfl (hb hby d13_41) rfl (l' := #[vr va, vi (1 : Int32), vi (1 : Int32), vi (x0 &&& (255 : Int32))]) rfl (XS.goto X24.here hx rfl (pc0 := 44) (pc' := 5) rfl (hb hby d13_44) (by decide) (by decide) k)))) ?_
        show Go p.tables e below Pf (T24.setTop (mkF m 5 #[vr va, vi (1 : Int32), vi (1 : Int32), vi (x0 &&& (255 : Int32))] []))
        exact jnl1 T24 ((x0 &&& (255 : Int32))) hw24 X24 e24
      · subst hz24
        show Go p.tables e below Pf (T24.setTop (mkF m 35 #[vr va, vi (1 : Int32), vi (0 : Int32), vi (x0 &&& (255 : Int32))] [(.int (0 : Int32))]))
        refine Go.by' (fun t k => (XS.ifNo X24.here hx rfl (hb hby d13_35) rfl ((if0 _ _).trans (teq (by decide)).2) (XS.goto X24.here hx rfl (pc0 := 38) (pc' := 47) rfl (hb hby d13_38) (by decide) (by decide) (XS.iloadN X24.here hx rfl (hb hby d13_47) rfl k)))) ?_
        show Go p.tables e below Pf (T24.setTop (mkF m 48 #[vr va, vi (1 : Int32), vi (0 : Int32), vi (x0 &&& (255 : Int32))] [(.int (0 : Int32))]))
        rw [hPf]
        exact Go.retI' X24 hx hret hlk (by simp) rfl (hb hby d13_48) (by decide) (by decide) ⟨(0 : Int32), rfl, rfl, e24, (Or.inl ⟨hw24, rfl⟩)⟩
theorem d17_0 : decode jdk_43_method_38_code 0 = .ok (.aload_n 0, 1) := by decide +kernel
theorem d17_1 : decode jdk_43_method_38_code 1 = .ok (.arraylength, 1) := by decide +kernel
theorem d17_2 : decode jdk_43_method_38_code 2 = .ok (.istore_n 1, 1) := by decide +kernel
theorem d17_3 : decode jdk_43_method_38_code 3 = .ok (.iload_n 1, 1) := by decide +kernel
theorem d17_4 : decode jdk_43_method_38_code 4 = .ok (.istore_n 2, 1) := by decide +kernel
theorem d17_5 : decode jdk_43_method_38_code 5 = .ok (.iconst 0, 1) := by decide +kernel
theorem d17_6 : decode jdk_43_method_38_code 6 = .ok (.iload_n 2, 1) := by decide +kernel
theorem d17_7 : decode jdk_43_method_38_code 7 = .ok (.if_icmp .ge 42, 3) := by decide +kernel
theorem d17_49 : decode jdk_43_method_38_code 49 = .ok (.iload_n 2, 1) := by decide +kernel
theorem d17_50 : decode jdk_43_method_38_code 50 = .ok (.ireturn, 1) := by decide +kernel
theorem d17_10 : decode jdk_43_method_38_code 10 = .ok (.aload_n 0, 1) := by decide +kernel
theorem d17_11 : decode jdk_43_method_38_code 11 = .ok (.iload_n 2, 1) := by decide +kernel
theorem d17_12 : decode jdk_43_method_38_code 12 = .ok (.iconst 1, 1) := by decide +kernel
theorem d17_13 : decode jdk_43_method_38_code 13 = .ok (.isub, 1) := by decide +kernel
theorem d17_14 : decode jdk_43_method_38_code 14 = .ok (.invokestatic 50, 3) := by decide +kernel
theorem d17_17 : decode jdk_43_method_38_code 17 = .ok (.istore_n 3, 1) := by decide +kernel
theorem d17_18 : decode jdk_43_method_38_code 18 = .ok (.iload_n 3, 1) := by decide +kernel
theorem d17_19 : decode jdk_43_method_38_code 19 = .ok (.bipush 32, 2) := by decide +kernel
theorem d17_21 : decode jdk_43_method_38_code 21 = .ok (.if_icmp .eq 22, 3) := by decide +kernel
theorem d17_43 : decode jdk_43_method_38_code 43 = .ok (.iinc 2 (-1), 3) := by decide +kernel
theorem d17_46 : decode jdk_43_method_38_code 46 = .ok (.goto (-41), 3) := by decide +kernel
theorem d17_24 : decode jdk_43_method_38_code 24 = .ok (.iload_n 3, 1) := by decide +kernel
theorem d17_25 : decode jdk_43_method_38_code 25 = .ok (.bipush 9, 2) := by decide +kernel
theorem d17_27 : decode jdk_43_method_38_code 27 = .ok (.if_icmp .eq 16, 3) := by decide +kernel
theorem d17_30 : decode jdk_43_method_38_code 30 = .ok (.getstatic 66, 3) := by decide +kernel
theorem d17_33 : decode jdk_43_method_38_code 33 = .ok (.iload_n 3, 1) := by decide +kernel
theorem d17_34 : decode jdk_43_method_38_code 34 = .ok (.invokevirtual 211, 3) := by decide +kernel
theorem d17_37 : decode jdk_43_method_38_code 37 = .ok (.ifCond .ne 6, 3) := by decide +kernel
theorem d17_40 : decode jdk_43_method_38_code 40 = .ok (.goto 9, 3) := by decide +kernel
theorem pn_17 : plainName "java/lang/StringLatin1" = true := by first | (simp [plainName, overriddenIn]; done) | decide +kernel
theorem ef_rmLW_1 (m : MethodId) {va : Addr} : entryFrame m #[(.ref va)] 4 = mkF m 0 #[vr va, .unset, .unset, .unset] [] := by first | (simp [entryFrame, mkF, argsToLocals, Value.category]; done) | rfl
abbrev own_y5 : MethodName := ⟨"java/lang/StringLatin1", "lastIndexOfNonWhitespace", "([B)I"⟩
def QrmLW_1 (Z : State) (vcs : Int32) (wI : Addr) (wA : Addr) (cA : Cell) (va : Addr) (ka : ClassId) (x0 : Int32) (h0 : Heap) (n0 : Nat) (v : Option Value) (h : Heap) (L : List Loc) : Prop := ∃ (r : Int32), (v = some (.int r)) ∧ (L = []) ∧ (h = h0) ∧ ((Ws (x0 &&& (255 : Int32)) ∧ r = (0 : Int32)) ∨ (¬ Ws (x0 &&& (255 : Int32)) ∧ r = (1 : Int32)))
theorem rmLW_1 (l : Launch) (Z : State) (a0 : Array Value) (hw : ∀ d ∈ tables_1, d.before a0 Z = true) (ws : List Jvm.Cond) (vcs : Int32) (wI : Addr) (wA : Addr) (cA : Cell) (G : Gh Z vcs wI wA cA) (va : Addr) (ka : ClassId) (x0 : Int32) (h0 : Heap) (n0 : Nat) (O0 : Old Z n0 h0) (VA : Arv Z h0 va ka .byte (1 : Int32) [(.int x0)] (.int (0 : Int32))) :
    MetFree l own_y5 (head1 (Jvm.Cond.code own_y5 jdk_43_method_38_code 4 (some .int) :: ws) ({ frames := 2, cells := 0, slots := 0, locals := 29 } : Room)) (fun aa' UU' => aa' = #[(.ref va)] ∧ Z.Warmed39 UU'.vm ∧ UU'.heap = h0) (fun _ _ _ _ _ => True) (fun _ UU' oo' VV' => ∃ v' L', oo' = .returned v' ∧ QrmLW_1 Z vcs wI wA cA va ka x0 h0 n0 v' VV'.heap L' ∧ FrameEnd UU' oo' VV' L' ({ frames := 2, cells := 0, slots := 0, locals := 29 } : Room).cells ({ frames := 2, cells := 0, slots := 0, locals := 29 } : Room).slots) := by
  refine MetFree.of_bodySF (plainFor_of_name pn_17) hisR ?_
  intro p e s m args below meth c s₁ Bd hml0 hP hK
  obtain ⟨rfl, hZ, hh⟩ := hP
  have hml : c.maxLocals = 4 := hml0
  obtain ⟨hx, hby, hlk, hown, hnm, hret, X0, e0⟩ := own_hd Bd hh
  have N0 := Fr.nil n0
  refine Go.body ?_
  obtain ⟨Pf, hPf⟩ : ∃ P, P = Fin' s below ({ frames := 2, cells := 0, slots := 0, locals := 29 } : Room).cells ({ frames := 2, cells := 0, slots := 0, locals := 29 } : Room).slots (QrmLW_1 Z vcs wI wA cA va ka x0 h0 n0) := ⟨_, rfl⟩
  rw [← hPf]
  refine Go.cast (ef_rmLW_1 m) ?_
  have hw58 := own_w hw 58 rfl
  have hw63 := own_w hw 63 rfl
  have hw64 := own_w hw 64 rfl
  have hw65 := own_w hw 65 rfl
  have hw66 := own_w hw 66 rfl
  have hw67 := own_w hw 67 rfl
  have hw68 := own_w hw 68 rfl
  have hw69 := own_w hw 69 rfl
  have hw70 := own_w hw 70 rfl
  have hw71 := own_w hw 71 rfl
  have hw72 := own_w hw 72 rfl
  show Go p.tables e below Pf (s₁.setTop (mkF m 0 #[vr va, .unset, .unset, .unset] []))
  refine Go.by' (fun t k => (XS.aloadN X0.here hx rfl (hb hby d17_0) rfl rfl (own_alen X0 hx hZ e0 VA rfl rfl (hb hby d17_1) (XS.istoreN X0.here hx rfl (hb hby d17_2) rfl (l' := #[vr va, vi (1 : Int32), .unset, .unset]) rfl (XS.iloadN X0.here hx rfl (hb hby d17_3) rfl (XS.istoreN X0.here hx rfl (hb hby d17_4) rfl (l' := #[vr va, vi (1 : Int32), vi (1 : Int32), .unset]) rfl k)))))) ?_
  show Go p.tables e below Pf (s₁.setTop (mkF m 5 #[vr va, vi (1 : Int32), vi (1 : Int32), .unset] []))
  have jnl0 : ∀ (T' : State) (w3 : Int32), Ws (x0 &&& (255 : Int32)) → Like X0 T' → T'.heap = h0 → Go p.tables e below Pf (T'.setTop (mkF m 5 #[vr va, vi (1 : Int32), vi (0 : Int32), vi w3] [])) := by
    intro T26 w3 hW0 X26 e26
    unfold Like at X26
    show Go p.tables e below Pf (T26.setTop (mkF m 5 #[vr va, vi (1 : Int32), vi (0 : Int32), vi w3] []))
    refine Go.by' (fun t k => (XS.iconst X26.here hx rfl (hb hby d17_5) (XS.iloadN X26.here hx rfl (hb hby d17_6) rfl (XS.icmpYes X26.here hx rfl (pc0 := 7) (pc' := 49) rfl (hb hby d17_7) rfl (flt (by decide)).2.1 (by decide) (by decide) (XS.iloadN X26.here hx rfl (hb hby d17_49) rfl k))))) ?_
    show Go p.tables e below Pf (T26.setTop (mkF m 50 #[vr va, vi (1 : Int32), vi (0 : Int32), vi w3] [(.int (0 : Int32))]))
    rw [hPf]
    exact Go.retI' X26 hx hret hlk (by simp) rfl (hb hby d17_50) (by decide) (by decide) ⟨(0 : Int32), rfl, rfl, e26, (Or.inl ⟨hW0, rfl⟩)⟩
  show Go p.tables e below Pf (s₁.setTop (mkF m 5 #[vr va, vi (1 : Int32), vi (1 : Int32), .unset] []))
  refine Go.by' (fun t k => (XS.iconst X0.here hx rfl (hb hby d17_5) (XS.iloadN X0.here hx rfl (hb hby d17_6) rfl (XS.icmpNo X0.here hx rfl (hb hby d17_7) rfl (tlt (by decide)).2.1 (XS.aloadN X0.here hx rfl (hb hby d17_10) rfl rfl (XS.iloadN X0.here hx rfl (hb hby d17_11) rfl (XS.iconst X0.here hx rfl (hb hby d17_12) (XS.isub X0.here hx rfl (hb hby d17_13) rfl k)))))))) ?_
  obtain ⟨_, _, ⟨T27, L27, k27, n27⟩, -, X27, ⟨Lc27, hQ27, l27, y27, z27⟩, st27⟩ := Jvm.LawKit.callS X0 hx (y := own_y3) hown (mvT hZ hw63) (mvT hZ hw64) (mvT hZ hw58) (mvT hZ hw65) (by decide) (backOf (W := 0) (rmGC l Z a0 hw [] vcs wI wA cA G va ((0 : Int32)) ka ((1 : Int32)) ([(Value.int x0)]) x0 h0 n0 O0 VA (by decide) (by decide) rfl) hZ hw65 hw58 (by decide) (by decide)) (g := (mkF m 14 #[vr va, vi (1 : Int32), vi (1 : Int32), .unset] [(.int (0 : Int32)), (.ref va)])) rfl (by rw [hml]; rfl) (argsL := [(.ref va), (.int (0 : Int32))]) (rest := []) (lenOf pd_1 rfl) rfl (Nat.le_of_eq rfl) (hb hby d17_14) (fun _ _ => ⟨rfl, e0, (by decide : 0 + 0 ≤ _), (by decide : 0 + 0 ≤ _)⟩)
  dsimp only [Pt.U, Pt.locs, Pt.cells, Pt.slots] at X27 l27 y27 z27 st27 hQ27
  subst l27 y27 z27
  obtain ⟨rfl, rfl, e27⟩ := hQ27
  try replace X27 := own_nil X27
  refine Go.by' st27 ?_
  show Go p.tables e below Pf (T27.setTop (mkF m 17 #[vr va, vi (1 : Int32), vi (1 : Int32), .unset] [(.int (x0 &&& (255 : Int32)))]))
  refine Go.by' (fun t k => (XS.istoreN X27.here hx rfl (hb hby d17_17) rfl (l' := #[vr va, vi (1 : Int32), vi (1 : Int32), vi (x0 &&& (255 : Int32))]) rfl (XS.iloadN X27.here hx rfl (hb hby d17_18) rfl (XS.bipush X27.here hx rfl (hb hby d17_19) k)))) ?_
  show Go p.tables e below Pf (T27.setTop (mkF m 21 #[vr va, vi (1 : Int32), vi (1 : Int32), vi (x0 &&& (255 : Int32))] [(.int (32 : Int32)), (.int (x0 &&& (255 : Int32)))]))
  by_cases hc28 : (x0 &&& (255 : Int32)) = (32 : Int32)
  · refine Go.by' (fun t k => (XS.icmpYes X27.here hx rfl (pc0 := 21) (pc' := 43) rfl (hb hby d17_21) rfl (teq hc28).1 (by decide) (by decide) (XS.iinc X27.here hx rfl (hb hby d17_43) rfl (l' := #[vr va, vi (1 : Int32), vi (0 : Int32), vi (x0 &&& (255 : Int32))]) rfl (XS.goto X27.here hx rfl (pc0 := 46) (pc' := 5) rfl (hb hby d17_46) (by decide) (by decide) k)))) ?_
    show Go p.tables e below Pf (T27.setTop (mkF m 5 #[vr va, vi (1 : Int32), vi (0 : Int32), vi (x0 &&& (255 : Int32))] []))
    exact jnl0 T27 ((x0 &&& (255 : Int32))) (own_w32 hc28) X27 e27
  · refine Go.by' (fun t k => (XS.icmpNo X27.here hx rfl (hb hby d17_21) rfl (feq hc28).1 (XS.iloadN X27.here hx rfl (hb hby d17_24) rfl (XS.bipush X27.here hx rfl (hb hby d17_25) k)))) ?_
    show Go p.tables e below Pf (T27.setTop (mkF m 27 #[vr va, vi (1 : Int32), vi (1 : Int32), vi (x0 &&& (255 : Int32))] [(.int (9 : Int32)), (.int (x0 &&& (255 : Int32)))]))
    by_cases hc29 : (x0 &&& (255 : Int32)) = (9 : Int32)
    · refine Go.by' (fun t k => (XS.icmpYes X27.here hx rfl (pc0 := 27) (pc' := 43) rfl (hb hby d17_27) rfl (teq hc29).1 (by decide) (by decide) (XS.iinc X27.here hx rfl (hb hby d17_43) rfl (l' := #[vr va, vi (1 : Int32), vi (0 : Int32), vi (x0 &&& (255 : Int32))]) rfl (XS.goto X27.here hx rfl (pc0 := 46) (pc' := 5) rfl (hb hby d17_46) (by decide) (by decide) k)))) ?_
      show Go p.tables e below Pf (T27.setTop (mkF m 5 #[vr va, vi (1 : Int32), vi (0 : Int32), vi (x0 &&& (255 : Int32))] []))
      exact jnl0 T27 ((x0 &&& (255 : Int32))) (own_w9 hc29) X27 e27
    · refine Go.by' (fun t k => (XS.icmpNo X27.here hx rfl (hb hby d17_27) rfl (feq hc29).1 k)) ?_
      obtain ⟨T30, X30, e30, st30⟩ := getS2 X27 hx hZ hown (host := "") (Or.inl hw66) Via.refl e27 (G.2.2.1.ext O0.2) (g := (mkF m 30 #[vr va, vi (1 : Int32), vi (1 : Int32), vi (x0 &&& (255 : Int32))] [])) rfl (hb hby d17_30)
      refine Go.by' st30 ?_
      show Go p.tables e below Pf (T30.setTop (mkF m 33 #[vr va, vi (1 : Int32), vi (1 : Int32), vi (x0 &&& (255 : Int32))] [(.ref wI)]))
      refine Go.by' (fun t k => (XS.iloadN X30.here hx rfl (hb hby d17_33) rfl k)) ?_
      obtain ⟨cq31, kq31, q31a, q31b, q31c⟩ := isOf hZ e30 (G.2.2.2.1.ext O0.2)
      obtain ⟨_, _, ⟨T31, L31, k31, n31⟩, -, X31, ⟨Lc31, hQ31, l31, y31, z31⟩, st31⟩ := X30.virtualBack hx (y := own_y1) (z := own_y1) hown (mvT hZ hw68) (mvT hZ hw69) (notFace_of_selects (args := #[]) (mvT hZ hw71)) (mvT hZ hw71) (mvT hZ hw70) (by decide) (backOf (W := 0) (rmIW l Z a0 hw [] vcs wI wA cA G ((x0 &&& (255 : Int32))) h0 n0 O0 (own_m _).1 (own_m _).2) hZ hw72 hw67 (by decide) (by decide)) q31a q31c (g := (mkF m 34 #[vr va, vi (1 : Int32), vi (1 : Int32), vi (x0 &&& (255 : Int32))] [(.int (x0 &&& (255 : Int32))), (.ref wI)])) rfl (by rw [hml]; rfl) (Steps.refl _) (argsL := [(.int (x0 &&& (255 : Int32)))]) (rest := []) (lenOf pd_2 rfl) rfl (Nat.le_of_eq rfl) (hb hby d17_34) (fun _ _ => ⟨rfl, e30, (by decide : 0 + 0 ≤ _), (by decide : 0 + 0 ≤ _)⟩)
      dsimp only [Pt.U, Pt.locs, Pt.cells, Pt.slots] at X31 l31 y31 z31 st31 hQ31
      subst l31 y31 z31
      obtain ⟨r_31, rfl, rfl, e31, r31_0⟩ := hQ31
      try replace X31 := own_nil X31
      refine Go.by' (fun t k => st31.trans k) ?_
      rcases r31_0 with ⟨hw31, hz31⟩ | ⟨hw31, hz31⟩
      · subst hz31
        show Go p.tables e below Pf (T31.setTop (mkF m 37 #[vr va, vi (1 : Int32), vi (1 : Int32), vi (x0 &&& (255 : Int32))] [(.int (1 : Int32))]))
        refine Go.by' (fun t k => (XS.ifYes X31.here hx rfl (pc0 := 37) (pc' := 43) rfl (hb hby d17_37) rfl ((if0 _ _).trans (feq (by decide)).2) (by decide) (by decide) (XS.iinc X31.here hx rfl (hb hby d17_43) rfl (l' := #[vr va, vi (1 : Int32), vi (0 : Int32), vi (x0 &&& (255 : Int32))]) rfl (XS.goto X31.here hx rfl (pc0 := 46) (pc' := 5) rfl (hb hby d17_46) (by decide) (by decide) k)))) ?_
        show Go p.tables e below Pf (T31.setTop (mkF m 5 #[vr va, vi (1 : Int32), vi (0 : Int32), vi (x0 &&& (255 : Int32))] []))
        exact jnl0 T31 ((x0 &&& (255 : Int32))) hw31 X31 e31
      · subst hz31
        show Go p.tables e below Pf (T31.setTop (mkF m 37 #[vr va, vi (1 : Int32), vi (1 : Int32), vi (x0 &&& (255 : Int32))] [(.int (0 : Int32))]))
        refine Go.by' (fun t k => (XS.ifNo X31.here hx rfl (hb hby d17_37) rfl ((if0 _ _).trans (teq (by decide)).2) (XS.goto X31.here hx rfl (pc0 := 40) (pc' := 49) rfl (hb hby d17_40) (by decide) (by decide) (XS.iloadN X31.here hx rfl (hb hby d17_49) rfl k)))) ?_
        show Go p.tables e below Pf (T31.setTop (mkF m 50 #[vr va, vi (1 : Int32), vi (1 : Int32), vi (x0 &&& (255 : Int32))] [(.int (1 : Int32))]))
        rw [hPf]
        exact Go.retI' X31 hx hret hlk (by simp) rfl (hb hby d17_50) (by decide) (by decide) ⟨(1 : Int32), rfl, rfl, e31, (Or.inr ⟨hw31, rfl⟩)⟩
theorem ef_rmNW_2 (m : MethodId) {va : Addr} : entryFrame m #[(.ref va)] 4 = mkF m 0 #[vr va, .unset, .unset, .unset] [] := by first | (simp [entryFrame, mkF, argsToLocals, Value.category]; done) | rfl
def QrmNW_2 (Z : State) (vcs : Int32) (wI : Addr) (wA : Addr) (cA : Cell) (va : Addr) (ka : ClassId) (x0 : Int32) (x1 : Int32) (h0 : Heap) (n0 : Nat) (v : Option Value) (h : Heap) (L : List Loc) : Prop := ∃ (r : Int32), (v = some (.int r)) ∧ (L = []) ∧ (h = h0) ∧ ((¬ Ws (x0 &&& (255 : Int32)) ∧ r = (0 : Int32)) ∨ (Ws (x0 &&& (255 : Int32)) ∧ ¬ Ws (x1 &&& (255 : Int32)) ∧ r = (1 : Int32)) ∨ (Ws (x0 &&& (255 : Int32)) ∧ Ws (x1 &&& (255 : Int32)) ∧ r = (2 : Int32)))
theorem rmNW_2 (l : Launch) (Z : State) (a0 : Array Value) (hw : ∀ d ∈ tables_1, d.before a0 Z = true) (ws : List Jvm.Cond) (vcs : Int32) (wI : Addr) (wA : Addr) (cA : Cell) (G : Gh Z vcs wI wA cA) (va : Addr) (ka : ClassId) (x0 : Int32) (x1 : Int32) (h0 : Heap) (n0 : Nat) (O0 : Old Z n0 h0) (VA : Arv Z h0 va ka .byte (2 : Int32) [(.int x0), (.int x1)] (.int (0 : Int32))) :
    MetFree l own_y4 (head1 (Jvm.Cond.code own_y4 jdk_43_method_37_code 4 (some .int) :: ws) ({ frames := 2, cells := 0, slots := 0, locals := 29 } : Room)) (fun aa' UU' => aa' = #[(.ref va)] ∧ Z.Warmed39 UU'.vm ∧ UU'.heap = h0) (fun _ _ _ _ _ => True) (fun _ UU' oo' VV' => ∃ v' L', oo' = .returned v' ∧ QrmNW_2 Z vcs wI wA cA va ka x0 x1 h0 n0 v' VV'.heap L' ∧ FrameEnd UU' oo' VV' L' ({ frames := 2, cells := 0, slots := 0, locals := 29 } : Room).cells ({ frames := 2, cells := 0, slots := 0, locals := 29 } : Room).slots) := by
  refine MetFree.of_bodySF (plainFor_of_name pn_13) hisR ?_
  intro p e s m args below meth c s₁ Bd hml0 hP hK
  obtain ⟨rfl, hZ, hh⟩ := hP
  have hml : c.maxLocals = 4 := hml0
  obtain ⟨hx, hby, hlk, hown, hnm, hret, X0, e0⟩ := own_hd Bd hh
  have N0 := Fr.nil n0
  refine Go.body ?_
  obtain ⟨Pf, hPf⟩ : ∃ P, P = Fin' s below ({ frames := 2, cells := 0, slots := 0, locals := 29 } : Room).cells ({ frames := 2, cells := 0, slots := 0, locals := 29 } : Room).slots (QrmNW_2 Z vcs wI wA cA va ka x0 x1 h0 n0) := ⟨_, rfl⟩
  rw [← hPf]
  refine Go.cast (ef_rmNW_2 m) ?_
  have hw58 := own_w hw 58 rfl
  have hw63 := own_w hw 63 rfl
  have hw64 := own_w hw 64 rfl
  have hw65 := own_w hw 65 rfl
  have hw66 := own_w hw 66 rfl
  have hw67 := own_w hw 67 rfl
  have hw68 := own_w hw 68 rfl
  have hw69 := own_w hw 69 rfl
  have hw70 := own_w hw 70 rfl
  have hw71 := own_w hw 71 rfl
  have hw72 := own_w hw 72 rfl
  show Go p.tables e below Pf (s₁.setTop (mkF m 0 #[vr va, .unset, .unset, .unset] []))
  refine Go.by' (fun t k => (XS.aloadN X0.here hx rfl (hb hby d13_0) rfl rfl (own_alen X0 hx hZ e0 VA rfl rfl (hb hby d13_1) (XS.istoreN X0.here hx rfl (hb hby d13_2) rfl (l' := #[vr va, vi (2 : Int32), .unset, .unset]) rfl (XS.iconst X0.here hx rfl (hb hby d13_3) (XS.istoreN X0.here hx rfl (hb hby d13_4) rfl (l' := #[vr va, vi (2 : Int32), vi (0 : Int32), .unset]) rfl k)))))) ?_
  show Go p.tables e below Pf (s₁.setTop (mkF m 5 #[vr va, vi (2 : Int32), vi (0 : Int32), .unset] []))
  have jnl2 : ∀ (T' : State) (w3 : Int32), Ws (x0 &&& (255 : Int32)) → Ws (x1 &&& (255 : Int32)) → Like X0 T' → T'.heap = h0 → Go p.tables e below Pf (T'.setTop (mkF m 5 #[vr va, vi (2 : Int32), vi (2 : Int32), vi w3] [])) := by
    intro T33 w3 hW0 hW1 X33 e33
    unfold Like at X33
    show Go p.tables e below Pf (T33.setTop (mkF m 5 #[vr va, vi (2 : Int32), vi (2 : Int32), vi w3] []))
    refine Go.by' (fun t k => (XS.iloadN X33.here hx rfl (hb hby d13_5) rfl (XS.iloadN X33.here hx rfl (hb hby d13_6) rfl (XS.icmpYes X33.here hx rfl (pc0 := 7) (pc' := 47) rfl (hb hby d13_7) rfl (flt (by decide)).2.1 (by decide) (by decide) (XS.iloadN X33.here hx rfl (hb hby d13_47) rfl k))))) ?_
    show Go p.tables e below Pf (T33.setTop (mkF m 48 #[vr va, vi (2 : Int32), vi (2 : Int32), vi w3] [(.int (2 : Int32))]))
    rw [hPf]
    exact Go.retI' X33 hx hret hlk (by simp) rfl (hb hby d13_48) (by decide) (by decide) ⟨(2 : Int32), rfl, rfl, e33, (Or.inr (Or.inr ⟨hW0, hW1, rfl⟩))⟩
  have jnl1 : ∀ (T' : State) (w3 : Int32), Ws (x0 &&& (255 : Int32)) → Like X0 T' → T'.heap = h0 → Go p.tables e below Pf (T'.setTop (mkF m 5 #[vr va, vi (2 : Int32), vi (1 : Int32), vi w3] [])) := by
    intro T34 w3 hW0 X34 e34
    unfold Like at X34
    show Go p.tables e below Pf (T34.setTop (mkF m 5 #[vr va, vi (2 : Int32), vi (1 : Int32), vi w3] []))
    refine Go.by' (fun t k => (XS.iloadN X34.here hx rfl (hb hby d13_5) rfl (XS.iloadN X34.here hx rfl (hb hby d13_6) rfl (XS.icmpNo X34.here hx rfl (hb hby d13_7) rfl (tlt (by decide)).2.1 (XS.aloadN X34.here hx rfl (hb hby d13_10) rfl rfl (XS.iloadN X34.here hx rfl (hb hby d13_11) rfl k)))))) ?_
    obtain ⟨_, _, ⟨T35, L35, k35, n35⟩, -, X35, ⟨Lc35, hQ35, l35, y35, z35⟩, st35⟩ := Jvm.LawKit.callS X34 hx (y := own_y3) hown (mvT hZ hw63) (mvT hZ hw64) (mvT hZ hw58) (mvT hZ hw65) (by decide) (backOf (W := 0) (rmGC l Z a0 hw [] vcs wI wA cA G va ((1 : Int32)) ka ((2 : Int32)) ([(Value.int x0), (Value.int x1)]) x1 h0 n0 O0 VA (by decide) (by decide) rfl) hZ hw65 hw58 (by decide) (by decide)) (g := (mkF m 12 #[vr va, vi (2 : Int32), vi (1 : Int32), vi w3] [(.int (1 : Int32)), (.ref va)])) rfl (by rw [hml]; rfl) (argsL := [(.ref va), (.int (1 : Int32))]) (rest := []) (lenOf pd_1 rfl) rfl (Nat.le_of_eq rfl) (hb hby d13_12) (fun _ _ => ⟨rfl, e34, (by decide : 0 + 0 ≤ _), (by decide : 0 + 0 ≤ _)⟩)
    dsimp only [Pt.U, Pt.locs, Pt.cells, Pt.slots] at X35 l35 y35 z35 st35 hQ35
    subst l35 y35 z35
    obtain ⟨rfl, rfl, e35⟩ := hQ35
    try replace X35 := own_nil X35
    refine Go.by' st35 ?_
    show Go p.tables e below Pf (T35.setTop (mkF m 15 #[vr va, vi (2 : Int32), vi (1 : Int32), vi w3] [(.int (x1 &&& (255 : Int32)))]))
    refine Go.by' (fun t k => (XS.istoreN X35.here hx rfl (hb hby d13_15) rfl (l' := #[vr va, vi (2 : Int32), vi (1 : Int32), vi (x1 &&& (255 : Int32))]) rfl (XS.iloadN X35.here hx rfl (hb hby d13_16) rfl (XS.bipush X35.here hx rfl (hb hby d13_17) k)))) ?_
    show Go p.tables e below Pf (T35.setTop (mkF m 19 #[vr va, vi (2 : Int32), vi (1 : Int32), vi (x1 &&& (255 : Int32))] [(.int (32 : Int32)), (.int (x1 &&& (255 : Int32)))]))
    by_cases hc36 : (x1 &&& (255 : Int32)) = (32 : Int32)
    · refine Go.by' (fun t k => (XS.icmpYes X35.here hx rfl (pc0 := 19) (pc' := 41) rfl (hb hby d13_19) rfl (teq hc36).1 (by decide) (by decide) (XS.iinc X35.here hx rfl (hb hby d13_41) rfl (l' := #[vr va, vi (2 : Int32), vi (2 : Int32), vi (x1 &&& (255 : Int32))]) rfl (XS.goto X35.here hx rfl (pc0 := 44) (pc' := 5) rfl (hb hby d13_44) (by decide) (by decide) k)))) ?_
      show Go p.tables e below Pf (T35.setTop (mkF m 5 #[vr va, vi (2 : Int32), vi (2 : Int32), vi (x1 &&& (255 : Int32))] []))
      exact jnl2 T35 ((x1 &&& (255 : Int32))) hW0 (own_w32 hc36) X35 e35
    · refine Go.by' (fun t k => (XS.icmpNo X35.here hx rfl (hb hby d13_19) rfl (feq hc36).1 (XS.iloadN X35.here hx rfl (hb hby d13_22) rfl (XS.bipush X35.here hx rfl (hb hby d13_23) k)))) ?_
      show Go p.tables e below Pf (T35.setTop (mkF m 25 #[vr va, vi (2 : Int32), vi (1 : Int32), vi (x1 &&& (255 : Int32))] [(.int (9 : Int32)), (.int (x1 &&& (255 : Int32)))]))
      by_cases hc37 : (x1 &&& (255 : Int32)) = (9 : Int32)
      · refine Go.by' (fun t k => (XS.icmpYes X35.here hx rfl (pc0 := 25) (pc' := 41) rfl (hb hby d13_25) rfl (teq hc37).1 (by decide) (by decide) (XS.iinc X35.here hx rfl (hb hby d13_41) rfl (l' := #[vr va, vi (2 : Int32), vi (2 : Int32), vi (x1 &&& (255 : Int32))]) rfl (XS.goto X35.here hx rfl (pc0 := 44) (pc' := 5) rfl (hb hby d13_44) (by decide) (by decide) k)))) ?_
        show Go p.tables e below Pf (T35.setTop (mkF m 5 #[vr va, vi (2 : Int32), vi (2 : Int32), vi (x1 &&& (255 : Int32))] []))
        exact jnl2 T35 ((x1 &&& (255 : Int32))) hW0 (own_w9 hc37) X35 e35
      · refine Go.by' (fun t k => (XS.icmpNo X35.here hx rfl (hb hby d13_25) rfl (feq hc37).1 k)) ?_
        obtain ⟨T38, X38, e38, st38⟩ := getS2 X35 hx hZ hown (host := "") (Or.inl hw66) Via.refl e35 (G.2.2.1.ext O0.2) (g := (mkF m 28 #[vr va, vi (2 : Int32), vi (1 : Int32), vi (x1 &&& (255 : Int32))] [])) rfl (hb hby d13_28)
        refine Go.by' st38 ?_
        show Go p.tables e below Pf (T38.setTop (mkF m 31 #[vr va, vi (2 : Int32), vi (1 : Int32), vi (x1 &&& (255 : Int32))] [(.ref wI)]))
        refine Go.by' (fun t k => (XS.iloadN X38.here hx rfl (hb hby d13_31) rfl k)) ?_
        obtain ⟨cq39, kq39, q39a, q39b, q39c⟩ := isOf hZ e38 (G.2.2.2.1.ext O0.2)
        obtain ⟨_, _, ⟨T39, L39, k39, n39⟩, -, X39, ⟨Lc39, hQ39, l39, y39, z39⟩, st39⟩ := X38.virtualBack hx (y := own_y1) (z := own_y1) hown (mvT hZ hw68) (mvT hZ hw69) (notFace_of_selects (args := #[]) (mvT hZ hw71)) (mvT hZ hw71) (mvT hZ hw70) (by decide) (backOf (W := 0) (rmIW l Z a0 hw [] vcs wI wA cA G ((x1 &&& (255 : Int32))) h0 n0 O0 (own_m _).1 (own_m _).2) hZ hw72 hw67 (by decide) (by decide)) q39a q39c (g := (mkF m 32 #[vr va, vi (2 : Int32), vi (1 : Int32), vi (x1 &&& (255 : Int32))] [(.int (x1 &&& (255 : Int32))), (.ref wI)])) rfl (by rw [hml]; rfl) (Steps.refl _) (argsL := [(.int (x1 &&& (255 : Int32)))]) (rest := []) (lenOf pd_2 rfl) rfl (Nat.le_of_eq rfl) (hb hby d13_32) (fun _ _ => ⟨rfl, e38, (by decide : 0 + 0 ≤ _), (by decide : 0 + 0 ≤ _)⟩)
        dsimp only [Pt.U, Pt.locs, Pt.cells, Pt.slots] at X39 l39 y39 z39 st39 hQ39
        subst l39 y39 z39
        obtain ⟨r_39, rfl, rfl, e39, r39_0⟩ := hQ39
        try replace X39 := own_nil X39
        refine Go.by' (fun t k => st39.trans k) ?_
        rcases r39_0 with ⟨hw39, hz39⟩ | ⟨hw39, hz39⟩
        · subst hz39
          show Go p.tables e below Pf (T39.setTop (mkF m 35 #[vr va, vi (2 : Int32), vi (1 : Int32), vi (x1 &&& (255 : Int32))] [(.int (1 : Int32))]))
          refine Go.by' (fun t k => (XS.ifYes X39.here hx rfl (pc0 := 35) (pc' := 41) rfl (hb hby d13_35) rfl ((if0 _ _).trans (feq (by decide)).2) (by decide) (by decide) (XS.iinc X39.here hx rfl (hb hby d13_41) rfl (l' := #[vr va, vi (2 : Int32), vi (2 : Int32), vi (x1 &&& (255 : Int32))]) rfl (XS.goto X39.here hx rfl (pc0 := 44) (pc' := 5) rfl (hb hby d13_44) (by decide) (by decide) k)))) ?_
          show Go p.tables e below Pf (T39.setTop (mkF m 5 #[vr va, vi (2 : Int32), vi (2 : Int32), vi (x1 &&& (255 : Int32))] []))
          exact jnl2 T39 ((x1 &&& (255 : Int32))) hW0 hw39 X39 e39
        · subst hz39
          show Go p.tables e below Pf (T39.setTop (mkF m 35 #[vr va, vi (2 : Int32), vi (1 : Int32), vi (x1 &&& (255 : Int32))] [(.int (0 : Int32))]))
          refine Go.by' (fun t k => (XS.ifNo X39.here hx rfl (hb hby d13_35) rfl ((if0 _ _).trans (teq (by decide)).2) (XS.goto X39.here hx rfl (pc0 := 38) (pc' := 47) rfl (hb hby d13_38) (by decide) (by decide) (XS.iloadN X39.here hx rfl (hb hby d13_47) rfl k)))) ?_
          show Go p.tables e below Pf (T39.setTop (mkF m 48 #[vr va, vi (2 : Int32), vi (1 : Int32), vi (x1 &&& (255 : Int32))] [(.int (1 : Int32))]))
          rw [hPf]
          exact Go.retI' X39 hx hret hlk (by simp) rfl (hb hby d13_48) (by decide) (by decide) ⟨(1 : Int32), rfl, rfl, e39, (Or.inr (Or.inl ⟨hW0, hw39, rfl⟩))⟩
  show Go p.tables e below Pf (s₁.setTop (mkF m 5 #[vr va, vi (2 : Int32), vi (0 : Int32), .unset] []))
  refine Go.by' (fun t k => (XS.iloadN X0.here hx rfl (hb hby d13_5) rfl (XS.iloadN X0.here hx rfl (hb hby d13_6) rfl (XS.icmpNo X0.here hx rfl (hb hby d13_7) rfl (tlt (by decide)).2.1 (XS.aloadN X0.here hx rfl (hb hby d13_10) rfl rfl (XS.iloadN X0.here hx rfl (hb hby d13_11) rfl k)))))) ?_
  obtain ⟨_, _, ⟨T40, L40, k40, n40⟩, -, X40, ⟨Lc40, hQ40, l40, y40, z40⟩, st40⟩ := Jvm.LawKit.callS X0 hx (y := own_y3) hown (mvT hZ hw63) (mvT hZ hw64) (mvT hZ hw58) (mvT hZ hw65) (by decide) (backOf (W := 0) (rmGC l Z a0 hw [] vcs wI wA cA G va ((0 : Int32)) ka ((2 : Int32)) ([(Value.int x0), (Value.int x1)]) x0 h0 n0 O0 VA (by decide) (by decide) rfl) hZ hw65 hw58 (by decide) (by decide)) (g := (mkF m 12 #[vr va, vi (2 : Int32), vi (0 : Int32), .unset] [(.int (0 : Int32)), (.ref va)])) rfl (by rw [hml]; rfl) (argsL := [(.ref va), (.int (0 : Int32))]) (rest := []) (lenOf pd_1 rfl) rfl (Nat.le_of_eq rfl) (hb hby d13_12) (fun _ _ => ⟨rfl, e0, (by decide : 0 + 0 ≤ _), (by decide : 0 + 0 ≤ _)⟩)
  dsimp only [Pt.U, Pt.locs, Pt.cells, Pt.slots] at X40 l40 y40 z40 st40 hQ40
  subst l40 y40 z40
  obtain ⟨rfl, rfl, e40⟩ := hQ40
  try replace X40 := own_nil X40
  refine Go.by' st40 ?_
  show Go p.tables e below Pf (T40.setTop (mkF m 15 #[vr va, vi (2 : Int32), vi (0 : Int32), .unset] [(.int (x0 &&& (255 : Int32)))]))
  refine Go.by' (fun t k => (XS.istoreN X40.here hx rfl (hb hby d13_15) rfl (l' := #[vr va, vi (2 : Int32), vi (0 : Int32), vi (x0 &&& (255 : Int32))]) rfl (XS.iloadN X40.here hx rfl (hb hby d13_16) rfl (XS.bipush X40.here hx rfl (hb hby d13_17) k)))) ?_
  show Go p.tables e below Pf (T40.setTop (mkF m 19 #[vr va, vi (2 : Int32), vi (0 : Int32), vi (x0 &&& (255 : Int32))] [(.int (32 : Int32)), (.int (x0 &&& (255 : Int32)))]))
  by_cases hc41 : (x0 &&& (255 : Int32)) = (32 : Int32)
  · refine Go.by' (fun t k => (XS.icmpYes X40.here hx rfl (pc0 := 19) (pc' := 41) rfl (hb hby d13_19) rfl (teq hc41).1 (by decide) (by decide) (XS.iinc X40.here hx rfl (hb hby d13_41) rfl (l' := #[vr va, vi (2 : Int32), vi (1 : Int32), vi (x0 &&& (255 : Int32))]) rfl (XS.goto X40.here hx rfl (pc0 := 44) (pc' := 5) rfl (hb hby d13_44) (by decide) (by decide) k)))) ?_
    show Go p.tables e below Pf (T40.setTop (mkF m 5 #[vr va, vi (2 : Int32), vi (1 : Int32), vi (x0 &&& (255 : Int32))] []))
    exact jnl1 T40 ((x0 &&& (255 : Int32))) (own_w32 hc41) X40 e40
  · refine Go.by' (fun t k => (XS.icmpNo X40.here hx rfl (hb hby d13_19) rfl (feq hc41).1 (XS.iloadN X40.here hx rfl (hb hby d13_22) rfl (XS.bipush X40.here hx rfl (hb hby d13_23) k)))) ?_
    show Go p.tables e below Pf (T40.setTop (mkF m 25 #[vr va, vi (2 : Int32), vi (0 : Int32), vi (x0 &&& (255 : Int32))] [(.int (9 : Int32)), (.int (x0 &&& (255 : Int32)))]))
    by_cases hc42 : (x0 &&& (255 : Int32)) = (9 : Int32)
    · refine Go.by' (fun t k => (XS.icmpYes X40.here hx rfl (pc0 := 25) (pc' := 41) rfl (hb hby d13_25) rfl (teq hc42).1 (by decide) (by decide) (XS.iinc X40.here hx rfl (hb hby d13_41) rfl (l' := #[vr va, vi (2 : Int32), vi (1 : Int32), vi (x0 &&& (255 : Int32))]) rfl (XS.goto X40.here hx rfl (pc0 := 44) (pc' := 5) rfl (hb hby d13_44) (by decide) (by decide) k)))) ?_
      show Go p.tables e below Pf (T40.setTop (mkF m 5 #[vr va, vi (2 : Int32), vi (1 : Int32), vi (x0 &&& (255 : Int32))] []))
      exact jnl1 T40 ((x0 &&& (255 : Int32))) (own_w9 hc42) X40 e40
    · refine Go.by' (fun t k => (XS.icmpNo X40.here hx rfl (hb hby d13_25) rfl (feq hc42).1 k)) ?_
      obtain ⟨T43, X43, e43, st43⟩ := getS2 X40 hx hZ hown (host := "") (Or.inl hw66) Via.refl e40 (G.2.2.1.ext O0.2) (g := (mkF m 28 #[vr va, vi (2 : Int32), vi (0 : Int32), vi (x0 &&& (255 : Int32))] [])) rfl (hb hby d13_28)
      refine Go.by' st43 ?_
      show Go p.tables e below Pf (T43.setTop (mkF m 31 #[vr va, vi (2 : Int32), vi (0 : Int32), vi (x0 &&& (255 : Int32))] [(.ref wI)]))
      refine Go.by' (fun t k => (XS.iloadN X43.here hx rfl (hb hby d13_31) rfl k)) ?_
      obtain ⟨cq44, kq44, q44a, q44b, q44c⟩ := isOf hZ e43 (G.2.2.2.1.ext O0.2)
      obtain ⟨_, _, ⟨T44, L44, k44, n44⟩, -, X44, ⟨Lc44, hQ44, l44, y44, z44⟩, st44⟩ := X43.virtualBack hx (y := own_y1) (z := own_y1) hown (mvT hZ hw68) (mvT hZ hw69) (notFace_of_selects (args := #[]) (mvT hZ hw71)) (mvT hZ hw71) (mvT hZ hw70) (by decide) (backOf (W := 0) (rmIW l Z a0 hw [] vcs wI wA cA G ((x0 &&& (255 : Int32))) h0 n0 O0 (own_m _).1 (own_m _).2) hZ hw72 hw67 (by decide) (by decide)) q44a q44c (g := (mkF m 32 #[vr va, vi (2 : Int32), vi (0 : Int32), vi (x0 &&& (255 : Int32))] [(.int (x0 &&& (255 : Int32))), (.ref wI)])) rfl (by rw [hml]; rfl) (Steps.refl _) (argsL := [(.int (x0 &&& (255 : Int32)))]) (rest := []) (lenOf pd_2 rfl) rfl (Nat.le_of_eq rfl) (hb hby d13_32) (fun _ _ => ⟨rfl, e43, (by decide : 0 + 0 ≤ _), (by decide : 0 + 0 ≤ _)⟩)
      dsimp only [Pt.U, Pt.locs, Pt.cells, Pt.slots] at X44 l44 y44 z44 st44 hQ44
      subst l44 y44 z44
      obtain ⟨r_44, rfl, rfl, e44, r44_0⟩ := hQ44
      try replace X44 := own_nil X44
      refine Go.by' (fun t k => st44.trans k) ?_
      rcases r44_0 with ⟨hw44, hz44⟩ | ⟨hw44, hz44⟩
      · subst hz44
        show Go p.tables e below Pf (T44.setTop (mkF m 35 #[vr va, vi (2 : Int32), vi (0 : Int32), vi (x0 &&& (255 : Int32))] [(.int (1 : Int32))]))
        refine Go.by' (fun t k => (XS.ifYes X44.here hx rfl (pc0 := 35) (pc' := 41) rfl (hb hby d13_35) rfl ((if0 _ _).trans (feq (by decide)).2) (by decide) (by decide) (XS.iinc X44.here hx rfl (hb hby d13_41) rfl (l' := #[vr va, vi (2 : Int32), vi (1 : Int32), vi (x0 &&& (255 : Int32))]) rfl (XS.goto X44.here hx rfl (pc0 := 44) (pc' := 5) rfl (hb hby d13_44) (by decide) (by decide) k)))) ?_
        show Go p.tables e below Pf (T44.setTop (mkF m 5 #[vr va, vi (2 : Int32), vi (1 : Int32), vi (x0 &&& (255 : Int32))] []))
        exact jnl1 T44 ((x0 &&& (255 : Int32))) hw44 X44 e44
      · subst hz44
        show Go p.tables e below Pf (T44.setTop (mkF m 35 #[vr va, vi (2 : Int32), vi (0 : Int32), vi (x0 &&& (255 : Int32))] [(.int (0 : Int32))]))
        refine Go.by' (fun t k => (XS.ifNo X44.here hx rfl (hb hby d13_35) rfl ((if0 _ _).trans (teq (by decide)).2) (XS.goto X44.here hx rfl (pc0 := 38) (pc' := 47) rfl (hb hby d13_38) (by decide) (by decide) (XS.iloadN X44.here hx rfl (hb hby d13_47) rfl k)))) ?_
        show Go p.tables e below Pf (T44.setTop (mkF m 48 #[vr va, vi (2 : Int32), vi (0 : Int32), vi (x0 &&& (255 : Int32))] [(.int (0 : Int32))]))
        rw [hPf]
        exact Go.retI' X44 hx hret hlk (by simp) rfl (hb hby d13_48) (by decide) (by decide) ⟨(0 : Int32), rfl, rfl, e44, (Or.inl ⟨hw44, rfl⟩)⟩
theorem ef_rmLW_2 (m : MethodId) {va : Addr} : entryFrame m #[(.ref va)] 4 = mkF m 0 #[vr va, .unset, .unset, .unset] [] := by first | (simp [entryFrame, mkF, argsToLocals, Value.category]; done) | rfl
def QrmLW_2 (Z : State) (vcs : Int32) (wI : Addr) (wA : Addr) (cA : Cell) (va : Addr) (ka : ClassId) (x0 : Int32) (x1 : Int32) (h0 : Heap) (n0 : Nat) (v : Option Value) (h : Heap) (L : List Loc) : Prop := ∃ (r : Int32), (v = some (.int r)) ∧ (L = []) ∧ (h = h0) ∧ ((Ws (x1 &&& (255 : Int32)) ∧ Ws (x0 &&& (255 : Int32)) ∧ r = (0 : Int32)) ∨ (Ws (x1 &&& (255 : Int32)) ∧ ¬ Ws (x0 &&& (255 : Int32)) ∧ r = (1 : Int32)) ∨ (¬ Ws (x1 &&& (255 : Int32)) ∧ r = (2 : Int32)))
theorem rmLW_2 (l : Launch) (Z : State) (a0 : Array Value) (hw : ∀ d ∈ tables_1, d.before a0 Z = true) (ws : List Jvm.Cond) (vcs : Int32) (wI : Addr) (wA : Addr) (cA : Cell) (G : Gh Z vcs wI wA cA) (va : Addr) (ka : ClassId) (x0 : Int32) (x1 : Int32) (h0 : Heap) (n0 : Nat) (O0 : Old Z n0 h0) (VA : Arv Z h0 va ka .byte (2 : Int32) [(.int x0), (.int x1)] (.int (0 : Int32))) :
    MetFree l own_y5 (head1 (Jvm.Cond.code own_y5 jdk_43_method_38_code 4 (some .int) :: ws) ({ frames := 2, cells := 0, slots := 0, locals := 29 } : Room)) (fun aa' UU' => aa' = #[(.ref va)] ∧ Z.Warmed39 UU'.vm ∧ UU'.heap = h0) (fun _ _ _ _ _ => True) (fun _ UU' oo' VV' => ∃ v' L', oo' = .returned v' ∧ QrmLW_2 Z vcs wI wA cA va ka x0 x1 h0 n0 v' VV'.heap L' ∧ FrameEnd UU' oo' VV' L' ({ frames := 2, cells := 0, slots := 0, locals := 29 } : Room).cells ({ frames := 2, cells := 0, slots := 0, locals := 29 } : Room).slots) := by
  refine MetFree.of_bodySF (plainFor_of_name pn_17) hisR ?_
  intro p e s m args below meth c s₁ Bd hml0 hP hK
  obtain ⟨rfl, hZ, hh⟩ := hP
  have hml : c.maxLocals = 4 := hml0
  obtain ⟨hx, hby, hlk, hown, hnm, hret, X0, e0⟩ := own_hd Bd hh
  have N0 := Fr.nil n0
  refine Go.body ?_
  obtain ⟨Pf, hPf⟩ : ∃ P, P = Fin' s below ({ frames := 2, cells := 0, slots := 0, locals := 29 } : Room).cells ({ frames := 2, cells := 0, slots := 0, locals := 29 } : Room).slots (QrmLW_2 Z vcs wI wA cA va ka x0 x1 h0 n0) := ⟨_, rfl⟩
  rw [← hPf]
  refine Go.cast (ef_rmLW_2 m) ?_
  have hw58 := own_w hw 58 rfl
  have hw63 := own_w hw 63 rfl
  have hw64 := own_w hw 64 rfl
  have hw65 := own_w hw 65 rfl
  have hw66 := own_w hw 66 rfl
  have hw67 := own_w hw 67 rfl
  have hw68 := own_w hw 68 rfl
  have hw69 := own_w hw 69 rfl
  have hw70 := own_w hw 70 rfl
  have hw71 := own_w hw 71 rfl
  have hw72 := own_w hw 72 rfl
  show Go p.tables e below Pf (s₁.setTop (mkF m 0 #[vr va, .unset, .unset, .unset] []))
  refine Go.by' (fun t k => (XS.aloadN X0.here hx rfl (hb hby d17_0) rfl rfl (own_alen X0 hx hZ e0 VA rfl rfl (hb hby d17_1) (XS.istoreN X0.here hx rfl (hb hby d17_2) rfl (l' := #[vr va, vi (2 : Int32), .unset, .unset]) rfl (XS.iloadN X0.here hx rfl (hb hby d17_3) rfl (XS.istoreN X0.here hx rfl (hb hby d17_4) rfl (l' := #[vr va, vi (2 : Int32), vi (2 : Int32), .unset]) rfl k)))))) ?_
  show Go p.tables e below Pf (s₁.setTop (mkF m 5 #[vr va, vi (2 : Int32), vi (2 : Int32), .unset] []))
  have jnl0 : ∀ (T' : State) (w3 : Int32), Ws (x1 &&& (255 : Int32)) → Ws (x0 &&& (255 : Int32)) → Like X0 T' → T'.heap = h0 → Go p.tables e below Pf (T'.setTop (mkF m 5 #[vr va, vi (2 : Int32), vi (0 : Int32), vi w3] [])) := by
    intro T46 w3 hW1 hW0 X46 e46
    unfold Like at X46
    show Go p.tables e below Pf (T46.setTop (mkF m 5 #[vr va, vi (2 : Int32), vi (0 : Int32), vi w3] []))
    refine Go.by' (fun t k => (XS.iconst X46.here hx rfl (hb hby d17_5) (XS.iloadN X46.here hx rfl (hb hby d17_6) rfl (XS.icmpYes X46.here hx rfl (pc0 := 7) (pc' := 49) rfl (hb hby d17_7) rfl (flt (by decide)).2.1 (by decide) (by decide) (XS.iloadN X46.here hx rfl (hb hby d17_49) rfl k))))) ?_
    show Go p.tables e below Pf (T46.setTop (mkF m 50 #[vr va, vi (2 : Int32), vi (0 : Int32), vi w3] [(.int (0 : Int32))]))
    rw [hPf]
    exact Go.retI' X46 hx hret hlk (by simp) rfl (hb hby d17_50) (by decide) (by decide) ⟨(0 : Int32), rfl, rfl, e46, (Or.inl ⟨hW1, hW0, rfl⟩)⟩
  have jnl1 : ∀ (T' : State) (w3 : Int32), Ws (x1 &&& (255 : Int32)) → Like X0 T' → T'.heap = h0 → Go p.tables e below Pf (T'.setTop (mkF m 5 #[vr va, vi (2 : Int32), vi (1 : Int32), vi w3] [])) := by
    intro T47 w3 hW1 X47 e47
    unfold Like at X47
    show Go p.tables e below Pf (T47.setTop (mkF m 5 #[vr va, vi (2 : Int32), vi (1 : Int32), vi w3] []))
    refine Go.by' (fun t k => (XS.iconst X47.here hx rfl (hb hby d17_5) (XS.iloadN X47.here hx rfl (hb hby d17_6) rfl (XS.icmpNo X47.here hx rfl (hb hby d17_7) rfl (tlt (by decide)).2.1 (XS.aloadN X47.here hx rfl (hb hby d17_10) rfl rfl (XS.iloadN X47.here hx rfl (hb hby d17_11) rfl (XS.iconst X47.here hx rfl (hb hby d17_12) (XS.isub X47.here hx rfl (hb hby d17_13) rfl k)))))))) ?_
    obtain ⟨_, _, ⟨T48, L48, k48, n48⟩, -, X48, ⟨Lc48, hQ48, l48, y48, z48⟩, st48⟩ := Jvm.LawKit.callS X47 hx (y := own_y3) hown (mvT hZ hw63) (mvT hZ hw64) (mvT hZ hw58) (mvT hZ hw65) (by decide) (backOf (W := 0) (rmGC l Z a0 hw [] vcs wI wA cA G va ((0 : Int32)) ka ((2 : Int32)) ([(Value.int x0), (Value.int x1)]) x0 h0 n0 O0 VA (by decide) (by decide) rfl) hZ hw65 hw58 (by decide) (by decide)) (g := (mkF m 14 #[vr va, vi (2 : Int32), vi (1 : Int32), vi w3] [(.int (0 : Int32)), (.ref va)])) rfl (by rw [hml]; rfl) (argsL := [(.ref va), (.int (0 : Int32))]) (rest := []) (lenOf pd_1 rfl) rfl (Nat.le_of_eq rfl) (hb hby d17_14) (fun _ _ => ⟨rfl, e47, (by decide : 0 + 0 ≤ _), (by decide : 0 + 0 ≤ _)⟩)
    dsimp only [Pt.U, Pt.locs, Pt.cells, Pt.slots] at X48 l48 y48 z48 st48 hQ48
    subst l48 y48 z48
    obtain ⟨rfl, rfl, e48⟩ := hQ48
    try replace X48 := own_nil X48
    refine Go.by' st48 ?_
    show Go p.tables e below Pf (T48.setTop (mkF m 17 #[vr va, vi (2 : Int32), vi (1 : Int32), vi w3] [(.int (x0 &&& (255 : Int32)))]))
    refine Go.by' (fun t k => (XS.istoreN X48.here hx rfl (hb hby d17_17) rfl (l' := #[vr va, vi (2 : Int32), vi (1 : Int32), vi (x0 &&& (255 : Int32))]) rfl (XS.iloadN X48.here hx rfl (hb hby d17_18) rfl (XS.bipush X48.here hx rfl (hb hby d17_19) k)))) ?_
    show Go p.tables e below Pf (T48.setTop (mkF m 21 #[vr va, vi (2 : Int32), vi (1 : Int32), vi (x0 &&& (255 : Int32))] [(.int (32 : Int32)), (.int (x0 &&& (255 : Int32)))]))
    by_cases hc49 : (x0 &&& (255 : Int32)) = (32 : Int32)
    · refine Go.by' (fun t k => (XS.icmpYes X48.here hx rfl (pc0 := 21) (pc' := 43) rfl (hb hby d17_21) rfl (teq hc49).1 (by decide) (by decide) (XS.iinc X48.here hx rfl (hb hby d17_43) rfl (l' := #[vr va, vi (2 : Int32), vi (0 : Int32), vi (x0 &&& (255 : Int32))]) rfl (XS.goto X48.here hx rfl (pc0 := 46) (pc' := 5) rfl (hb hby d17_46) (by decide) (by decide) k)))) ?_
      show Go p.tables e below Pf (T48.setTop (mkF m 5 #[vr va, vi (2 : Int32), vi (0 : Int32), vi (x0 &&& (255 : Int32))] []))
      exact jnl0 T48 ((x0 &&& (255 : Int32))) hW1 (own_w32 hc49) X48 e48
    · refine Go.by' (fun t k => (XS.icmpNo X48.here hx rfl (hb hby d17_21) rfl (feq hc49).1 (XS.iloadN X48.here hx rfl (hb hby d17_24) rfl (XS.bipush X48.here hx rfl (hb hby d17_25) k)))) ?_
      show Go p.tables e below Pf (T48.setTop (mkF m 27 #[vr va, vi (2 : Int32), vi (1 : Int32), vi (x0 &&& (255 : Int32))] [(.int (9 : Int32)), (.int (x0 &&& (255 : Int32)))]))
      by_cases hc50 : (x0 &&& (255 : Int32)) = (9 : Int32)
      · refine Go.by' (fun t k => (XS.icmpYes X48.here hx rfl (pc0 := 27) (pc' := 43) rfl (hb hby d17_27) rfl (teq hc50).1 (by decide) (by decide) (XS.iinc X48.here hx rfl (hb hby d17_43) rfl (l' := #[vr va, vi (2 : Int32), vi (0 : Int32), vi (x0 &&& (255 : Int32))]) rfl (XS.goto X48.here hx rfl (pc0 := 46) (pc' := 5) rfl (hb hby d17_46) (by decide) (by decide) k)))) ?_
        show Go p.tables e below Pf (T48.setTop (mkF m 5 #[vr va, vi (2 : Int32), vi (0 : Int32), vi (x0 &&& (255 : Int32))] []))
        exact jnl0 T48 ((x0 &&& (255 : Int32))) hW1 (own_w9 hc50) X48 e48
      · refine Go.by' (fun t k => (XS.icmpNo X48.here hx rfl (hb hby d17_27) rfl (feq hc50).1 k)) ?_
        obtain ⟨T51, X51, e51, st51⟩ := getS2 X48 hx hZ hown (host := "") (Or.inl hw66) Via.refl e48 (G.2.2.1.ext O0.2) (g := (mkF m 30 #[vr va, vi (2 : Int32), vi (1 : Int32), vi (x0 &&& (255 : Int32))] [])) rfl (hb hby d17_30)
        refine Go.by' st51 ?_
        show Go p.tables e below Pf (T51.setTop (mkF m 33 #[vr va, vi (2 : Int32), vi (1 : Int32), vi (x0 &&& (255 : Int32))] [(.ref wI)]))
        refine Go.by' (fun t k => (XS.iloadN X51.here hx rfl (hb hby d17_33) rfl k)) ?_
        obtain ⟨cq52, kq52, q52a, q52b, q52c⟩ := isOf hZ e51 (G.2.2.2.1.ext O0.2)
        obtain ⟨_, _, ⟨T52, L52, k52, n52⟩, -, X52, ⟨Lc52, hQ52, l52, y52, z52⟩, st52⟩ := X51.virtualBack hx (y := own_y1) (z := own_y1) hown (mvT hZ hw68) (mvT hZ hw69) (notFace_of_selects (args := #[]) (mvT hZ hw71)) (mvT hZ hw71) (mvT hZ hw70) (by decide) (backOf (W := 0) (rmIW l Z a0 hw [] vcs wI wA cA G ((x0 &&& (255 : Int32))) h0 n0 O0 (own_m _).1 (own_m _).2) hZ hw72 hw67 (by decide) (by decide)) q52a q52c (g := (mkF m 34 #[vr va, vi (2 : Int32), vi (1 : Int32), vi (x0 &&& (255 : Int32))] [(.int (x0 &&& (255 : Int32))), (.ref wI)])) rfl (by rw [hml]; rfl) (Steps.refl _) (argsL := [(.int (x0 &&& (255 : Int32)))]) (rest := []) (lenOf pd_2 rfl) rfl (Nat.le_of_eq rfl) (hb hby d17_34) (fun _ _ => ⟨rfl, e51, (by decide : 0 + 0 ≤ _), (by decide : 0 + 0 ≤ _)⟩)
        dsimp only [Pt.U, Pt.locs, Pt.cells, Pt.slots] at X52 l52 y52 z52 st52 hQ52
        subst l52 y52 z52
        obtain ⟨r_52, rfl, rfl, e52, r52_0⟩ := hQ52
        try replace X52 := own_nil X52
        refine Go.by' (fun t k => st52.trans k) ?_
        rcases r52_0 with ⟨hw52, hz52⟩ | ⟨hw52, hz52⟩
        · subst hz52
          show Go p.tables e below Pf (T52.setTop (mkF m 37 #[vr va, vi (2 : Int32), vi (1 : Int32), vi (x0 &&& (255 : Int32))] [(.int (1 : Int32))]))
          refine Go.by' (fun t k => (XS.ifYes X52.here hx rfl (pc0 := 37) (pc' := 43) rfl (hb hby d17_37) rfl ((if0 _ _).trans (feq (by decide)).2) (by decide) (by decide) (XS.iinc X52.here hx rfl (hb hby d17_43) rfl (l' := #[vr va, vi (2 : Int32), vi (0 : Int32), vi (x0 &&& (255 : Int32))]) rfl (XS.goto X52.here hx rfl (pc0 := 46) (pc' := 5) rfl (hb hby d17_46) (by decide) (by decide) k)))) ?_
          show Go p.tables e below Pf (T52.setTop (mkF m 5 #[vr va, vi (2 : Int32), vi (0 : Int32), vi (x0 &&& (255 : Int32))] []))
          exact jnl0 T52 ((x0 &&& (255 : Int32))) hW1 hw52 X52 e52
        · subst hz52
          show Go p.tables e below Pf (T52.setTop (mkF m 37 #[vr va, vi (2 : Int32), vi (1 : Int32), vi (x0 &&& (255 : Int32))] [(.int (0 : Int32))]))
          refine Go.by' (fun t k => (XS.ifNo X52.here hx rfl (hb hby d17_37) rfl ((if0 _ _).trans (teq (by decide)).2) (XS.goto X52.here hx rfl (pc0 := 40) (pc' := 49) rfl (hb hby d17_40) (by decide) (by decide) (XS.iloadN X52.here hx rfl (hb hby d17_49) rfl k)))) ?_
          show Go p.tables e below Pf (T52.setTop (mkF m 50 #[vr va, vi (2 : Int32), vi (1 : Int32), vi (x0 &&& (255 : Int32))] [(.int (1 : Int32))]))
          rw [hPf]
          exact Go.retI' X52 hx hret hlk (by simp) rfl (hb hby d17_50) (by decide) (by decide) ⟨(1 : Int32), rfl, rfl, e52, (Or.inr (Or.inl ⟨hW1, hw52, rfl⟩))⟩
  show Go p.tables e below Pf (s₁.setTop (mkF m 5 #[vr va, vi (2 : Int32), vi (2 : Int32), .unset] []))
  refine Go.by' (fun t k => (XS.iconst X0.here hx rfl (hb hby d17_5) (XS.iloadN X0.here hx rfl (hb hby d17_6) rfl (XS.icmpNo X0.here hx rfl (hb hby d17_7) rfl (tlt (by decide)).2.1 (XS.aloadN X0.here hx rfl (hb hby d17_10) rfl rfl (XS.iloadN X0.here hx rfl (hb hby d17_11) rfl (XS.iconst X0.here hx rfl (hb hby d17_12) (XS.isub X0.here hx rfl (hb hby d17_13) rfl k)))))))) ?_
  obtain ⟨_, _, ⟨T53, L53, k53, n53⟩, -, X53, ⟨Lc53, hQ53, l53, y53, z53⟩, st53⟩ := Jvm.LawKit.callS X0 hx (y := own_y3) hown (mvT hZ hw63) (mvT hZ hw64) (mvT hZ hw58) (mvT hZ hw65) (by decide) (backOf (W := 0) (rmGC l Z a0 hw [] vcs wI wA cA G va ((1 : Int32)) ka ((2 : Int32)) ([(Value.int x0), (Value.int x1)]) x1 h0 n0 O0 VA (by decide) (by decide) rfl) hZ hw65 hw58 (by decide) (by decide)) (g := (mkF m 14 #[vr va, vi (2 : Int32), vi (2 : Int32), .unset] [(.int (1 : Int32)), (.ref va)])) rfl (by rw [hml]; rfl) (argsL := [(.ref va), (.int (1 : Int32))]) (rest := []) (lenOf pd_1 rfl) rfl (Nat.le_of_eq rfl) (hb hby d17_14) (fun _ _ => ⟨rfl, e0, (by decide : 0 + 0 ≤ _), (by decide : 0 + 0 ≤ _)⟩)
  dsimp only [Pt.U, Pt.locs, Pt.cells, Pt.slots] at X53 l53 y53 z53 st53 hQ53
  subst l53 y53 z53
  obtain ⟨rfl, rfl, e53⟩ := hQ53
  try replace X53 := own_nil X53
  refine Go.by' st53 ?_
  show Go p.tables e below Pf (T53.setTop (mkF m 17 #[vr va, vi (2 : Int32), vi (2 : Int32), .unset] [(.int (x1 &&& (255 : Int32)))]))
  refine Go.by' (fun t k => (XS.istoreN X53.here hx rfl (hb hby d17_17) rfl (l' := #[vr va, vi (2 : Int32), vi (2 : Int32), vi (x1 &&& (255 : Int32))]) rfl (XS.iloadN X53.here hx rfl (hb hby d17_18) rfl (XS.bipush X53.here hx rfl (hb hby d17_19) k)))) ?_
  show Go p.tables e below Pf (T53.setTop (mkF m 21 #[vr va, vi (2 : Int32), vi (2 : Int32), vi (x1 &&& (255 : Int32))] [(.int (32 : Int32)), (.int (x1 &&& (255 : Int32)))]))
  by_cases hc54 : (x1 &&& (255 : Int32)) = (32 : Int32)
  · refine Go.by' (fun t k => (XS.icmpYes X53.here hx rfl (pc0 := 21) (pc' := 43) rfl (hb hby d17_21) rfl (teq hc54).1 (by decide) (by decide) (XS.iinc X53.here hx rfl (hb hby d17_43) rfl (l' := #[vr va, vi (2 : Int32), vi (1 : Int32), vi (x1 &&& (255 : Int32))]) rfl (XS.goto X53.here hx rfl (pc0 := 46) (pc' := 5) rfl (hb hby d17_46) (by decide) (by decide) k)))) ?_
    show Go p.tables e below Pf (T53.setTop (mkF m 5 #[vr va, vi (2 : Int32), vi (1 : Int32), vi (x1 &&& (255 : Int32))] []))
    exact jnl1 T53 ((x1 &&& (255 : Int32))) (own_w32 hc54) X53 e53
  · refine Go.by' (fun t k => (XS.icmpNo X53.here hx rfl (hb hby d17_21) rfl (feq hc54).1 (XS.iloadN X53.here hx rfl (hb hby d17_24) rfl (XS.bipush X53.here hx rfl (hb hby d17_25) k)))) ?_
    show Go p.tables e below Pf (T53.setTop (mkF m 27 #[vr va, vi (2 : Int32), vi (2 : Int32), vi (x1 &&& (255 : Int32))] [(.int (9 : Int32)), (.int (x1 &&& (255 : Int32)))]))
    by_cases hc55 : (x1 &&& (255 : Int32)) = (9 : Int32)
    · refine Go.by' (fun t k => (XS.icmpYes X53.here hx rfl (pc0 := 27) (pc' := 43) rfl (hb hby d17_27) rfl (teq hc55).1 (by decide) (by decide) (XS.iinc X53.here hx rfl (hb hby d17_43) rfl (l' := #[vr va, vi (2 : Int32), vi (1 : Int32), vi (x1 &&& (255 : Int32))]) rfl (XS.goto X53.here hx rfl (pc0 := 46) (pc' := 5) rfl (hb hby d17_46) (by decide) (by decide) k)))) ?_
      show Go p.tables e below Pf (T53.setTop (mkF m 5 #[vr va, vi (2 : Int32), vi (1 : Int32), vi (x1 &&& (255 : Int32))] []))
      exact jnl1 T53 ((x1 &&& (255 : Int32))) (own_w9 hc55) X53 e53
    · refine Go.by' (fun t k => (XS.icmpNo X53.here hx rfl (hb hby d17_27) rfl (feq hc55).1 k)) ?_
      obtain ⟨T56, X56, e56, st56⟩ := getS2 X53 hx hZ hown (host := "") (Or.inl hw66) Via.refl e53 (G.2.2.1.ext O0.2) (g := (mkF m 30 #[vr va, vi (2 : Int32), vi (2 : Int32), vi (x1 &&& (255 : Int32))] [])) rfl (hb hby d17_30)
      refine Go.by' st56 ?_
      show Go p.tables e below Pf (T56.setTop (mkF m 33 #[vr va, vi (2 : Int32), vi (2 : Int32), vi (x1 &&& (255 : Int32))] [(.ref wI)]))
      refine Go.by' (fun t k => (XS.iloadN X56.here hx rfl (hb hby d17_33) rfl k)) ?_
      obtain ⟨cq57, kq57, q57a, q57b, q57c⟩ := isOf hZ e56 (G.2.2.2.1.ext O0.2)
      obtain ⟨_, _, ⟨T57, L57, k57, n57⟩, -, X57, ⟨Lc57, hQ57, l57, y57, z57⟩, st57⟩ := X56.virtualBack hx (y := own_y1) (z := own_y1) hown (mvT hZ hw68) (mvT hZ hw69) (notFace_of_selects (args := #[]) (mvT hZ hw71)) (mvT hZ hw71) (mvT hZ hw70) (by decide) (backOf (W := 0) (rmIW l Z a0 hw [] vcs wI wA cA G ((x1 &&& (255 : Int32))) h0 n0 O0 (own_m _).1 (own_m _).2) hZ hw72 hw67 (by decide) (by decide)) q57a q57c (g := (mkF m 34 #[vr va, vi (2 : Int32), vi (2 : Int32), vi (x1 &&& (255 : Int32))] [(.int (x1 &&& (255 : Int32))), (.ref wI)])) rfl (by rw [hml]; rfl) (Steps.refl _) (argsL := [(.int (x1 &&& (255 : Int32)))]) (rest := []) (lenOf pd_2 rfl) rfl (Nat.le_of_eq rfl) (hb hby d17_34) (fun _ _ => ⟨rfl, e56, (by decide : 0 + 0 ≤ _), (by decide : 0 + 0 ≤ _)⟩)
      dsimp only [Pt.U, Pt.locs, Pt.cells, Pt.slots] at X57 l57 y57 z57 st57 hQ57
      subst l57 y57 z57
      obtain ⟨r_57, rfl, rfl, e57, r57_0⟩ := hQ57
      try replace X57 := own_nil X57
      refine Go.by' (fun t k => st57.trans k) ?_
      rcases r57_0 with ⟨hw57, hz57⟩ | ⟨hw57, hz57⟩
      · subst hz57
        show Go p.tables e below Pf (T57.setTop (mkF m 37 #[vr va, vi (2 : Int32), vi (2 : Int32), vi (x1 &&& (255 : Int32))] [(.int (1 : Int32))]))
        refine Go.by' (fun t k => (XS.ifYes X57.here hx rfl (pc0 := 37) (pc' := 43) rfl (hb hby d17_37) rfl ((if0 _ _).trans (feq (by decide)).2) (by decide) (by decide) (XS.iinc X57.here hx rfl (hb hby d17_43) rfl (l' := #[vr va, vi (2 : Int32), vi (1 : Int32), vi (x1 &&& (255 : Int32))]) rfl (XS.goto X57.here hx rfl (pc0 := 46) (pc' := 5) rfl (hb hby d17_46) (by decide) (by decide) k)))) ?_
        show Go p.tables e below Pf (T57.setTop (mkF m 5 #[vr va, vi (2 : Int32), vi (1 : Int32), vi (x1 &&& (255 : Int32))] []))
        exact jnl1 T57 ((x1 &&& (255 : Int32))) hw57 X57 e57
      · subst hz57
        show Go p.tables e below Pf (T57.setTop (mkF m 37 #[vr va, vi (2 : Int32), vi (2 : Int32), vi (x1 &&& (255 : Int32))] [(.int (0 : Int32))]))
        refine Go.by' (fun t k => (XS.ifNo X57.here hx rfl (hb hby d17_37) rfl ((if0 _ _).trans (teq (by decide)).2) (XS.goto X57.here hx rfl (pc0 := 40) (pc' := 49) rfl (hb hby d17_40) (by decide) (by decide) (XS.iloadN X57.here hx rfl (hb hby d17_49) rfl k)))) ?_
        show Go p.tables e below Pf (T57.setTop (mkF m 50 #[vr va, vi (2 : Int32), vi (2 : Int32), vi (x1 &&& (255 : Int32))] [(.int (2 : Int32))]))
        rw [hPf]
        exact Go.retI' X57 hx hret hlk (by simp) rfl (hb hby d17_50) (by decide) (by decide) ⟨(2 : Int32), rfl, rfl, e57, (Or.inr (Or.inr ⟨hw57, rfl⟩))⟩
theorem ef_rmNW_3 (m : MethodId) {va : Addr} : entryFrame m #[(.ref va)] 4 = mkF m 0 #[vr va, .unset, .unset, .unset] [] := by first | (simp [entryFrame, mkF, argsToLocals, Value.category]; done) | rfl
def QrmNW_3 (Z : State) (vcs : Int32) (wI : Addr) (wA : Addr) (cA : Cell) (va : Addr) (ka : ClassId) (x0 : Int32) (x1 : Int32) (x2 : Int32) (h0 : Heap) (n0 : Nat) (v : Option Value) (h : Heap) (L : List Loc) : Prop := ∃ (r : Int32), (v = some (.int r)) ∧ (L = []) ∧ (h = h0) ∧ ((¬ Ws (x0 &&& (255 : Int32)) ∧ r = (0 : Int32)) ∨ (Ws (x0 &&& (255 : Int32)) ∧ ¬ Ws (x1 &&& (255 : Int32)) ∧ r = (1 : Int32)) ∨ (Ws (x0 &&& (255 : Int32)) ∧ Ws (x1 &&& (255 : Int32)) ∧ ¬ Ws (x2 &&& (255 : Int32)) ∧ r = (2 : Int32)) ∨ (Ws (x0 &&& (255 : Int32)) ∧ Ws (x1 &&& (255 : Int32)) ∧ Ws (x2 &&& (255 : Int32)) ∧ r = (3 : Int32)))
theorem rmNW_3 (l : Launch) (Z : State) (a0 : Array Value) (hw : ∀ d ∈ tables_1, d.before a0 Z = true) (ws : List Jvm.Cond) (vcs : Int32) (wI : Addr) (wA : Addr) (cA : Cell) (G : Gh Z vcs wI wA cA) (va : Addr) (ka : ClassId) (x0 : Int32) (x1 : Int32) (x2 : Int32) (h0 : Heap) (n0 : Nat) (O0 : Old Z n0 h0) (VA : Arv Z h0 va ka .byte (3 : Int32) [(.int x0), (.int x1), (.int x2)] (.int (0 : Int32))) :
    MetFree l own_y4 (head1 (Jvm.Cond.code own_y4 jdk_43_method_37_code 4 (some .int) :: ws) ({ frames := 2, cells := 0, slots := 0, locals := 29 } : Room)) (fun aa' UU' => aa' = #[(.ref va)] ∧ Z.Warmed39 UU'.vm ∧ UU'.heap = h0) (fun _ _ _ _ _ => True) (fun _ UU' oo' VV' => ∃ v' L', oo' = .returned v' ∧ QrmNW_3 Z vcs wI wA cA va ka x0 x1 x2 h0 n0 v' VV'.heap L' ∧ FrameEnd UU' oo' VV' L' ({ frames := 2, cells := 0, slots := 0, locals := 29 } : Room).cells ({ frames := 2, cells := 0, slots := 0, locals := 29 } : Room).slots) := by
  refine MetFree.of_bodySF (plainFor_of_name pn_13) hisR ?_
  intro p e s m args below meth c s₁ Bd hml0 hP hK
  obtain ⟨rfl, hZ, hh⟩ := hP
  have hml : c.maxLocals = 4 := hml0
  obtain ⟨hx, hby, hlk, hown, hnm, hret, X0, e0⟩ := own_hd Bd hh
  have N0 := Fr.nil n0
  refine Go.body ?_
  obtain ⟨Pf, hPf⟩ : ∃ P, P = Fin' s below ({ frames := 2, cells := 0, slots := 0, locals := 29 } : Room).cells ({ frames := 2, cells := 0, slots := 0, locals := 29 } : Room).slots (QrmNW_3 Z vcs wI wA cA va ka x0 x1 x2 h0 n0) := ⟨_, rfl⟩
  rw [← hPf]
  refine Go.cast (ef_rmNW_3 m) ?_
  have hw58 := own_w hw 58 rfl
  have hw63 := own_w hw 63 rfl
  have hw64 := own_w hw 64 rfl
  have hw65 := own_w hw 65 rfl
  have hw66 := own_w hw 66 rfl
  have hw67 := own_w hw 67 rfl
  have hw68 := own_w hw 68 rfl
  have hw69 := own_w hw 69 rfl
  have hw70 := own_w hw 70 rfl
  have hw71 := own_w hw 71 rfl
  have hw72 := own_w hw 72 rfl
  show Go p.tables e below Pf (s₁.setTop (mkF m 0 #[vr va, .unset, .unset, .unset] []))
  refine Go.by' (fun t k => (XS.aloadN X0.here hx rfl (hb hby d13_0) rfl rfl (own_alen X0 hx hZ e0 VA rfl rfl (hb hby d13_1) (XS.istoreN X0.here hx rfl (hb hby d13_2) rfl (l' := #[vr va, vi (3 : Int32), .unset, .unset]) rfl (XS.iconst X0.here hx rfl (hb hby d13_3) (XS.istoreN X0.here hx rfl (hb hby d13_4) rfl (l' := #[vr va, vi (3 : Int32), vi (0 : Int32), .unset]) rfl k)))))) ?_
  show Go p.tables e below Pf (s₁.setTop (mkF m 5 #[vr va, vi (3 : Int32), vi (0 : Int32), .unset] []))
  have jnl3 : ∀ (T' : State) (w3 : Int32), Ws (x0 &&& (255 : Int32)) → Ws (x1 &&& (255 : Int32)) → Ws (x2 &&& (255 : Int32)) → Like X0 T' → T'.heap = h0 → Go p.tables e below Pf (T'.setTop (mkF m 5 #[vr va, vi (3 : Int32), vi (3 : Int32), vi w3] [])) := by
    intro T59 w3 hW0 hW1 hW2 X59 e59
    unfold Like at X59
    show Go p.tables e below Pf (T59.setTop (mkF m 5 #[vr va, vi (3 : Int32), vi (3 : Int32), vi w3] []))
    refine Go.by' (fun t k => (XS.iloadN X59.here hx rfl (hb hby d13_5) rfl (XS.iloadN X59.here hx rfl (hb hby d13_6) rfl (XS.icmpYes X59.here hx rfl (pc0 := 7) (pc' := 47) rfl (hb hby d13_7) rfl (flt (by decide)).2.1 (by decide) (by decide) (XS.iloadN X59.here hx rfl (hb hby d13_47) rfl k))))) ?_
    show Go p.tables e below Pf (T59.setTop (mkF m 48 #[vr va, vi (3 : Int32), vi (3 : Int32), vi w3] [(.int (3 : Int32))]))
    rw [hPf]
    exact Go.retI' X59 hx hret hlk (by simp) rfl (hb hby d13_48) (by decide) (by decide) ⟨(3 : Int32), rfl, rfl, e59, (Or.inr (Or.inr (Or.inr ⟨hW0, hW1, hW2, rfl⟩)))⟩
  have jnl2 : ∀ (T' : State) (w3 : Int32), Ws (x0 &&& (255 : Int32)) → Ws (x1 &&& (255 : Int32)) → Like X0 T' → T'.heap = h0 → Go p.tables e below Pf (T'.setTop (mkF m 5 #[vr va, vi (3 : Int32), vi (2 : Int32), vi w3] [])) := by
    intro T60 w3 hW0 hW1 X60 e60
    unfold Like at X60
    show Go p.tables e below Pf (T60.setTop (mkF m 5 #[vr va, vi (3 : Int32), vi (2 : Int32), vi w3] []))
    refine Go.by' (fun t k => (XS.iloadN X60.here hx rfl (hb hby d13_5) rfl (XS.iloadN X60.here hx rfl (hb hby d13_6) rfl (XS.icmpNo X60.here hx rfl (hb hby d13_7) rfl (tlt (by decide)).2.1 (XS.aloadN X60.here hx rfl (hb hby d13_10) rfl rfl (XS.iloadN X60.here hx rfl (hb hby d13_11) rfl k)))))) ?_
    obtain ⟨_, _, ⟨T61, L61, k61, n61⟩, -, X61, ⟨Lc61, hQ61, l61, y61, z61⟩, st61⟩ := Jvm.LawKit.callS X60 hx (y := own_y3) hown (mvT hZ hw63) (mvT hZ hw64) (mvT hZ hw58) (mvT hZ hw65) (by decide) (backOf (W := 0) (rmGC l Z a0 hw [] vcs wI wA cA G va ((2 : Int32)) ka ((3 : Int32)) ([(Value.int x0), (Value.int x1), (Value.int x2)]) x2 h0 n0 O0 VA (by decide) (by decide) rfl) hZ hw65 hw58 (by decide) (by decide)) (g := (mkF m 12 #[vr va, vi (3 : Int32), vi (2 : Int32), vi w3] [(.int (2 : Int32)), (.ref va)])) rfl (by rw [hml]; rfl) (argsL := [(.ref va), (.int (2 : Int32))]) (rest := []) (lenOf pd_1 rfl) rfl (Nat.le_of_eq rfl) (hb hby d13_12) (fun _ _ => ⟨rfl, e60, (by decide : 0 + 0 ≤ _), (by decide : 0 + 0 ≤ _)⟩)
    dsimp only [Pt.U, Pt.locs, Pt.cells, Pt.slots] at X61 l61 y61 z61 st61 hQ61
    subst l61 y61 z61
    obtain ⟨rfl, rfl, e61⟩ := hQ61
    try replace X61 := own_nil X61
    refine Go.by' st61 ?_
    show Go p.tables e below Pf (T61.setTop (mkF m 15 #[vr va, vi (3 : Int32), vi (2 : Int32), vi w3] [(.int (x2 &&& (255 : Int32)))]))
    refine Go.by' (fun t k => (XS.istoreN X61.here hx rfl (hb hby d13_15) rfl (l' := #[vr va, vi (3 : Int32), vi (2 : Int32), vi (x2 &&& (255 : Int32))]) rfl (XS.iloadN X61.here hx rfl (hb hby d13_16) rfl (XS.bipush X61.here hx rfl (hb hby d13_17) k)))) ?_
    show Go p.tables e below Pf (T61.setTop (mkF m 19 #[vr va, vi (3 : Int32), vi (2 : Int32), vi (x2 &&& (255 : Int32))] [(.int (32 : Int32)), (.int (x2 &&& (255 : Int32)))]))
    by_cases hc62 : (x2 &&& (255 : Int32)) = (32 : Int32)
    · refine Go.by' (fun t k => (XS.icmpYes X61.here hx rfl (pc0 := 19) (pc' := 41) rfl (hb hby d13_19) rfl (teq hc62).1 (by decide) (by decide) (XS.iinc X61.here hx rfl (hb hby d13_41) rfl (l' := #[vr va, vi (3 : Int32), vi (3 : Int32), vi (x2 &&& (255 : Int32))]) rfl (XS.goto X61.here hx rfl (pc0 := 44) (pc' := 5) rfl (hb hby d13_44) (by decide) (by decide) k)))) ?_
      show Go p.tables e below Pf (T61.setTop (mkF m 5 #[vr va, vi (3 : Int32), vi (3 : Int32), vi (x2 &&& (255 : Int32))] []))
      exact jnl3 T61 ((x2 &&& (255 : Int32))) hW0 hW1 (own_w32 hc62) X61 e61
    · refine Go.by' (fun t k => (XS.icmpNo X61.here hx rfl (hb hby d13_19) rfl (feq hc62).1 (XS.iloadN X61.here hx rfl (hb hby d13_22) rfl (XS.bipush X61.here hx rfl (hb hby d13_23) k)))) ?_
      show Go p.tables e below Pf (T61.setTop (mkF m 25 #[vr va, vi (3 : Int32), vi (2 : Int32), vi (x2 &&& (255 : Int32))] [(.int (9 : Int32)), (.int (x2 &&& (255 : Int32)))]))
      by_cases hc63 : (x2 &&& (255 : Int32)) = (9 : Int32)
      · refine Go.by' (fun t k => (XS.icmpYes X61.here hx rfl (pc0 := 25) (pc' := 41) rfl (hb hby d13_25) rfl (teq hc63).1 (by decide) (by decide) (XS.iinc X61.here hx rfl (hb hby d13_41) rfl (l' := #[vr va, vi (3 : Int32), vi (3 : Int32), vi (x2 &&& (255 : Int32))]) rfl (XS.goto X61.here hx rfl (pc0 := 44) (pc' := 5) rfl (hb hby d13_44) (by decide) (by decide) k)))) ?_
        show Go p.tables e below Pf (T61.setTop (mkF m 5 #[vr va, vi (3 : Int32), vi (3 : Int32), vi (x2 &&& (255 : Int32))] []))
        exact jnl3 T61 ((x2 &&& (255 : Int32))) hW0 hW1 (own_w9 hc63) X61 e61
      · refine Go.by' (fun t k => (XS.icmpNo X61.here hx rfl (hb hby d13_25) rfl (feq hc63).1 k)) ?_
        obtain ⟨T64, X64, e64, st64⟩ := getS2 X61 hx hZ hown (host := "") (Or.inl hw66) Via.refl e61 (G.2.2.1.ext O0.2) (g := (mkF m 28 #[vr va, vi (3 : Int32), vi (2 : Int32), vi (x2 &&& (255 : Int32))] [])) rfl (hb hby d13_28)
        refine Go.by' st64 ?_
        show Go p.tables e below Pf (T64.setTop (mkF m 31 #[vr va, vi (3 : Int32), vi (2 : Int32), vi (x2 &&& (255 : Int32))] [(.ref wI)]))
        refine Go.by' (fun t k => (XS.iloadN X64.here hx rfl (hb hby d13_31) rfl k)) ?_
        obtain ⟨cq65, kq65, q65a, q65b, q65c⟩ := isOf hZ e64 (G.2.2.2.1.ext O0.2)
        obtain ⟨_, _, ⟨T65, L65, k65, n65⟩, -, X65, ⟨Lc65, hQ65, l65, y65, z65⟩, st65⟩ := X64.virtualBack hx (y := own_y1) (z := own_y1) hown (mvT hZ hw68) (mvT hZ hw69) (notFace_of_selects (args := #[]) (mvT hZ hw71)) (mvT hZ hw71) (mvT hZ hw70) (by decide) (backOf (W := 0) (rmIW l Z a0 hw [] vcs wI wA cA G ((x2 &&& (255 : Int32))) h0 n0 O0 (own_m _).1 (own_m _).2) hZ hw72 hw67 (by decide) (by decide)) q65a q65c (g := (mkF m 32 #[vr va, vi (3 : Int32), vi (2 : Int32), vi (x2 &&& (255 : Int32))] [(.int (x2 &&& (255 : Int32))), (.ref wI)])) rfl (by rw [hml]; rfl) (Steps.refl _) (argsL := [(.int (x2 &&& (255 : Int32)))]) (rest := []) (lenOf pd_2 rfl) rfl (Nat.le_of_eq rfl) (hb hby d13_32) (fun _ _ => ⟨rfl, e64, (by decide : 0 + 0 ≤ _), (by decide : 0 + 0 ≤ _)⟩)
        dsimp only [Pt.U, Pt.locs, Pt.cells, Pt.slots] at X65 l65 y65 z65 st65 hQ65
        subst l65 y65 z65
        obtain ⟨r_65, rfl, rfl, e65, r65_0⟩ := hQ65
        try replace X65 := own_nil X65
        refine Go.by' (fun t k => st65.trans k) ?_
        rcases r65_0 with ⟨hw65, hz65⟩ | ⟨hw65, hz65⟩
        · subst hz65
          show Go p.tables e below Pf (T65.setTop (mkF m 35 #[vr va, vi (3 : Int32), vi (2 : Int32), vi (x2 &&& (255 : Int32))] [(.int (1 : Int32))]))
          refine Go.by' (fun t k => (XS.ifYes X65.here hx rfl (pc0 := 35) (pc' := 41) rfl (hb hby d13_35) rfl ((if0 _ _).trans (feq (by decide)).2) (by decide) (by decide) (XS.iinc X65.here hx rfl (hb hby d13_41) rfl (l' := #[vr va, vi (3 : Int32), vi (3 : Int32), vi (x2 &&& (255 : Int32))]) rfl (XS.goto X65.here hx rfl (pc0 := 44) (pc' := 5) rfl (hb hby d13_44) (by decide) (by decide) k)))) ?_
          show Go p.tables e below Pf (T65.setTop (mkF m 5 #[vr va, vi (3 : Int32), vi (3 : Int32), vi (x2 &&& (255 : Int32))] []))
          exact jnl3 T65 ((x2 &&& (255 : Int32))) hW0 hW1 hw65 X65 e65
        · subst hz65
          show Go p.tables e below Pf (T65.setTop (mkF m 35 #[vr va, vi (3 : Int32), vi (2 : Int32), vi (x2 &&& (255 : Int32))] [(.int (0 : Int32))]))
          refine Go.by' (fun t k => (XS.ifNo X65.here hx rfl (hb hby d13_35) rfl ((if0 _ _).trans (teq (by decide)).2) (XS.goto X65.here hx rfl (pc0 := 38) (pc' := 47) rfl (hb hby d13_38) (by decide) (by decide) (XS.iloadN X65.here hx rfl (hb hby d13_47) rfl k)))) ?_
          show Go p.tables e below Pf (T65.setTop (mkF m 48 #[vr va, vi (3 : Int32), vi (2 : Int32), vi (x2 &&& (255 : Int32))] [(.int (2 : Int32))]))
          rw [hPf]
          exact Go.retI' X65 hx hret hlk (by simp) rfl (hb hby d13_48) (by decide) (by decide) ⟨(2 : Int32), rfl, rfl, e65, (Or.inr (Or.inr (Or.inl ⟨hW0, hW1, hw65, rfl⟩)))⟩
  have jnl1 : ∀ (T' : State) (w3 : Int32), Ws (x0 &&& (255 : Int32)) → Like X0 T' → T'.heap = h0 → Go p.tables e below Pf (T'.setTop (mkF m 5 #[vr va, vi (3 : Int32), vi (1 : Int32), vi w3] [])) := by
    intro T66 w3 hW0 X66 e66
    unfold Like at X66
    show Go p.tables e below Pf (T66.setTop (mkF m 5 #[vr va, vi (3 : Int32), vi (1 : Int32), vi w3] []))
    refine Go.by' (fun t k => (XS.iloadN X66.here hx rfl (hb hby d13_5) rfl (XS.iloadN X66.here hx rfl (hb hby d13_6) rfl (XS.icmpNo X66.here hx rfl (hb hby d13_7) rfl (tlt (by decide)).2.1 (XS.aloadN X66.here hx rfl (hb hby d13_10) rfl rfl (XS.iloadN X66.here hx rfl (hb hby d13_11) rfl k)))))) ?_
    obtain ⟨_, _, ⟨T67, L67, k67, n67⟩, -, X67, ⟨Lc67, hQ67, l67, y67, z67⟩, st67⟩ := Jvm.LawKit.callS X66 hx (y := own_y3) hown (mvT hZ hw63) (mvT hZ hw64) (mvT hZ hw58) (mvT hZ hw65) (by decide) (backOf (W := 0) (rmGC l Z a0 hw [] vcs wI wA cA G va ((1 : Int32)) ka ((3 : Int32)) ([(Value.int x0), (Value.int x1), (Value.int x2)]) x1 h0 n0 O0 VA (by decide) (by decide) rfl) hZ hw65 hw58 (by decide) (by decide)) (g := (mkF m 12 #[vr va, vi (3 : Int32), vi (1 : Int32), vi w3] [(.int (1 : Int32)), (.ref va)])) rfl (by rw [hml]; rfl) (argsL := [(.ref va), (.int (1 : Int32))]) (rest := []) (lenOf pd_1 rfl) rfl (Nat.le_of_eq rfl) (hb hby d13_12) (fun _ _ => ⟨rfl, e66, (by decide : 0 + 0 ≤ _), (by decide : 0 + 0 ≤ _)⟩)
    dsimp only [Pt.U, Pt.locs, Pt.cells, Pt.slots] at X67 l67 y67 z67 st67 hQ67
    subst l67 y67 z67
    obtain ⟨rfl, rfl, e67⟩ := hQ67
    try replace X67 := own_nil X67
    refine Go.by' st67 ?_
    show Go p.tables e below Pf (T67.setTop (mkF m 15 #[vr va, vi (3 : Int32), vi (1 : Int32), vi w3] [(.int (x1 &&& (255 : Int32)))]))
    refine Go.by' (fun t k => (XS.istoreN X67.here hx rfl (hb hby d13_15) rfl (l' := #[vr va, vi (3 : Int32), vi (1 : Int32), vi (x1 &&& (255 : Int32))]) rfl (XS.iloadN X67.here hx rfl (hb hby d13_16) rfl (XS.bipush X67.here hx rfl (hb hby d13_17) k)))) ?_
    show Go p.tables e below Pf (T67.setTop (mkF m 19 #[vr va, vi (3 : Int32), vi (1 : Int32), vi (x1 &&& (255 : Int32))] [(.int (32 : Int32)), (.int (x1 &&& (255 : Int32)))]))
    by_cases hc68 : (x1 &&& (255 : Int32)) = (32 : Int32)
    · refine Go.by' (fun t k => (XS.icmpYes X67.here hx rfl (pc0 := 19) (pc' := 41) rfl (hb hby d13_19) rfl (teq hc68).1 (by decide) (by decide) (XS.iinc X67.here hx rfl (hb hby d13_41) rfl (l' := #[vr va, vi (3 : Int32), vi (2 : Int32), vi (x1 &&& (255 : Int32))]) rfl (XS.goto X67.here hx rfl (pc0 := 44) (pc' := 5) rfl (hb hby d13_44) (by decide) (by decide) k)))) ?_
      show Go p.tables e below Pf (T67.setTop (mkF m 5 #[vr va, vi (3 : Int32), vi (2 : Int32), vi (x1 &&& (255 : Int32))] []))
      exact jnl2 T67 ((x1 &&& (255 : Int32))) hW0 (own_w32 hc68) X67 e67
    · refine Go.by' (fun t k => (XS.icmpNo X67.here hx rfl (hb hby d13_19) rfl (feq hc68).1 (XS.iloadN X67.here hx rfl (hb hby d13_22) rfl (XS.bipush X67.here hx rfl (hb hby d13_23) k)))) ?_
      show Go p.tables e below Pf (T67.setTop (mkF m 25 #[vr va, vi (3 : Int32), vi (1 : Int32), vi (x1 &&& (255 : Int32))] [(.int (9 : Int32)), (.int (x1 &&& (255 : Int32)))]))
      by_cases hc69 : (x1 &&& (255 : Int32)) = (9 : Int32)
      · refine Go.by' (fun t k => (XS.icmpYes X67.here hx rfl (pc0 := 25) (pc' := 41) rfl (hb hby d13_25) rfl (teq hc69).1 (by decide) (by decide) (XS.iinc X67.here hx rfl (hb hby d13_41) rfl (l' := #[vr va, vi (3 : Int32), vi (2 : Int32), vi (x1 &&& (255 : Int32))]) rfl (XS.goto X67.here hx rfl (pc0 := 44) (pc' := 5) rfl (hb hby d13_44) (by decide) (by decide) k)))) ?_
        show Go p.tables e below Pf (T67.setTop (mkF m 5 #[vr va, vi (3 : Int32), vi (2 : Int32), vi (x1 &&& (255 : Int32))] []))
        exact jnl2 T67 ((x1 &&& (255 : Int32))) hW0 (own_w9 hc69) X67 e67
      · refine Go.by' (fun t k => (XS.icmpNo X67.here hx rfl (hb hby d13_25) rfl (feq hc69).1 k)) ?_
        obtain ⟨T70, X70, e70, st70⟩ := getS2 X67 hx hZ hown (host := "") (Or.inl hw66) Via.refl e67 (G.2.2.1.ext O0.2) (g := (mkF m 28 #[vr va, vi (3 : Int32), vi (1 : Int32), vi (x1 &&& (255 : Int32))] [])) rfl (hb hby d13_28)
        refine Go.by' st70 ?_
        show Go p.tables e below Pf (T70.setTop (mkF m 31 #[vr va, vi (3 : Int32), vi (1 : Int32), vi (x1 &&& (255 : Int32))] [(.ref wI)]))
        refine Go.by' (fun t k => (XS.iloadN X70.here hx rfl (hb hby d13_31) rfl k)) ?_
        obtain ⟨cq71, kq71, q71a, q71b, q71c⟩ := isOf hZ e70 (G.2.2.2.1.ext O0.2)
        obtain ⟨_, _, ⟨T71, L71, k71, n71⟩, -, X71, ⟨Lc71, hQ71, l71, y71, z71⟩, st71⟩ := X70.virtualBack hx (y := own_y1) (z := own_y1) hown (mvT hZ hw68) (mvT hZ hw69) (notFace_of_selects (args := #[]) (mvT hZ hw71)) (mvT hZ hw71) (mvT hZ hw70) (by decide) (backOf (W := 0) (rmIW l Z a0 hw [] vcs wI wA cA G ((x1 &&& (255 : Int32))) h0 n0 O0 (own_m _).1 (own_m _).2) hZ hw72 hw67 (by decide) (by decide)) q71a q71c (g := (mkF m 32 #[vr va, vi (3 : Int32), vi (1 : Int32), vi (x1 &&& (255 : Int32))] [(.int (x1 &&& (255 : Int32))), (.ref wI)])) rfl (by rw [hml]; rfl) (Steps.refl _) (argsL := [(.int (x1 &&& (255 : Int32)))]) (rest := []) (lenOf pd_2 rfl) rfl (Nat.le_of_eq rfl) (hb hby d13_32) (fun _ _ => ⟨rfl, e70, (by decide : 0 + 0 ≤ _), (by decide : 0 + 0 ≤ _)⟩)
        dsimp only [Pt.U, Pt.locs, Pt.cells, Pt.slots] at X71 l71 y71 z71 st71 hQ71
        subst l71 y71 z71
        obtain ⟨r_71, rfl, rfl, e71, r71_0⟩ := hQ71
        try replace X71 := own_nil X71
        refine Go.by' (fun t k => st71.trans k) ?_
        rcases r71_0 with ⟨hw71, hz71⟩ | ⟨hw71, hz71⟩
        · subst hz71
          show Go p.tables e below Pf (T71.setTop (mkF m 35 #[vr va, vi (3 : Int32), vi (1 : Int32), vi (x1 &&& (255 : Int32))] [(.int (1 : Int32))]))
          refine Go.by' (fun t k => (XS.ifYes X71.here hx rfl (pc0 := 35) (pc' := 41) rfl (hb hby d13_35) rfl ((if0 _ _).trans (feq (by decide)).2) (by decide) (by decide) (XS.iinc X71.here hx rfl (hb hby d13_41) rfl (l' := #[vr va, vi (3 : Int32), vi (2 : Int32), vi (x1 &&& (255 : Int32))]) rfl (XS.goto X71.here hx rfl (pc0 := 44) (pc' := 5) rfl (hb hby d13_44) (by decide) (by decide) k)))) ?_
          show Go p.tables e below Pf (T71.setTop (mkF m 5 #[vr va, vi (3 : Int32), vi (2 : Int32), vi (x1 &&& (255 : Int32))] []))
          exact jnl2 T71 ((x1 &&& (255 : Int32))) hW0 hw71 X71 e71
        · subst hz71
          show Go p.tables e below Pf (T71.setTop (mkF m 35 #[vr va, vi (3 : Int32), vi (1 : Int32), vi (x1 &&& (255 : Int32))] [(.int (0 : Int32))]))
          refine Go.by' (fun t k => (XS.ifNo X71.here hx rfl (hb hby d13_35) rfl ((if0 _ _).trans (teq (by decide)).2) (XS.goto X71.here hx rfl (pc0 := 38) (pc' := 47) rfl (hb hby d13_38) (by decide) (by decide) (XS.iloadN X71.here hx rfl (hb hby d13_47) rfl k)))) ?_
          show Go p.tables e below Pf (T71.setTop (mkF m 48 #[vr va, vi (3 : Int32), vi (1 : Int32), vi (x1 &&& (255 : Int32))] [(.int (1 : Int32))]))
          rw [hPf]
          exact Go.retI' X71 hx hret hlk (by simp) rfl (hb hby d13_48) (by decide) (by decide) ⟨(1 : Int32), rfl, rfl, e71, (Or.inr (Or.inl ⟨hW0, hw71, rfl⟩))⟩
  show Go p.tables e below Pf (s₁.setTop (mkF m 5 #[vr va, vi (3 : Int32), vi (0 : Int32), .unset] []))
  refine Go.by' (fun t k => (XS.iloadN X0.here hx rfl (hb hby d13_5) rfl (XS.iloadN X0.here hx rfl (hb hby d13_6) rfl (XS.icmpNo X0.here hx rfl (hb hby d13_7) rfl (tlt (by decide)).2.1 (XS.aloadN X0.here hx rfl (hb hby d13_10) rfl rfl (XS.iloadN X0.here hx rfl (hb hby d13_11) rfl k)))))) ?_
  obtain ⟨_, _, ⟨T72, L72, k72, n72⟩, -, X72, ⟨Lc72, hQ72, l72, y72, z72⟩, st72⟩ := Jvm.LawKit.callS X0 hx (y := own_y3) hown (mvT hZ hw63) (mvT hZ hw64) (mvT hZ hw58) (mvT hZ hw65) (by decide) (backOf (W := 0) (rmGC l Z a0 hw [] vcs wI wA cA G va ((0 : Int32)) ka ((3 : Int32)) ([(Value.int x0), (Value.int x1), (Value.int x2)]) x0 h0 n0 O0 VA (by decide) (by decide) rfl) hZ hw65 hw58 (by decide) (by decide)) (g := (mkF m 12 #[vr va, vi (3 : Int32), vi (0 : Int32), .unset] [(.int (0 : Int32)), (.ref va)])) rfl (by rw [hml]; rfl) (argsL := [(.ref va), (.int (0 : Int32))]) (rest := []) (lenOf pd_1 rfl) rfl (Nat.le_of_eq rfl) (hb hby d13_12) (fun _ _ => ⟨rfl, e0, (by decide : 0 + 0 ≤ _), (by decide : 0 + 0 ≤ _)⟩)
  dsimp only [Pt.U, Pt.locs, Pt.cells, Pt.slots] at X72 l72 y72 z72 st72 hQ72
  subst l72 y72 z72
  obtain ⟨rfl, rfl, e72⟩ := hQ72
  try replace X72 := own_nil X72
  refine Go.by' st72 ?_
  show Go p.tables e below Pf (T72.setTop (mkF m 15 #[vr va, vi (3 : Int32), vi (0 : Int32), .unset] [(.int (x0 &&& (255 : Int32)))]))
  refine Go.by' (fun t k => (XS.istoreN X72.here hx rfl (hb hby d13_15) rfl (l' := #[vr va, vi (3 : Int32), vi (0 : Int32), vi (x0 &&& (255 : Int32))]) rfl (XS.iloadN X72.here hx rfl (hb hby d13_16) rfl (XS.bipush X72.here hx rfl (hb hby d13_17) k)))) ?_
  show Go p.tables e below Pf (T72.setTop (mkF m 19 #[vr va, vi (3 : Int32), vi (0 : Int32), vi (x0 &&& (255 : Int32))] [(.int (32 : Int32)), (.int (x0 &&& (255 : Int32)))]))
  by_cases hc73 : (x0 &&& (255 : Int32)) = (32 : Int32)
  · refine Go.by' (fun t k => (XS.icmpYes X72.here hx rfl (pc0 := 19) (pc' := 41) rfl (hb hby d13_19) rfl (teq hc73).1 (by decide) (by decide) (XS.iinc X72.here hx rfl (hb hby d13_41) rfl (l' := #[vr va, vi (3 : Int32), vi (1 : Int32), vi (x0 &&& (255 : Int32))]) rfl (XS.goto X72.here hx rfl (pc0 := 44) (pc' := 5) rfl (hb hby d13_44) (by decide) (by decide) k)))) ?_
    show Go p.tables e below Pf (T72.setTop (mkF m 5 #[vr va, vi (3 : Int32), vi (1 : Int32), vi (x0 &&& (255 : Int32))] []))
    exact jnl1 T72 ((x0 &&& (255 : Int32))) (own_w32 hc73) X72 e72
  · refine Go.by' (fun t k => (XS.icmpNo X72.here hx rfl (hb hby d13_19) rfl (feq hc73).1 (XS.iloadN X72.here hx rfl (hb hby d13_22) rfl (XS.bipush X72.here hx rfl (hb hby d13_23) k)))) ?_
    show Go p.tables e below Pf (T72.setTop (mkF m 25 #[vr va, vi (3 : Int32), vi (0 : Int32), vi (x0 &&& (255 : Int32))] [(.int (9 : Int32)), (.int (x0 &&& (255 : Int32)))]))
    by_cases hc74 : (x0 &&& (255 : Int32)) = (9 : Int32)
    · refine Go.by' (fun t k => (XS.icmpYes X72.here hx rfl (pc0 := 25) (pc' := 41) rfl (hb hby d13_25) rfl (teq hc74).1 (by decide) (by decide) (XS.iinc X72.here hx rfl (hb hby d13_41) rfl (l' := #[vr va, vi (3 : Int32), vi (1 : Int32), vi (x0 &&& (255 : Int32))]) rfl (XS.goto X72.here hx rfl (pc0 := 44) (pc' := 5) rfl (hb hby d13_44) (by decide) (by decide) k)))) ?_
      show Go p.tables e below Pf (T72.setTop (mkF m 5 #[vr va, vi (3 : Int32), vi (1 : Int32), vi (x0 &&& (255 : Int32))] []))
      exact jnl1 T72 ((x0 &&& (255 : Int32))) (own_w9 hc74) X72 e72
    · refine Go.by' (fun t k => (XS.icmpNo X72.here hx rfl (hb hby d13_25) rfl (feq hc74).1 k)) ?_
      obtain ⟨T75, X75, e75, st75⟩ := getS2 X72 hx hZ hown (host := "") (Or.inl hw66) Via.refl e72 (G.2.2.1.ext O0.2) (g := (mkF m 28 #[vr va, vi (3 : Int32), vi (0 : Int32), vi (x0 &&& (255 : Int32))] [])) rfl (hb hby d13_28)
      refine Go.by' st75 ?_
      show Go p.tables e below Pf (T75.setTop (mkF m 31 #[vr va, vi (3 : Int32), vi (0 : Int32), vi (x0 &&& (255 : Int32))] [(.ref wI)]))
      refine Go.by' (fun t k => (XS.iloadN X75.here hx rfl (hb hby d13_31) rfl k)) ?_
      obtain ⟨cq76, kq76, q76a, q76b, q76c⟩ := isOf hZ e75 (G.2.2.2.1.ext O0.2)
      obtain ⟨_, _, ⟨T76, L76, k76, n76⟩, -, X76, ⟨Lc76, hQ76, l76, y76, z76⟩, st76⟩ := X75.virtualBack hx (y := own_y1) (z := own_y1) hown (mvT hZ hw68) (mvT hZ hw69) (notFace_of_selects (args := #[]) (mvT hZ hw71)) (mvT hZ hw71) (mvT hZ hw70) (by decide) (backOf (W := 0) (rmIW l Z a0 hw [] vcs wI wA cA G ((x0 &&& (255 : Int32))) h0 n0 O0 (own_m _).1 (own_m _).2) hZ hw72 hw67 (by decide) (by decide)) q76a q76c (g := (mkF m 32 #[vr va, vi (3 : Int32), vi (0 : Int32), vi (x0 &&& (255 : Int32))] [(.int (x0 &&& (255 : Int32))), (.ref wI)])) rfl (by rw [hml]; rfl) (Steps.refl _) (argsL := [(.int (x0 &&& (255 : Int32)))]) (rest := []) (lenOf pd_2 rfl) rfl (Nat.le_of_eq rfl) (hb hby d13_32) (fun _ _ => ⟨rfl, e75, (by decide : 0 + 0 ≤ _), (by decide : 0 + 0 ≤ _)⟩)
      dsimp only [Pt.U, Pt.locs, Pt.cells, Pt.slots] at X76 l76 y76 z76 st76 hQ76
      subst l76 y76 z76
      obtain ⟨r_76, rfl, rfl, e76, r76_0⟩ := hQ76
      try replace X76 := own_nil X76
      refine Go.by' (fun t k => st76.trans k) ?_
      rcases r76_0 with ⟨hw76, hz76⟩ | ⟨hw76, hz76⟩
      · subst hz76
        show Go p.tables e below Pf (T76.setTop (mkF m 35 #[vr va, vi (3 : Int32), vi (0 : Int32), vi (x0 &&& (255 : Int32))] [(.int (1 : Int32))]))
        refine Go.by' (fun t k => (XS.ifYes X76.here hx rfl (pc0 := 35) (pc' := 41) rfl (hb hby d13_35) rfl ((if0 _ _).trans (feq (by decide)).2) (by decide) (by decide) (XS.iinc X76.here hx rfl (hb hby d13_41) rfl (l' := #[vr va, vi (3 : Int32), vi (1 : Int32), vi (x0 &&& (255 : Int32))]) rfl (XS.goto X76.here hx rfl (pc0 := 44) (pc' := 5) rfl (hb hby d13_44) (by decide) (by decide) k)))) ?_
        show Go p.tables e below Pf (T76.setTop (mkF m 5 #[vr va, vi (3 : Int32), vi (1 : Int32), vi (x0 &&& (255 : Int32))] []))
        exact jnl1 T76 ((x0 &&& (255 : Int32))) hw76 X76 e76
      · subst hz76
        show Go p.tables e below Pf (T76.setTop (mkF m 35 #[vr va, vi (3 : Int32), vi (0 : Int32), vi (x0 &&& (255 : Int32))] [(.int (0 : Int32))]))
        refine Go.by' (fun t k => (XS.ifNo X76.here hx rfl (hb hby d13_35) rfl ((if0 _ _).trans (teq (by decide)).2) (XS.goto X76.here hx rfl (pc0 := 38) (pc' := 47) rfl (hb hby d13_38) (by decide) (by decide) (XS.iloadN X76.here hx rfl (hb hby d13_47) rfl k)))) ?_
        show Go p.tables e below Pf (T76.setTop (mkF m 48 #[vr va, vi (3 : Int32), vi (0 : Int32), vi (x0 &&& (255 : Int32))] [(.int (0 : Int32))]))
        rw [hPf]
        exact Go.retI' X76 hx hret hlk (by simp) rfl (hb hby d13_48) (by decide) (by decide) ⟨(0 : Int32), rfl, rfl, e76, (Or.inl ⟨hw76, rfl⟩)⟩
theorem ef_rmLW_3 (m : MethodId) {va : Addr} : entryFrame m #[(.ref va)] 4 = mkF m 0 #[vr va, .unset, .unset, .unset] [] := by first | (simp [entryFrame, mkF, argsToLocals, Value.category]; done) | rfl
def QrmLW_3 (Z : State) (vcs : Int32) (wI : Addr) (wA : Addr) (cA : Cell) (va : Addr) (ka : ClassId) (x0 : Int32) (x1 : Int32) (x2 : Int32) (h0 : Heap) (n0 : Nat) (v : Option Value) (h : Heap) (L : List Loc) : Prop := ∃ (r : Int32), (v = some (.int r)) ∧ (L = []) ∧ (h = h0) ∧ ((Ws (x2 &&& (255 : Int32)) ∧ Ws (x1 &&& (255 : Int32)) ∧ Ws (x0 &&& (255 : Int32)) ∧ r = (0 : Int32)) ∨ (Ws (x2 &&& (255 : Int32)) ∧ Ws (x1 &&& (255 : Int32)) ∧ ¬ Ws (x0 &&& (255 : Int32)) ∧ r = (1 : Int32)) ∨ (Ws (x2 &&& (255 : Int32)) ∧ ¬ Ws (x1 &&& (255 : Int32)) ∧ r = (2 : Int32)) ∨ (¬ Ws (x2 &&& (255 : Int32)) ∧ r = (3 : Int32)))
theorem rmLW_3 (l : Launch) (Z : State) (a0 : Array Value) (hw : ∀ d ∈ tables_1, d.before a0 Z = true) (ws : List Jvm.Cond) (vcs : Int32) (wI : Addr) (wA : Addr) (cA : Cell) (G : Gh Z vcs wI wA cA) (va : Addr) (ka : ClassId) (x0 : Int32) (x1 : Int32) (x2 : Int32) (h0 : Heap) (n0 : Nat) (O0 : Old Z n0 h0) (VA : Arv Z h0 va ka .byte (3 : Int32) [(.int x0), (.int x1), (.int x2)] (.int (0 : Int32))) :
    MetFree l own_y5 (head1 (Jvm.Cond.code own_y5 jdk_43_method_38_code 4 (some .int) :: ws) ({ frames := 2, cells := 0, slots := 0, locals := 29 } : Room)) (fun aa' UU' => aa' = #[(.ref va)] ∧ Z.Warmed39 UU'.vm ∧ UU'.heap = h0) (fun _ _ _ _ _ => True) (fun _ UU' oo' VV' => ∃ v' L', oo' = .returned v' ∧ QrmLW_3 Z vcs wI wA cA va ka x0 x1 x2 h0 n0 v' VV'.heap L' ∧ FrameEnd UU' oo' VV' L' ({ frames := 2, cells := 0, slots := 0, locals := 29 } : Room).cells ({ frames := 2, cells := 0, slots := 0, locals := 29 } : Room).slots) := by
  refine MetFree.of_bodySF (plainFor_of_name pn_17) hisR ?_
  intro p e s m args below meth c s₁ Bd hml0 hP hK
  obtain ⟨rfl, hZ, hh⟩ := hP
  have hml : c.maxLocals = 4 := hml0
  obtain ⟨hx, hby, hlk, hown, hnm, hret, X0, e0⟩ := own_hd Bd hh
  have N0 := Fr.nil n0
  refine Go.body ?_
  obtain ⟨Pf, hPf⟩ : ∃ P, P = Fin' s below ({ frames := 2, cells := 0, slots := 0, locals := 29 } : Room).cells ({ frames := 2, cells := 0, slots := 0, locals := 29 } : Room).slots (QrmLW_3 Z vcs wI wA cA va ka x0 x1 x2 h0 n0) := ⟨_, rfl⟩
  rw [← hPf]
  refine Go.cast (ef_rmLW_3 m) ?_
  have hw58 := own_w hw 58 rfl
  have hw63 := own_w hw 63 rfl
  have hw64 := own_w hw 64 rfl
  have hw65 := own_w hw 65 rfl
  have hw66 := own_w hw 66 rfl
  have hw67 := own_w hw 67 rfl
  have hw68 := own_w hw 68 rfl
  have hw69 := own_w hw 69 rfl
  have hw70 := own_w hw 70 rfl
  have hw71 := own_w hw 71 rfl
  have hw72 := own_w hw 72 rfl
  show Go p.tables e below Pf (s₁.setTop (mkF m 0 #[vr va, .unset, .unset, .unset] []))
  refine Go.by' (fun t k => (XS.aloadN X0.here hx rfl (hb hby d17_0) rfl rfl (own_alen X0 hx hZ e0 VA rfl rfl (hb hby d17_1) (XS.istoreN X0.here hx rfl (hb hby d17_2) rfl (l' := #[vr va, vi (3 : Int32), .unset, .unset]) rfl (XS.iloadN X0.here hx rfl (hb hby d17_3) rfl (XS.istoreN X0.here hx rfl (hb hby d17_4) rfl (l' := #[vr va, vi (3 : Int32), vi (3 : Int32), .unset]) rfl k)))))) ?_
  show Go p.tables e below Pf (s₁.setTop (mkF m 5 #[vr va, vi (3 : Int32), vi (3 : Int32), .unset] []))
  have jnl0 : ∀ (T' : State) (w3 : Int32), Ws (x2 &&& (255 : Int32)) → Ws (x1 &&& (255 : Int32)) → Ws (x0 &&& (255 : Int32)) → Like X0 T' → T'.heap = h0 → Go p.tables e below Pf (T'.setTop (mkF m 5 #[vr va, vi (3 : Int32), vi (0 : Int32), vi w3] [])) := by
    intro T78 w3 hW2 hW1 hW0 X78 e78
    unfold Like at X78
    show Go p.tables e below Pf (T78.setTop (mkF m 5 #[vr va, vi (3 : Int32), vi (0 : Int32), vi w3] []))
    refine Go.by' (fun t k => (XS.iconst X78.here hx rfl (hb hby d17_5) (XS.iloadN X78.here hx rfl (hb hby d17_6) rfl (XS.icmpYes X78.here hx rfl (pc0 := 7) (pc' := 49) rfl (hb hby d17_7) rfl (flt (by decide)).2.1 (by decide) (by decide) (XS.iloadN X78.here hx rfl (hb hby d17_49) rfl k))))) ?_
    show Go p.tables e below Pf (T78.setTop (mkF m 50 #[vr va, vi (3 : Int32), vi (0 : Int32), vi w3] [(.int (0 : Int32))]))
    rw [hPf]
    exact Go.retI' X78 hx hret hlk (by simp) rfl (hb hby d17_50) (by decide) (by decide) ⟨(0 : Int32), rfl, rfl, e78, (Or.inl ⟨hW2, hW1, hW0, rfl⟩)⟩
  have jnl1 : ∀ (T' : State) (w3 : Int32), Ws (x2 &&& (255 : Int32)) → Ws (x1 &&& (255 : Int32)) → Like X0 T' → T'.heap = h0 → Go p.tables e below Pf (T'.setTop (mkF m 5 #[vr va, vi (3 : Int32), vi (1 : Int32), vi w3] [])) := by
    intro T79 w3 hW2 hW1 X79 e79
    unfold Like at X79
    show Go p.tables e below Pf (T79.setTop (mkF m 5 #[vr va, vi (3 : Int32), vi (1 : Int32), vi w3] []))
    refine Go.by' (fun t k => (XS.iconst X79.here hx rfl (hb hby d17_5) (XS.iloadN X79.here hx rfl (hb hby d17_6) rfl (XS.icmpNo X79.here hx rfl (hb hby d17_7) rfl (tlt (by decide)).2.1 (XS.aloadN X79.here hx rfl (hb hby d17_10) rfl rfl (XS.iloadN X79.here hx rfl (hb hby d17_11) rfl (XS.iconst X79.here hx rfl (hb hby d17_12) (XS.isub X79.here hx rfl (hb hby d17_13) rfl k)))))))) ?_
    obtain ⟨_, _, ⟨T80, L80, k80, n80⟩, -, X80, ⟨Lc80, hQ80, l80, y80, z80⟩, st80⟩ := Jvm.LawKit.callS X79 hx (y := own_y3) hown (mvT hZ hw63) (mvT hZ hw64) (mvT hZ hw58) (mvT hZ hw65) (by decide) (backOf (W := 0) (rmGC l Z a0 hw [] vcs wI wA cA G va ((0 : Int32)) ka ((3 : Int32)) ([(Value.int x0), (Value.int x1), (Value.int x2)]) x0 h0 n0 O0 VA (by decide) (by decide) rfl) hZ hw65 hw58 (by decide) (by decide)) (g := (mkF m 14 #[vr va, vi (3 : Int32), vi (1 : Int32), vi w3] [(.int (0 : Int32)), (.ref va)])) rfl (by rw [hml]; rfl) (argsL := [(.ref va), (.int (0 : Int32))]) (rest := []) (lenOf pd_1 rfl) rfl (Nat.le_of_eq rfl) (hb hby d17_14) (fun _ _ => ⟨rfl, e79, (by decide : 0 + 0 ≤ _), (by decide : 0 + 0 ≤ _)⟩)
    dsimp only [Pt.U, Pt.locs, Pt.cells, Pt.slots] at X80 l80 y80 z80 st80 hQ80
    subst l80 y80 z80
    obtain ⟨rfl, rfl, e80⟩ := hQ80
    try replace X80 := own_nil X80
    refine Go.by' st80 ?_
    show Go p.tables e below Pf (T80.setTop (mkF m 17 #[vr va, vi (3 : Int32), vi (1 : Int32), vi w3] [(.int (x0 &&& (255 : Int32)))]))
    refine Go.by' (fun t k => (XS.istoreN X80.here hx rfl (hb hby d17_17) rfl (l' := #[vr va, vi (3 : Int32), vi (1 : Int32), vi (x0 &&& (255 : Int32))]) rfl (XS.iloadN X80.here hx rfl (hb hby d17_18) rfl (XS.bipush X80.here hx rfl (hb hby d17_19) k)))) ?_
    show Go p.tables e below Pf (T80.setTop (mkF m 21 #[vr va, vi (3 : Int32), vi (1 : Int32), vi (x0 &&& (255 : Int32))] [(.int (32 : Int32)), (.int (x0 &&& (255 : Int32)))]))
    by_cases hc81 : (x0 &&& (255 : Int32)) = (32 : Int32)
    · refine Go.by' (fun t k => (XS.icmpYes X80.here hx rfl (pc0 := 21) (pc' := 43) rfl (hb hby d17_21) rfl (teq hc81).1 (by decide) (by decide) (XS.iinc X80.here hx rfl (hb hby d17_43) rfl (l' := #[vr va, vi (3 : Int32), vi (0 : Int32), vi (x0 &&& (255 : Int32))]) rfl (XS.goto X80.here hx rfl (pc0 := 46) (pc' := 5) rfl (hb hby d17_46) (by decide) (by decide) k)))) ?_
      show Go p.tables e below Pf (T80.setTop (mkF m 5 #[vr va, vi (3 : Int32), vi (0 : Int32), vi (x0 &&& (255 : Int32))] []))
      exact jnl0 T80 ((x0 &&& (255 : Int32))) hW2 hW1 (own_w32 hc81) X80 e80
    · refine Go.by' (fun t k => (XS.icmpNo X80.here hx rfl (hb hby d17_21) rfl (feq hc81).1 (XS.iloadN X80.here hx rfl (hb hby d17_24) rfl (XS.bipush X80.here hx rfl (hb hby d17_25) k)))) ?_
      show Go p.tables e below Pf (T80.setTop (mkF m 27 #[vr va, vi (3 : Int32), vi (1 : Int32), vi (x0 &&& (255 : Int32))] [(.int (9 : Int32)), (.int (x0 &&& (255 : Int32)))]))
      by_cases hc82 : (x0 &&& (255 : Int32)) = (9 : Int32)
      · refine Go.by' (fun t k => (XS.icmpYes X80.here hx rfl (pc0 := 27) (pc' := 43) rfl (hb hby d17_27) rfl (teq hc82).1 (by decide) (by decide) (XS.iinc X80.here hx rfl (hb hby d17_43) rfl (l' := #[vr va, vi (3 : Int32), vi (0 : Int32), vi (x0 &&& (255 : Int32))]) rfl (XS.goto X80.here hx rfl (pc0 := 46) (pc' := 5) rfl (hb hby d17_46) (by decide) (by decide) k)))) ?_
        show Go p.tables e below Pf (T80.setTop (mkF m 5 #[vr va, vi (3 : Int32), vi (0 : Int32), vi (x0 &&& (255 : Int32))] []))
        exact jnl0 T80 ((x0 &&& (255 : Int32))) hW2 hW1 (own_w9 hc82) X80 e80
      · refine Go.by' (fun t k => (XS.icmpNo X80.here hx rfl (hb hby d17_27) rfl (feq hc82).1 k)) ?_
        obtain ⟨T83, X83, e83, st83⟩ := getS2 X80 hx hZ hown (host := "") (Or.inl hw66) Via.refl e80 (G.2.2.1.ext O0.2) (g := (mkF m 30 #[vr va, vi (3 : Int32), vi (1 : Int32), vi (x0 &&& (255 : Int32))] [])) rfl (hb hby d17_30)
        refine Go.by' st83 ?_
        show Go p.tables e below Pf (T83.setTop (mkF m 33 #[vr va, vi (3 : Int32), vi (1 : Int32), vi (x0 &&& (255 : Int32))] [(.ref wI)]))
        refine Go.by' (fun t k => (XS.iloadN X83.here hx rfl (hb hby d17_33) rfl k)) ?_
        obtain ⟨cq84, kq84, q84a, q84b, q84c⟩ := isOf hZ e83 (G.2.2.2.1.ext O0.2)
        obtain ⟨_, _, ⟨T84, L84, k84, n84⟩, -, X84, ⟨Lc84, hQ84, l84, y84, z84⟩, st84⟩ := X83.virtualBack hx (y := own_y1) (z := own_y1) hown (mvT hZ hw68) (mvT hZ hw69) (notFace_of_selects (args := #[]) (mvT hZ hw71)) (mvT hZ hw71) (mvT hZ hw70) (by decide) (backOf (W := 0) (rmIW l Z a0 hw [] vcs wI wA cA G ((x0 &&& (255 : Int32))) h0 n0 O0 (own_m _).1 (own_m _).2) hZ hw72 hw67 (by decide) (by decide)) q84a q84c (g := (mkF m 34 #[vr va, vi (3 : Int32), vi (1 : Int32), vi (x0 &&& (255 : Int32))] [(.int (x0 &&& (255 : Int32))), (.ref wI)])) rfl (by rw [hml]; rfl) (Steps.refl _) (argsL := [(.int (x0 &&& (255 : Int32)))]) (rest := []) (lenOf pd_2 rfl) rfl (Nat.le_of_eq rfl) (hb hby d17_34) (fun _ _ => ⟨rfl, e83, (by decide : 0 + 0 ≤ _), (by decide : 0 + 0 ≤ _)⟩)
        dsimp only [Pt.U, Pt.locs, Pt.cells, Pt.slots] at X84 l84 y84 z84 st84 hQ84
        subst l84 y84 z84
        obtain ⟨r_84, rfl, rfl, e84, r84_0⟩ := hQ84
        try replace X84 := own_nil X84
        refine Go.by' (fun t k => st84.trans k) ?_
        rcases r84_0 with ⟨hw84, hz84⟩ | ⟨hw84, hz84⟩
        · subst hz84
          show Go p.tables e below Pf (T84.setTop (mkF m 37 #[vr va, vi (3 : Int32), vi (1 : Int32), vi (x0 &&& (255 : Int32))] [(.int (1 : Int32))]))
          refine Go.by' (fun t k => (XS.ifYes X84.here hx rfl (pc0 := 37) (pc' := 43) rfl (hb hby d17_37) rfl ((if0 _ _).trans (feq (by decide)).2) (by decide) (by decide) (XS.iinc X84.here hx rfl (hb hby d17_43) rfl (l' := #[vr va, vi (3 : Int32), vi (0 : Int32), vi (x0 &&& (255 : Int32))]) rfl (XS.goto X84.here hx rfl (pc0 := 46) (pc' := 5) rfl (hb hby d17_46) (by decide) (by decide) k)))) ?_
          show Go p.tables e below Pf (T84.setTop (mkF m 5 #[vr va, vi (3 : Int32), vi (0 : Int32), vi (x0 &&& (255 : Int32))] []))
          exact jnl0 T84 ((x0 &&& (255 : Int32))) hW2 hW1 hw84 X84 e84
        · subst hz84
          show Go p.tables e below Pf (T84.setTop (mkF m 37 #[vr va, vi (3 : Int32), vi (1 : Int32), vi (x0 &&& (255 : Int32))] [(.int (0 : Int32))]))
          refine Go.by' (fun t k => (XS.ifNo X84.here hx rfl (hb hby d17_37) rfl ((if0 _ _).trans (teq (by decide)).2) (XS.goto X84.here hx rfl (pc0 := 40) (pc' := 49) rfl (hb hby d17_40) (by decide) (by decide) (XS.iloadN X84.here hx rfl (hb hby d17_49) rfl k)))) ?_
          show Go p.tables e below Pf (T84.setTop (mkF m 50 #[vr va, vi (3 : Int32), vi (1 : Int32), vi (x0 &&& (255 : Int32))] [(.int (1 : Int32))]))
          rw [hPf]
          exact Go.retI' X84 hx hret hlk (by simp) rfl (hb hby d17_50) (by decide) (by decide) ⟨(1 : Int32), rfl, rfl, e84, (Or.inr (Or.inl ⟨hW2, hW1, hw84, rfl⟩))⟩
  have jnl2 : ∀ (T' : State) (w3 : Int32), Ws (x2 &&& (255 : Int32)) → Like X0 T' → T'.heap = h0 → Go p.tables e below Pf (T'.setTop (mkF m 5 #[vr va, vi (3 : Int32), vi (2 : Int32), vi w3] [])) := by
    intro T85 w3 hW2 X85 e85
    unfold Like at X85
    show Go p.tables e below Pf (T85.setTop (mkF m 5 #[vr va, vi (3 : Int32), vi (2 : Int32), vi w3] []))
    refine Go.by' (fun t k => (XS.iconst X85.here hx rfl (hb hby d17_5) (XS.iloadN X85.here hx rfl (hb hby d17_6) rfl (XS.icmpNo X85.here hx rfl (hb hby d17_7) rfl (tlt (by decide)).2.1 (XS.aloadN X85.here hx rfl (hb hby d17_10) rfl rfl (XS.iloadN X85.here hx rfl (hb hby d17_11) rfl (XS.iconst X85.here hx rfl (hb hby d17_12) (XS.isub X85.here hx rfl (hb hby d17_13) rfl k)))))))) ?_
    obtain ⟨_, _, ⟨T86, L86, k86, n86⟩, -, X86, ⟨Lc86, hQ86, l86, y86, z86⟩, st86⟩ := Jvm.LawKit.callS X85 hx (y := own_y3) hown (mvT hZ hw63) (mvT hZ hw64) (mvT hZ hw58) (mvT hZ hw65) (by decide) (backOf (W := 0) (rmGC l Z a0 hw [] vcs wI wA cA G va ((1 : Int32)) ka ((3 : Int32)) ([(Value.int x0), (Value.int x1), (Value.int x2)]) x1 h0 n0 O0 VA (by decide) (by decide) rfl) hZ hw65 hw58 (by decide) (by decide)) (g := (mkF m 14 #[vr va, vi (3 : Int32), vi (2 : Int32), vi w3] [(.int (1 : Int32)), (.ref va)])) rfl (by rw [hml]; rfl) (argsL := [(.ref va), (.int (1 : Int32))]) (rest := []) (lenOf pd_1 rfl) rfl (Nat.le_of_eq rfl) (hb hby d17_14) (fun _ _ => ⟨rfl, e85, (by decide : 0 + 0 ≤ _), (by decide : 0 + 0 ≤ _)⟩)
    dsimp only [Pt.U, Pt.locs, Pt.cells, Pt.slots] at X86 l86 y86 z86 st86 hQ86
    subst l86 y86 z86
    obtain ⟨rfl, rfl, e86⟩ := hQ86
    try replace X86 := own_nil X86
    refine Go.by' st86 ?_
    show Go p.tables e below Pf (T86.setTop (mkF m 17 #[vr va, vi (3 : Int32), vi (2 : Int32), vi w3] [(.int (x1 &&& (255 : Int32)))]))
    refine Go.by' (fun t k => (XS.istoreN X86.here hx rfl (hb hby d17_17) rfl (l' := #[vr va, vi (3 : Int32), vi (2 : Int32), vi (x1 &&& (255 : Int32))]) rfl (XS.iloadN X86.here hx rfl (hb hby d17_18) rfl (XS.bipush X86.here hx rfl (hb hby d17_19) k)))) ?_
    show Go p.tables e below Pf (T86.setTop (mkF m 21 #[vr va, vi (3 : Int32), vi (2 : Int32), vi (x1 &&& (255 : Int32))] [(.int (32 : Int32)), (.int (x1 &&& (255 : Int32)))]))
    by_cases hc87 : (x1 &&& (255 : Int32)) = (32 : Int32)
    · refine Go.by' (fun t k => (XS.icmpYes X86.here hx rfl (pc0 := 21) (pc' := 43) rfl (hb hby d17_21) rfl (teq hc87).1 (by decide) (by decide) (XS.iinc X86.here hx rfl (hb hby d17_43) rfl (l' := #[vr va, vi (3 : Int32), vi (1 : Int32), vi (x1 &&& (255 : Int32))]) rfl (XS.goto X86.here hx rfl (pc0 := 46) (pc' := 5) rfl (hb hby d17_46) (by decide) (by decide) k)))) ?_
      show Go p.tables e below Pf (T86.setTop (mkF m 5 #[vr va, vi (3 : Int32), vi (1 : Int32), vi (x1 &&& (255 : Int32))] []))
      exact jnl1 T86 ((x1 &&& (255 : Int32))) hW2 (own_w32 hc87) X86 e86
    · refine Go.by' (fun t k => (XS.icmpNo X86.here hx rfl (hb hby d17_21) rfl (feq hc87).1 (XS.iloadN X86.here hx rfl (hb hby d17_24) rfl (XS.bipush X86.here hx rfl (hb hby d17_25) k)))) ?_
      show Go p.tables e below Pf (T86.setTop (mkF m 27 #[vr va, vi (3 : Int32), vi (2 : Int32), vi (x1 &&& (255 : Int32))] [(.int (9 : Int32)), (.int (x1 &&& (255 : Int32)))]))
      by_cases hc88 : (x1 &&& (255 : Int32)) = (9 : Int32)
      · refine Go.by' (fun t k => (XS.icmpYes X86.here hx rfl (pc0 := 27) (pc' := 43) rfl (hb hby d17_27) rfl (teq hc88).1 (by decide) (by decide) (XS.iinc X86.here hx rfl (hb hby d17_43) rfl (l' := #[vr va, vi (3 : Int32), vi (1 : Int32), vi (x1 &&& (255 : Int32))]) rfl (XS.goto X86.here hx rfl (pc0 := 46) (pc' := 5) rfl (hb hby d17_46) (by decide) (by decide) k)))) ?_
        show Go p.tables e below Pf (T86.setTop (mkF m 5 #[vr va, vi (3 : Int32), vi (1 : Int32), vi (x1 &&& (255 : Int32))] []))
        exact jnl1 T86 ((x1 &&& (255 : Int32))) hW2 (own_w9 hc88) X86 e86
      · refine Go.by' (fun t k => (XS.icmpNo X86.here hx rfl (hb hby d17_27) rfl (feq hc88).1 k)) ?_
        obtain ⟨T89, X89, e89, st89⟩ := getS2 X86 hx hZ hown (host := "") (Or.inl hw66) Via.refl e86 (G.2.2.1.ext O0.2) (g := (mkF m 30 #[vr va, vi (3 : Int32), vi (2 : Int32), vi (x1 &&& (255 : Int32))] [])) rfl (hb hby d17_30)
        refine Go.by' st89 ?_
        show Go p.tables e below Pf (T89.setTop (mkF m 33 #[vr va, vi (3 : Int32), vi (2 : Int32), vi (x1 &&& (255 : Int32))] [(.ref wI)]))
        refine Go.by' (fun t k => (XS.iloadN X89.here hx rfl (hb hby d17_33) rfl k)) ?_
        obtain ⟨cq90, kq90, q90a, q90b, q90c⟩ := isOf hZ e89 (G.2.2.2.1.ext O0.2)
        obtain ⟨_, _, ⟨T90, L90, k90, n90⟩, -, X90, ⟨Lc90, hQ90, l90, y90, z90⟩, st90⟩ := X89.virtualBack hx (y := own_y1) (z := own_y1) hown (mvT hZ hw68) (mvT hZ hw69) (notFace_of_selects (args := #[]) (mvT hZ hw71)) (mvT hZ hw71) (mvT hZ hw70) (by decide) (backOf (W := 0) (rmIW l Z a0 hw [] vcs wI wA cA G ((x1 &&& (255 : Int32))) h0 n0 O0 (own_m _).1 (own_m _).2) hZ hw72 hw67 (by decide) (by decide)) q90a q90c (g := (mkF m 34 #[vr va, vi (3 : Int32), vi (2 : Int32), vi (x1 &&& (255 : Int32))] [(.int (x1 &&& (255 : Int32))), (.ref wI)])) rfl (by rw [hml]; rfl) (Steps.refl _) (argsL := [(.int (x1 &&& (255 : Int32)))]) (rest := []) (lenOf pd_2 rfl) rfl (Nat.le_of_eq rfl) (hb hby d17_34) (fun _ _ => ⟨rfl, e89, (by decide : 0 + 0 ≤ _), (by decide : 0 + 0 ≤ _)⟩)
        dsimp only [Pt.U, Pt.locs, Pt.cells, Pt.slots] at X90 l90 y90 z90 st90 hQ90
        subst l90 y90 z90
        obtain ⟨r_90, rfl, rfl, e90, r90_0⟩ := hQ90
        try replace X90 := own_nil X90
        refine Go.by' (fun t k => st90.trans k) ?_
        rcases r90_0 with ⟨hw90, hz90⟩ | ⟨hw90, hz90⟩
        · subst hz90
          show Go p.tables e below Pf (T90.setTop (mkF m 37 #[vr va, vi (3 : Int32), vi (2 : Int32), vi (x1 &&& (255 : Int32))] [(.int (1 : Int32))]))
          refine Go.by' (fun t k => (XS.ifYes X90.here hx rfl (pc0 := 37) (pc' := 43) rfl (hb hby d17_37) rfl ((if0 _ _).trans (feq (by decide)).2) (by decide) (by decide) (XS.iinc X90.here hx rfl (hb hby d17_43) rfl (l' := #[vr va, vi (3 : Int32), vi (1 : Int32), vi (x1 &&& (255 : Int32))]) rfl (XS.goto X90.here hx rfl (pc0 := 46) (pc' := 5) rfl (hb hby d17_46) (by decide) (by decide) k)))) ?_
          show Go p.tables e below Pf (T90.setTop (mkF m 5 #[vr va, vi (3 : Int32), vi (1 : Int32), vi (x1 &&& (255 : Int32))] []))
          exact jnl1 T90 ((x1 &&& (255 : Int32))) hW2 hw90 X90 e90
        · subst hz90
          show Go p.tables e below Pf (T90.setTop (mkF m 37 #[vr va, vi (3 : Int32), vi (2 : Int32), vi (x1 &&& (255 : Int32))] [(.int (0 : Int32))]))
          refine Go.by' (fun t k => (XS.ifNo X90.here hx rfl (hb hby d17_37) rfl ((if0 _ _).trans (teq (by decide)).2) (XS.goto X90.here hx rfl (pc0 := 40) (pc' := 49) rfl (hb hby d17_40) (by decide) (by decide) (XS.iloadN X90.here hx rfl (hb hby d17_49) rfl k)))) ?_
          show Go p.tables e below Pf (T90.setTop (mkF m 50 #[vr va, vi (3 : Int32), vi (2 : Int32), vi (x1 &&& (255 : Int32))] [(.int (2 : Int32))]))
          rw [hPf]
          exact Go.retI' X90 hx hret hlk (by simp) rfl (hb hby d17_50) (by decide) (by decide) ⟨(2 : Int32), rfl, rfl, e90, (Or.inr (Or.inr (Or.inl ⟨hW2, hw90, rfl⟩)))⟩
  show Go p.tables e below Pf (s₁.setTop (mkF m 5 #[vr va, vi (3 : Int32), vi (3 : Int32), .unset] []))
  refine Go.by' (fun t k => (XS.iconst X0.here hx rfl (hb hby d17_5) (XS.iloadN X0.here hx rfl (hb hby d17_6) rfl (XS.icmpNo X0.here hx rfl (hb hby d17_7) rfl (tlt (by decide)).2.1 (XS.aloadN X0.here hx rfl (hb hby d17_10) rfl rfl (XS.iloadN X0.here hx rfl (hb hby d17_11) rfl (XS.iconst X0.here hx rfl (hb hby d17_12) (XS.isub X0.here hx rfl (hb hby d17_13) rfl k)))))))) ?_
  obtain ⟨_, _, ⟨T91, L91, k91, n91⟩, -, X91, ⟨Lc91, hQ91, l91, y91, z91⟩, st91⟩ := Jvm.LawKit.callS X0 hx (y := own_y3) hown (mvT hZ hw63) (mvT hZ hw64) (mvT hZ hw58) (mvT hZ hw65) (by decide) (backOf (W := 0) (rmGC l Z a0 hw [] vcs wI wA cA G va ((2 : Int32)) ka ((3 : Int32)) ([(Value.int x0), (Value.int x1), (Value.int x2)]) x2 h0 n0 O0 VA (by decide) (by decide) rfl) hZ hw65 hw58 (by decide) (by decide)) (g := (mkF m 14 #[vr va, vi (3 : Int32), vi (3 : Int32), .unset] [(.int (2 : Int32)), (.ref va)])) rfl (by rw [hml]; rfl) (argsL := [(.ref va), (.int (2 : Int32))]) (rest := []) (lenOf pd_1 rfl) rfl (Nat.le_of_eq rfl) (hb hby d17_14) (fun _ _ => ⟨rfl, e0, (by decide : 0 + 0 ≤ _), (by decide : 0 + 0 ≤ _)⟩)
  dsimp only [Pt.U, Pt.locs, Pt.cells, Pt.slots] at X91 l91 y91 z91 st91 hQ91
  subst l91 y91 z91
  obtain ⟨rfl, rfl, e91⟩ := hQ91
  try replace X91 := own_nil X91
  refine Go.by' st91 ?_
  show Go p.tables e below Pf (T91.setTop (mkF m 17 #[vr va, vi (3 : Int32), vi (3 : Int32), .unset] [(.int (x2 &&& (255 : Int32)))]))
  refine Go.by' (fun t k => (XS.istoreN X91.here hx rfl (hb hby d17_17) rfl (l' := #[vr va, vi (3 : Int32), vi (3 : Int32), vi (x2 &&& (255 : Int32))]) rfl (XS.iloadN X91.here hx rfl (hb hby d17_18) rfl (XS.bipush X91.here hx rfl (hb hby d17_19) k)))) ?_
  show Go p.tables e below Pf (T91.setTop (mkF m 21 #[vr va, vi (3 : Int32), vi (3 : Int32), vi (x2 &&& (255 : Int32))] [(.int (32 : Int32)), (.int (x2 &&& (255 : Int32)))]))
  by_cases hc92 : (x2 &&& (255 : Int32)) = (32 : Int32)
  · refine Go.by' (fun t k => (XS.icmpYes X91.here hx rfl (pc0 := 21) (pc' := 43) rfl (hb hby d17_21) rfl (teq hc92).1 (by decide) (by decide) (XS.iinc X91.here hx rfl (hb hby d17_43) rfl (l' := #[vr va, vi (3 : Int32), vi (2 : Int32), vi (x2 &&& (255 : Int32))]) rfl (XS.goto X91.here hx rfl (pc0 := 46) (pc' := 5) rfl (hb hby d17_46) (by decide) (by decide) k)))) ?_
    show Go p.tables e below Pf (T91.setTop (mkF m 5 #[vr va, vi (3 : Int32), vi (2 : Int32), vi (x2 &&& (255 : Int32))] []))
    exact jnl2 T91 ((x2 &&& (255 : Int32))) (own_w32 hc92) X91 e91
  · refine Go.by' (fun t k => (XS.icmpNo X91.here hx rfl (hb hby d17_21) rfl (feq hc92).1 (XS.iloadN X91.here hx rfl (hb hby d17_24) rfl (XS.bipush X91.here hx rfl (hb hby d17_25) k)))) ?_
    show Go p.tables e below Pf (T91.setTop (mkF m 27 #[vr va, vi (3 : Int32), vi (3 : Int32), vi (x2 &&& (255 : Int32))] [(.int (9 : Int32)), (.int (x2 &&& (255 : Int32)))]))
    by_cases hc93 : (x2 &&& (255 : Int32)) = (9 : Int32)
    · refine Go.by' (fun t k => (XS.icmpYes X91.here hx rfl (pc0 := 27) (pc' := 43) rfl (hb hby d17_27) rfl (teq hc93).1 (by decide) (by decide) (XS.iinc X91.here hx rfl (hb hby d17_43) rfl (l' := #[vr va, vi (3 : Int32), vi (2 : Int32), vi (x2 &&& (255 : Int32))]) rfl (XS.goto X91.here hx rfl (pc0 := 46) (pc' := 5) rfl (hb hby d17_46) (by decide) (by decide) k)))) ?_
      show Go p.tables e below Pf (T91.setTop (mkF m 5 #[vr va, vi (3 : Int32), vi (2 : Int32), vi (x2 &&& (255 : Int32))] []))
      exact jnl2 T91 ((x2 &&& (255 : Int32))) (own_w9 hc93) X91 e91
    · refine Go.by' (fun t k => (XS.icmpNo X91.here hx rfl (hb hby d17_27) rfl (feq hc93).1 k)) ?_
      obtain ⟨T94, X94, e94, st94⟩ := getS2 X91 hx hZ hown (host := "") (Or.inl hw66) Via.refl e91 (G.2.2.1.ext O0.2) (g := (mkF m 30 #[vr va, vi (3 : Int32), vi (3 : Int32), vi (x2 &&& (255 : Int32))] [])) rfl (hb hby d17_30)
      refine Go.by' st94 ?_
      show Go p.tables e below Pf (T94.setTop (mkF m 33 #[vr va, vi (3 : Int32), vi (3 : Int32), vi (x2 &&& (255 : Int32))] [(.ref wI)]))
      refine Go.by' (fun t k => (XS.iloadN X94.here hx rfl (hb hby d17_33) rfl k)) ?_
      obtain ⟨cq95, kq95, q95a, q95b, q95c⟩ := isOf hZ e94 (G.2.2.2.1.ext O0.2)
      obtain ⟨_, _, ⟨T95, L95, k95, n95⟩, -, X95, ⟨Lc95, hQ95, l95, y95, z95⟩, st95⟩ := X94.virtualBack hx (y := own_y1) (z := own_y1) hown (mvT hZ hw68) (mvT hZ hw69) (notFace_of_selects (args := #[]) (mvT hZ hw71)) (mvT hZ hw71) (mvT hZ hw70) (by decide) (backOf (W := 0) (rmIW l Z a0 hw [] vcs wI wA cA G ((x2 &&& (255 : Int32))) h0 n0 O0 (own_m _).1 (own_m _).2) hZ hw72 hw67 (by decide) (by decide)) q95a q95c (g := (mkF m 34 #[vr va, vi (3 : Int32), vi (3 : Int32), vi (x2 &&& (255 : Int32))] [(.int (x2 &&& (255 : Int32))), (.ref wI)])) rfl (by rw [hml]; rfl) (Steps.refl _) (argsL := [(.int (x2 &&& (255 : Int32)))]) (rest := []) (lenOf pd_2 rfl) rfl (Nat.le_of_eq rfl) (hb hby d17_34) (fun _ _ => ⟨rfl, e94, (by decide : 0 + 0 ≤ _), (by decide : 0 + 0 ≤ _)⟩)
      dsimp only [Pt.U, Pt.locs, Pt.cells, Pt.slots] at X95 l95 y95 z95 st95 hQ95
      subst l95 y95 z95
      obtain ⟨r_95, rfl, rfl, e95, r95_0⟩ := hQ95
      try replace X95 := own_nil X95
      refine Go.by' (fun t k => st95.trans k) ?_
      rcases r95_0 with ⟨hw95, hz95⟩ | ⟨hw95, hz95⟩
      · subst hz95
        show Go p.tables e below Pf (T95.setTop (mkF m 37 #[vr va, vi (3 : Int32), vi (3 : Int32), vi (x2 &&& (255 : Int32))] [(.int (1 : Int32))]))
        refine Go.by' (fun t k => (XS.ifYes X95.here hx rfl (pc0 := 37) (pc' := 43) rfl (hb hby d17_37) rfl ((if0 _ _).trans (feq (by decide)).2) (by decide) (by decide) (XS.iinc X95.here hx rfl (hb hby d17_43) rfl (l' := #[vr va, vi (3 : Int32), vi (2 : Int32), vi (x2 &&& (255 : Int32))]) rfl (XS.goto X95.here hx rfl (pc0 := 46) (pc' := 5) rfl (hb hby d17_46) (by decide) (by decide) k)))) ?_
        show Go p.tables e below Pf (T95.setTop (mkF m 5 #[vr va, vi (3 : Int32), vi (2 : Int32), vi (x2 &&& (255 : Int32))] []))
        exact jnl2 T95 ((x2 &&& (255 : Int32))) hw95 X95 e95
      · subst hz95
        show Go p.tables e below Pf (T95.setTop (mkF m 37 #[vr va, vi (3 : Int32), vi (3 : Int32), vi (x2 &&& (255 : Int32))] [(.int (0 : Int32))]))
        refine Go.by' (fun t k => (XS.ifNo X95.here hx rfl (hb hby d17_37) rfl ((if0 _ _).trans (teq (by decide)).2) (XS.goto X95.here hx rfl (pc0 := 40) (pc' := 49) rfl (hb hby d17_40) (by decide) (by decide) (XS.iloadN X95.here hx rfl (hb hby d17_49) rfl k)))) ?_
        show Go p.tables e below Pf (T95.setTop (mkF m 50 #[vr va, vi (3 : Int32), vi (3 : Int32), vi (x2 &&& (255 : Int32))] [(.int (3 : Int32))]))
        rw [hPf]
        exact Go.retI' X95 hx hret hlk (by simp) rfl (hb hby d17_50) (by decide) (by decide) ⟨(3 : Int32), rfl, rfl, e95, (Or.inr (Or.inr (Or.inr ⟨hw95, rfl⟩)))⟩
theorem d34_0 : decode jdk_42_method_151_code 0 = .ok (.aload_n 0, 1) := by decide +kernel
theorem d34_1 : decode jdk_42_method_151_code 1 = .ok (.invokespecial 1, 3) := by decide +kernel
theorem d34_4 : decode jdk_42_method_151_code 4 = .ok (.aload_n 0, 1) := by decide +kernel
theorem d34_5 : decode jdk_42_method_151_code 5 = .ok (.aload_n 1, 1) := by decide +kernel
theorem d34_6 : decode jdk_42_method_151_code 6 = .ok (.putfield 9, 3) := by decide +kernel
theorem d34_9 : decode jdk_42_method_151_code 9 = .ok (.aload_n 0, 1) := by decide +kernel
theorem d34_10 : decode jdk_42_method_151_code 10 = .ok (.iload_n 2, 1) := by decide +kernel
theorem d34_11 : decode jdk_42_method_151_code 11 = .ok (.putfield 15, 3) := by decide +kernel
theorem d34_14 : decode jdk_42_method_151_code 14 = .ok (.return_, 1) := by decide +kernel
theorem pn_34 : plainName "java/lang/String" = true := by first | (simp [plainName, overriddenIn]; done) | decide +kernel
theorem ef_rmIB (m : MethodId) {sa : Addr} {ba : Addr} : entryFrame m #[(.ref sa), (.ref ba), (.int (0 : Int32))] 3 = mkF m 0 #[vr sa, vr ba, vi (0 : Int32)] [] := by first | (simp [entryFrame, mkF, argsToLocals, Value.category]; done) | rfl
abbrev own_y6 : MethodName := ⟨"java/lang/String", "<init>", "([BB)V"⟩
def QrmIB (Z : State) (vcs : Int32) (wI : Addr) (wA : Addr) (cA : Cell) (sa : Addr) (ba : Addr) (h0 : Heap) (n0 : Nat) (v : Option Value) (h : Heap) (L : List Loc) : Prop := (v = none) ∧ (Fr n0 L) ∧ (Keep h0 h [sa]) ∧ (Exa Z h sa "java/lang/String") ∧ (Fld Z h sa "java/lang/String" "value" "[B" (.ref ba)) ∧ (Fld Z h sa "java/lang/String" "coder" "B" (.int (0 : Int32)))
theorem rmIB (l : Launch) (Z : State) (a0 : Array Value) (hw : ∀ d ∈ tables_1, d.before a0 Z = true) (ws : List Jvm.Cond) (vcs : Int32) (wI : Addr) (wA : Addr) (cA : Cell) (G : Gh Z vcs wI wA cA) (sa : Addr) (ba : Addr) (h0 : Heap) (n0 : Nat) (O0 : Old Z n0 h0) (EX : Exa Z h0 sa "java/lang/String") (FV : Fld Z h0 sa "java/lang/String" "value" "[B" .null) (FC : Fld Z h0 sa "java/lang/String" "coder" "B" (.int (0 : Int32))) (g_sa : n0 ≤ sa) :
    MetFree l own_y6 (head1 (Jvm.Cond.code own_y6 jdk_42_method_151_code 3 none :: ws) ({ frames := 1, cells := 0, slots := 0, locals := 12 } : Room)) (fun aa' UU' => aa' = #[(.ref sa), (.ref ba), (.int (0 : Int32))] ∧ Z.Warmed39 UU'.vm ∧ UU'.heap = h0) (fun _ _ _ _ _ => True) (fun _ UU' oo' VV' => ∃ v' L', oo' = .returned v' ∧ QrmIB Z vcs wI wA cA sa ba h0 n0 v' VV'.heap L' ∧ FrameEnd UU' oo' VV' L' ({ frames := 1, cells := 0, slots := 0, locals := 12 } : Room).cells ({ frames := 1, cells := 0, slots := 0, locals := 12 } : Room).slots) := by
  refine MetFree.of_bodySF (plainFor_of_name pn_34) hisR ?_
  intro p e s m args below meth c s₁ Bd hml0 hP hK
  obtain ⟨rfl, hZ, hh⟩ := hP
  have hml : c.maxLocals = 3 := hml0
  obtain ⟨hx, hby, hlk, hown, hnm, hret, X0, e0⟩ := own_hd Bd hh
  have N0 := Fr.nil n0
  have KC0 : Keep h0 h0 [sa] := Keep.refl _ _
  refine Go.body ?_
  obtain ⟨Pf, hPf⟩ : ∃ P, P = Fin' s below ({ frames := 1, cells := 0, slots := 0, locals := 12 } : Room).cells ({ frames := 1, cells := 0, slots := 0, locals := 12 } : Room).slots (QrmIB Z vcs wI wA cA sa ba h0 n0) := ⟨_, rfl⟩
  rw [← hPf]
  refine Go.cast (ef_rmIB m) ?_
  have hw2 := own_w hw 2 rfl
  have hw11 := own_w hw 11 rfl
  have hw12 := own_w hw 12 rfl
  have hw13 := own_w hw 13 rfl
  have hw16 := own_w hw 16 rfl
  have hw17 := own_w hw 17 rfl
  have hw20 := own_w hw 20 rfl
  have hw21 := own_w hw 21 rfl
  show Go p.tables e below Pf (s₁.setTop (mkF m 0 #[vr sa, vr ba, vi (0 : Int32)] []))
  refine Go.by' (fun t k => (XS.aloadN X0.here hx rfl (hb hby d34_0) rfl rfl k)) ?_
  obtain ⟨T96, X96, e96, st96⟩ := initO X0 hx hZ hown hw11 hw12 hw13 e0 (g := (mkF m 1 #[vr sa, vr ba, vi (0 : Int32)] [(.ref sa)])) rfl (by rw [hml]; rfl) rfl (hb hby d34_1) (by decide) (W := 0) (Nat.le_of_eq rfl) (by decide)
  refine Go.by' st96 ?_
  show Go p.tables e below Pf (T96.setTop (mkF m 4 #[vr sa, vr ba, vi (0 : Int32)] []))
  refine Go.by' (fun t k => (XS.aloadN X96.here hx rfl (hb hby d34_4) rfl rfl (XS.aloadN X96.here hx rfl (hb hby d34_5) rfl rfl k))) ?_
  obtain ⟨T97, h97, X97, e97, W97, st97⟩ := putF X96 hx hZ hown (host := "") (Or.inl hw20) Via.refl e96 FV EX (Or.inr ⟨hw16, rfl, hnm⟩) hw2 (ty := (.array .byte)) (by decide) rfl rfl (g := (mkF m 6 #[vr sa, vr ba, vi (0 : Int32)] [(.ref ba), (.ref sa)])) rfl rfl (hb hby d34_6)
  refine Go.by' st97 ?_
  have Fw97 : Fld Z h97 sa "java/lang/String" "value" "[B" (Value.ref ba) := FV.same W97
  have N97 := Fr.snoc X97 N0 g_sa
  obtain ⟨lc97, X97, N97⟩ := own_pack X97 N97
  have O97 := O0.wr W97 g_sa
  have KC97 : Keep h0 h97 [sa] := KC0.wr W97 (Or.inl (List.mem_of_getElem? (i := 0) rfl))
  show Go p.tables e below Pf (T97.setTop (mkF m 9 #[vr sa, vr ba, vi (0 : Int32)] []))
  refine Go.by' (fun t k => (XS.aloadN X97.here hx rfl (hb hby d34_9) rfl rfl (XS.iloadN X97.here hx rfl (hb hby d34_10) rfl k))) ?_
  obtain ⟨T98, h98, X98, e98, W98, st98⟩ := putFN X97 hx hZ hown hw21 Via.refl e97 (FC.other W97 (Or.inr (slot_ne (Or.inr hw17) (Or.inr hw16) (by decide) (t := .byte) (t' := (.array .byte)) (by decide) (by decide)))) (EX.wr W97) (Or.inr ⟨hw17, rfl, hnm⟩) hw2 (ty := .byte) (v' := (.int (0 : Int32))) (by decide) rfl rfl (g := (mkF m 11 #[vr sa, vr ba, vi (0 : Int32)] [(.int (0 : Int32)), (.ref sa)])) rfl rfl (hb hby d34_11)
  refine Go.by' st98 ?_
  have Fw98 : Fld Z h98 sa "java/lang/String" "coder" "B" (Value.int (0 : Int32)) := (FC.other W97 (Or.inr (slot_ne (Or.inr hw17) (Or.inr hw16) (by decide) (t := .byte) (t' := (.array .byte)) (by decide) (by decide)))).same W98
  have N98 := Fr.snoc X98 N97 g_sa
  obtain ⟨lc98, X98, N98⟩ := own_pack X98 N98
  have O98 := O97.wr W98 g_sa
  have KC98 : Keep h0 h98 [sa] := KC97.wr W98 (Or.inl (List.mem_of_getElem? (i := 0) rfl))
  have c99 := ((EX.wr W97).wr W98)
  show Go p.tables e below Pf (T98.setTop (mkF m 14 #[vr sa, vr ba, vi (0 : Int32)] []))
  rw [hPf]
  exact Go.retV' X98 hx hret hlk (hb hby d34_14) (by decide) (by decide) ⟨rfl, N98, (by rw [e98]; exact KC98), (by rw [e98]; exact c99), (by rw [e98]; exact (Fw97.other W98 (Or.inr (slot_ne (Or.inr hw16) (Or.inr hw17) (by decide) (t := (.array .byte)) (t' := .byte) (by decide) (by decide))))), (by rw [e98]; exact Fw98)⟩
def Sl (il ir zn : Int32) : Prop := ¬ il < (0 : Int32) ∧ ¬ ir < il ∧ ¬ (ir - il) < (0 : Int32) ∧ (ir - il).toNatClampNeg ≤ 3 ∧ ¬ ((zn - il) < (ir - il)) ∧ il.toInt + (ir - il).toInt ≤ zn.toInt ∧ (il = (0 : Int32) → ¬ ir = zn)
instance (a b c : Int32) : Decidable (Sl a b c) := by unfold Sl; infer_instance
theorem own_leq {a b : Int32} (h1 : ¬ b < a) (h2 : ¬ a < b) : a = b := by
  rw [Int32.lt_iff_toInt_lt] at h1 h2
  rw [← Int32.toInt_inj]; omega
theorem d32_0 : decode jdk_65_method_131_code 0 = .ok (.iload_n 1, 1) := by decide +kernel
theorem d32_1 : decode jdk_65_method_131_code 1 = .ok (.iload_n 0, 1) := by decide +kernel
theorem d32_2 : decode jdk_65_method_131_code 2 = .ok (.if_icmp .ge 35, 3) := by decide +kernel
theorem d32_37 : decode jdk_65_method_131_code 37 = .ok (.return_, 1) := by decide +kernel
theorem pn_32 : plainName "java/util/Arrays" = true := by first | (simp [plainName, overriddenIn]; done) | decide +kernel
theorem ef_rmCk (m : MethodId) {il : Int32} {ir : Int32} : entryFrame m #[(.int il), (.int ir)] 2 = mkF m 0 #[vi il, vi ir] [] := by first | (simp [entryFrame, mkF, argsToLocals, Value.category]; done) | rfl
abbrev own_y7 : MethodName := ⟨"java/util/Arrays", "checkLength", "(II)V"⟩
def QrmCk (Z : State) (vcs : Int32) (wI : Addr) (wA : Addr) (cA : Cell) (il : Int32) (ir : Int32) (h0 : Heap) (n0 : Nat) (v : Option Value) (h : Heap) (L : List Loc) : Prop := (v = none) ∧ (L = []) ∧ (h = h0)
theorem rmCk (l : Launch) (Z : State) (a0 : Array Value) (hw : ∀ d ∈ tables_1, d.before a0 Z = true) (ws : List Jvm.Cond) (vcs : Int32) (wI : Addr) (wA : Addr) (cA : Cell) (G : Gh Z vcs wI wA cA) (il : Int32) (ir : Int32) (h0 : Heap) (n0 : Nat) (O0 : Old Z n0 h0) (hle : ¬ (ir < il)) :
    MetFree l own_y7 (head1 (Jvm.Cond.code own_y7 jdk_65_method_131_code 2 none :: ws) ({ frames := 0, cells := 0, slots := 0, locals := 0 } : Room)) (fun aa' UU' => aa' = #[(.int il), (.int ir)] ∧ Z.Warmed39 UU'.vm ∧ UU'.heap = h0) (fun _ _ _ _ _ => True) (fun _ UU' oo' VV' => ∃ v' L', oo' = .returned v' ∧ QrmCk Z vcs wI wA cA il ir h0 n0 v' VV'.heap L' ∧ FrameEnd UU' oo' VV' L' ({ frames := 0, cells := 0, slots := 0, locals := 0 } : Room).cells ({ frames := 0, cells := 0, slots := 0, locals := 0 } : Room).slots) := by
  refine MetFree.of_bodySF (plainFor_of_name pn_32) hisR ?_
  intro p e s m args below meth c s₁ Bd hml0 hP hK
  obtain ⟨rfl, hZ, hh⟩ := hP
  have hml : c.maxLocals = 2 := hml0
  obtain ⟨hx, hby, hlk, hown, hnm, hret, X0, e0⟩ := own_hd Bd hh
  have N0 := Fr.nil n0
  refine Go.body ?_
  obtain ⟨Pf, hPf⟩ : ∃ P, P = Fin' s below ({ frames := 0, cells := 0, slots := 0, locals := 0 } : Room).cells ({ frames := 0, cells := 0, slots := 0, locals := 0 } : Room).slots (QrmCk Z vcs wI wA cA il ir h0 n0) := ⟨_, rfl⟩
  rw [← hPf]
  refine Go.cast (ef_rmCk m) ?_
  show Go p.tables e below Pf (s₁.setTop (mkF m 0 #[vi il, vi ir] []))
  refine Go.by' (fun t k => (XS.iloadN X0.here hx rfl (hb hby d32_0) rfl (XS.iloadN X0.here hx rfl (hb hby d32_1) rfl (XS.icmpYes X0.here hx rfl (pc0 := 2) (pc' := 37) rfl (hb hby d32_2) rfl (flt hle).2.1 (by decide) (by decide) k)))) ?_
  show Go p.tables e below Pf (s₁.setTop (mkF m 37 #[vi il, vi ir] []))
  rw [hPf]
  exact Go.retV' X0 hx hret hlk (hb hby d32_37) (by decide) (by decide) ⟨rfl, rfl, e0⟩
theorem d33_0 : decode jdk_29_method_69_code 0 = .ok (.iload_n 0, 1) := by decide +kernel
theorem d33_1 : decode jdk_29_method_69_code 1 = .ok (.iload_n 1, 1) := by decide +kernel
theorem d33_2 : decode jdk_29_method_69_code 2 = .ok (.if_icmp .gt 7, 3) := by decide +kernel
theorem d33_9 : decode jdk_29_method_69_code 9 = .ok (.iload_n 1, 1) := by decide +kernel
theorem d33_10 : decode jdk_29_method_69_code 10 = .ok (.ireturn, 1) := by decide +kernel
theorem d33_5 : decode jdk_29_method_69_code 5 = .ok (.iload_n 0, 1) := by decide +kernel
theorem d33_6 : decode jdk_29_method_69_code 6 = .ok (.goto 4, 3) := by decide +kernel
theorem ef_rmMi (m : MethodId) {ia : Int32} {ib : Int32} : entryFrame m #[(.int ia), (.int ib)] 2 = mkF m 0 #[vi ia, vi ib] [] := by first | (simp [entryFrame, mkF, argsToLocals, Value.category]; done) | rfl
abbrev own_y8 : MethodName := ⟨"java/lang/Math", "min", "(II)I"⟩
def QrmMi (Z : State) (vcs : Int32) (wI : Addr) (wA : Addr) (cA : Cell) (ia : Int32) (ib : Int32) (h0 : Heap) (n0 : Nat) (v : Option Value) (h : Heap) (L : List Loc) : Prop := ∃ (r : Int32), (v = some (.int r)) ∧ (L = []) ∧ (h = h0) ∧ (r = ib)
theorem rmMi (l : Launch) (Z : State) (a0 : Array Value) (hw : ∀ d ∈ tables_1, d.before a0 Z = true) (ws : List Jvm.Cond) (vcs : Int32) (wI : Addr) (wA : Addr) (cA : Cell) (G : Gh Z vcs wI wA cA) (ia : Int32) (ib : Int32) (h0 : Heap) (n0 : Nat) (O0 : Old Z n0 h0) (hle : ¬ (ia < ib)) :
    MetFree l own_y8 (head1 (Jvm.Cond.code own_y8 jdk_29_method_69_code 2 (some .int) :: ws) ({ frames := 0, cells := 0, slots := 0, locals := 0 } : Room)) (fun aa' UU' => aa' = #[(.int ia), (.int ib)] ∧ Z.Warmed39 UU'.vm ∧ UU'.heap = h0) (fun _ _ _ _ _ => True) (fun _ UU' oo' VV' => ∃ v' L', oo' = .returned v' ∧ QrmMi Z vcs wI wA cA ia ib h0 n0 v' VV'.heap L' ∧ FrameEnd UU' oo' VV' L' ({ frames := 0, cells := 0, slots := 0, locals := 0 } : Room).cells ({ frames := 0, cells := 0, slots := 0, locals := 0 } : Room).slots) := by
  refine MetFree.of_bodySF (Jvm.Free.JP.mathPlain rfl (by decide +kernel)) hisR ?_
  intro p e s m args below meth c s₁ Bd hml0 hP hK
  obtain ⟨rfl, hZ, hh⟩ := hP
  have hml : c.maxLocals = 2 := hml0
  obtain ⟨hx, hby, hlk, hown, hnm, hret, X0, e0⟩ := own_hd Bd hh
  have N0 := Fr.nil n0
  refine Go.body ?_
  obtain ⟨Pf, hPf⟩ : ∃ P, P = Fin' s below ({ frames := 0, cells := 0, slots := 0, locals := 0 } : Room).cells ({ frames := 0, cells := 0, slots := 0, locals := 0 } : Room).slots (QrmMi Z vcs wI wA cA ia ib h0 n0) := ⟨_, rfl⟩
  rw [← hPf]
  refine Go.cast (ef_rmMi m) ?_
  show Go p.tables e below Pf (s₁.setTop (mkF m 0 #[vi ia, vi ib] []))
  refine Go.by' (fun t k => (XS.iloadN X0.here hx rfl (hb hby d33_0) rfl (XS.iloadN X0.here hx rfl (hb hby d33_1) rfl k))) ?_
  show Go p.tables e below Pf (s₁.setTop (mkF m 2 #[vi ia, vi ib] [(.int ib), (.int ia)]))
  by_cases hc100 : ib < ia
  · refine Go.by' (fun t k => (XS.icmpYes X0.here hx rfl (pc0 := 2) (pc' := 9) rfl (hb hby d33_2) rfl (tlt hc100).2.2.1 (by decide) (by decide) (XS.iloadN X0.here hx rfl (hb hby d33_9) rfl k))) ?_
    show Go p.tables e below Pf (s₁.setTop (mkF m 10 #[vi ia, vi ib] [(.int ib)]))
    rw [hPf]
    exact Go.retI' X0 hx hret hlk (by simp) rfl (hb hby d33_10) (by decide) (by decide) ⟨ib, rfl, rfl, e0, rfl⟩
  · refine Go.by' (fun t k => (XS.icmpNo X0.here hx rfl (hb hby d33_2) rfl (flt hc100).2.2.1 (XS.iloadN X0.here hx rfl (hb hby d33_5) rfl (XS.goto X0.here hx rfl (pc0 := 6) (pc' := 10) rfl (hb hby d33_6) (by decide) (by decide) k)))) ?_
    show Go p.tables e below Pf (s₁.setTop (mkF m 10 #[vi ia, vi ib] [(.int ia)]))
    rw [hPf]
    exact Go.retI' X0 hx hret hlk (by simp) rfl (hb hby d33_10) (by decide) (by decide) ⟨ia, rfl, rfl, e0, (own_leq hc100 hle)⟩
theorem d31_0 : decode jdk_65_method_133_code 0 = .ok (.iload_n 1, 1) := by decide +kernel
theorem d31_1 : decode jdk_65_method_133_code 1 = .ok (.iload_n 2, 1) := by decide +kernel
theorem d31_2 : decode jdk_65_method_133_code 2 = .ok (.invokestatic 343, 3) := by decide +kernel
theorem pd_3 : parseMethodDescriptor "(II)V" = some ⟨[.int, .int], none⟩ := by decide +kernel
theorem d31_5 : decode jdk_65_method_133_code 5 = .ok (.iload_n 2, 1) := by decide +kernel
theorem d31_6 : decode jdk_65_method_133_code 6 = .ok (.iload_n 1, 1) := by decide +kernel
theorem d31_7 : decode jdk_65_method_133_code 7 = .ok (.isub, 1) := by decide +kernel
theorem d31_8 : decode jdk_65_method_133_code 8 = .ok (.istore_n 3, 1) := by decide +kernel
theorem d31_9 : decode jdk_65_method_133_code 9 = .ok (.iload_n 3, 1) := by decide +kernel
theorem d31_10 : decode jdk_65_method_133_code 10 = .ok (.newarray .byte, 2) := by decide +kernel
theorem d31_12 : decode jdk_65_method_133_code 12 = .ok (.astore 4, 2) := by decide +kernel
theorem d31_14 : decode jdk_65_method_133_code 14 = .ok (.aload_n 0, 1) := by decide +kernel
theorem d31_15 : decode jdk_65_method_133_code 15 = .ok (.iload_n 1, 1) := by decide +kernel
theorem d31_16 : decode jdk_65_method_133_code 16 = .ok (.aload 4, 2) := by decide +kernel
theorem d31_18 : decode jdk_65_method_133_code 18 = .ok (.iconst 0, 1) := by decide +kernel
theorem d31_19 : decode jdk_65_method_133_code 19 = .ok (.aload_n 0, 1) := by decide +kernel
theorem d31_20 : decode jdk_65_method_133_code 20 = .ok (.arraylength, 1) := by decide +kernel
theorem d31_21 : decode jdk_65_method_133_code 21 = .ok (.iload_n 1, 1) := by decide +kernel
theorem d31_22 : decode jdk_65_method_133_code 22 = .ok (.isub, 1) := by decide +kernel
theorem d31_23 : decode jdk_65_method_133_code 23 = .ok (.iload_n 3, 1) := by decide +kernel
theorem d31_24 : decode jdk_65_method_133_code 24 = .ok (.invokestatic 304, 3) := by decide +kernel
theorem pd_4 : parseMethodDescriptor "(II)I" = some ⟨[.int, .int], some .int⟩ := by decide +kernel
theorem d31_27 : decode jdk_65_method_133_code 27 = .ok (.invokestatic 150, 3) := by decide +kernel
theorem d31_30 : decode jdk_65_method_133_code 30 = .ok (.aload 4, 2) := by decide +kernel
theorem d31_32 : decode jdk_65_method_133_code 32 = .ok (.areturn, 1) := by decide +kernel
theorem pn_31 : plainName "java/util/Arrays" = true := by first | (simp [plainName, overriddenIn]; done) | decide +kernel
theorem ef_rmRB (m : MethodId) {va : Addr} {il : Int32} {ir : Int32} : entryFrame m #[(.ref va), (.int il), (.int ir)] 5 = mkF m 0 #[vr va, vi il, vi ir, .unset, .unset] [] := by first | (simp [entryFrame, mkF, argsToLocals, Value.category]; done) | rfl
abbrev own_y9 : MethodName := ⟨"java/util/Arrays", "copyOfRangeByte", "([BII)[B"⟩
def QrmRB (Z : State) (vcs : Int32) (wI : Addr) (wA : Addr) (cA : Cell) (va : Addr) (il : Int32) (ir : Int32) (ka : ClassId) (zn : Int32) (vsa : (List Value)) (h0 : Heap) (n0 : Nat) (v : Option Value) (h : Heap) (L : List Loc) : Prop := ∃ (rb : Addr) (kb : ClassId) (zr : Int32) (vsr : (List Value)), (v = some (.ref rb)) ∧ (Fr n0 L) ∧ (Keep h0 h []) ∧ (Arv Z h rb kb .byte zr vsr (.int (0 : Int32))) ∧ (h0.size ≤ rb) ∧ (zr = (ir - il))
theorem rmRB (l : Launch) (Z : State) (a0 : Array Value) (hw : ∀ d ∈ tables_1, d.before a0 Z = true) (ws : List Jvm.Cond) (vcs : Int32) (wI : Addr) (wA : Addr) (cA : Cell) (G : Gh Z vcs wI wA cA) (va : Addr) (il : Int32) (ir : Int32) (ka : ClassId) (zn : Int32) (vsa : (List Value)) (h0 : Heap) (n0 : Nat) (O0 : Old Z n0 h0) (VA : Arv Z h0 va ka .byte zn vsa (.int (0 : Int32))) (hSl : Sl il ir zn) :
    MetFree l own_y9 (head1 (Jvm.Cond.code own_y9 jdk_65_method_133_code 5 (some (.array .byte)) :: ws) ({ frames := 1, cells := 1, slots := 3, locals := 40 } : Room)) (fun aa' UU' => aa' = #[(.ref va), (.int il), (.int ir)] ∧ Z.Warmed39 UU'.vm ∧ UU'.heap = h0) (fun _ _ _ _ _ => True) (fun _ UU' oo' VV' => ∃ v' L', oo' = .returned v' ∧ QrmRB Z vcs wI wA cA va il ir ka zn vsa h0 n0 v' VV'.heap L' ∧ FrameEnd UU' oo' VV' L' ({ frames := 1, cells := 1, slots := 3, locals := 40 } : Room).cells ({ frames := 1, cells := 1, slots := 3, locals := 40 } : Room).slots) := by
  refine MetFree.of_bodySF (plainFor_of_name pn_31) hisR ?_
  intro p e s m args below meth c s₁ Bd hml0 hP hK
  obtain ⟨rfl, hZ, hh⟩ := hP
  have hml : c.maxLocals = 5 := hml0
  obtain ⟨hx, hby, hlk, hown, hnm, hret, X0, e0⟩ := own_hd Bd hh
  have N0 := Fr.nil n0
  have KC0 : Keep h0 h0 [] := Keep.refl _ _
  refine Go.body ?_
  obtain ⟨Pf, hPf⟩ : ∃ P, P = Fin' s below ({ frames := 1, cells := 1, slots := 3, locals := 40 } : Room).cells ({ frames := 1, cells := 1, slots := 3, locals := 40 } : Room).slots (QrmRB Z vcs wI wA cA va il ir ka zn vsa h0 n0) := ⟨_, rfl⟩
  rw [← hPf]
  refine Go.cast (ef_rmRB m) ?_
  have hw15 := own_w hw 15 rfl
  have hw144 := own_w hw 144 rfl
  have hw149 := own_w hw 149 rfl
  have hw150 := own_w hw 150 rfl
  have hw151 := own_w hw 151 rfl
  have hw152 := own_w hw 152 rfl
  have hw153 := own_w hw 153 rfl
  have hw154 := own_w hw 154 rfl
  have hw155 := own_w hw 155 rfl
  have hw156 := own_w hw 156 rfl
  have hw157 := own_w hw 157 rfl
  have hw158 := own_w hw 158 rfl
  have hw159 := own_w hw 159 rfl
  show Go p.tables e below Pf (s₁.setTop (mkF m 0 #[vr va, vi il, vi ir, .unset, .unset] []))
  refine Go.by' (fun t k => (XS.iloadN X0.here hx rfl (hb hby d31_0) rfl (XS.iloadN X0.here hx rfl (hb hby d31_1) rfl k))) ?_
  obtain ⟨_, _, ⟨T101, L101, k101, n101⟩, -, X101, ⟨Lc101, hQ101, l101, y101, z101⟩, st101⟩ := Jvm.LawKit.callS X0 hx (y := own_y7) hown (mvT hZ hw149) (mvT hZ hw150) (mvT hZ hw144) (mvT hZ hw151) (by decide) (backOf (W := 0) (rmCk l Z a0 hw [] vcs wI wA cA G il ir h0 n0 O0 hSl.2.1) hZ hw151 hw144 (by decide) (by decide)) (g := (mkF m 2 #[vr va, vi il, vi ir, .unset, .unset] [(.int ir), (.int il)])) rfl (by rw [hml]; rfl) (argsL := [(.int il), (.int ir)]) (rest := []) (lenOf pd_3 rfl) rfl (Nat.le_of_eq rfl) (hb hby d31_2) (fun _ _ => ⟨rfl, e0, (by decide : 0 + 0 ≤ _), (by decide : 0 + 0 ≤ _)⟩)
  dsimp only [Pt.U, Pt.locs, Pt.cells, Pt.slots] at X101 l101 y101 z101 st101 hQ101
  subst l101 y101 z101
  obtain ⟨rfl, rfl, e101⟩ := hQ101
  try replace X101 := own_nil X101
  refine Go.by' st101 ?_
  show Go p.tables e below Pf (T101.setTop (mkF m 5 #[vr va, vi il, vi ir, .unset, .unset] []))
  refine Go.by' (fun t k => (XS.iloadN X101.here hx rfl (hb hby d31_5) rfl (XS.iloadN X101.here hx rfl (hb hby d31_6) rfl (XS.isub X101.here hx rfl (hb hby d31_7) rfl (XS.istoreN X101.here hx rfl (hb hby d31_8) rfl (l' := #[vr va, vi il, vi ir, vi (ir - il), .unset]) rfl (XS.iloadN X101.here hx rfl (hb hby d31_9) rfl k)))))) ?_
  obtain ⟨T102, h102, k102, X102, e102, E102, A102, st102⟩ := newP (aty := .byte) X101 hx hZ hw15 e101 (g := (mkF m 10 #[vr va, vi il, vi ir, vi (ir - il), .unset] [(.int (ir - il))])) rfl (hb hby d31_10) rfl hSl.2.2.1 (cap := 3) hSl.2.2.2.1 (by decide) (by decide) (by decide)
  obtain ⟨b102, g102⟩ : ∃ z, z = h0.size := ⟨_, rfl⟩
  rw [← g102] at A102 st102
  refine Go.by' st102 ?_
  have g_b102 : n0 ≤ b102 := Nat.le_trans (own_le O0) (Nat.le_of_eq g102.symm)
  have sz_b102 : h0.size ≤ b102 := Nat.le_trans KC0.1 (Nat.le_of_eq g102.symm)
  have O102 := O0.ext E102
  have KC102 : Keep h0 h102 [] := KC0.ext E102
  have V102 : Arv Z h102 b102 k102 .byte (ir - il) [(.int (0 : Int32)), (.int (0 : Int32)), (.int (0 : Int32))] (Value.int (0 : Int32)) := (Arv.new A102 hSl.2.2.1).pad (pad_rep [] (Value.int (0 : Int32)) 3)
  show Go p.tables e below Pf (T102.setTop (mkF m 12 #[vr va, vi il, vi ir, vi (ir - il), .unset] [(.ref b102)]))
  refine Go.by' (fun t k => (XS.astore X102.here hx rfl (hb hby d31_12) rfl rfl (l' := #[vr va, vi il, vi ir, vi (ir - il), vr b102]) rfl (XS.aloadN X102.here hx rfl (hb hby d31_14) rfl rfl (XS.iloadN X102.here hx rfl (hb hby d31_15) rfl (XS.aload X102.here hx rfl (hb hby d31_16) rfl rfl (XS.iconst X102.here hx rfl (hb hby d31_18) (XS.aloadN X102.here hx rfl (hb hby d31_19) rfl rfl (own_alen X102 hx hZ e102 (VA.ext E102) rfl rfl (hb hby d31_20) (XS.iloadN X102.here hx rfl (hb hby d31_21) rfl k))))))))) ?_
  show Go p.tables e below Pf (T102.setTop (mkF m 22 #[vr va, vi il, vi ir, vi (ir - il), vr b102] [(.int il), (.int zn), (.int (0 : Int32)), (.ref b102), (.int il), (.ref va)]))
  refine Go.by' (fun t k => (XS.isub X102.here hx rfl (hb hby d31_22) rfl (XS.iloadN X102.here hx rfl (hb hby d31_23) rfl k))) ?_
  obtain ⟨_, _, ⟨T104, L104, k104, n104⟩, -, X104, ⟨Lc104, hQ104, l104, y104, z104⟩, st104⟩ := Jvm.LawKit.callS X102 hx (y := own_y8) hown (mvT hZ hw152) (mvT hZ hw153) (mvT hZ hw154) (mvT hZ hw155) (by decide) (backOf (W := 4) (rmMi l Z a0 hw [] vcs wI wA cA G ((zn - il)) ((ir - il)) h102 n0 O102 hSl.2.2.2.2.1) hZ hw155 hw154 (by decide) (by decide)) (g := (mkF m 24 #[vr va, vi il, vi ir, vi (ir - il), vr b102] [(.int (ir - il)), (.int (zn - il)), (.int (0 : Int32)), (.ref b102), (.int il), (.ref va)])) rfl (by rw [hml]; rfl) (argsL := [(.int (zn - il)), (.int (ir - il))]) (rest := [(.int (0 : Int32)), (.ref b102), (.int il), (.ref va)]) (lenOf pd_4 rfl) rfl (Nat.le_of_eq rfl) (hb hby d31_24) (fun _ _ => ⟨rfl, e102, (by decide : 1 + 0 ≤ _), (by decide : 3 + 0 ≤ _)⟩)
  dsimp only [Pt.U, Pt.locs, Pt.cells, Pt.slots] at X104 l104 y104 z104 st104 hQ104
  subst l104 y104 z104
  obtain ⟨r_104, rfl, rfl, e104, r104_0⟩ := hQ104
  try replace X104 := own_nil X104
  refine Go.by' st104 ?_
  subst r104_0
  obtain ⟨T105, h105, Lc105, vc105, X105, e105, K105, V105, Rc105, By105, st105⟩ := own_acopyG X104 hx hZ hown (own_acw (mvT hZ hw156) (mvT hZ hw159) (mvT hZ hw157) (mvT hZ hw158)) e104 rfl (VA.ext E102) V102 hSl.1 (by decide) hSl.2.2.1 hSl.2.2.2.2.2.1 (Int.le_of_eq (Int.zero_add _)) (g := (mkF m 27 #[vr va, vi il, vi ir, vi (ir - il), vr b102] [(.int (ir - il)), (.int (0 : Int32)), (.ref b102), (.int il), (.ref va)])) rfl (by rw [hml]; rfl) rfl (hb hby d31_27) (W := 0) (Nat.le_of_eq rfl) (by decide) (by decide)
  refine Go.by' st105 ?_
  have N105 := Fr.app N0 (fun y hy => by rw [By105 y hy]; exact g_b102 : Fr n0 Lc105)
  obtain ⟨lc105, X105, N105⟩ := own_pack X105 N105
  have O105 := O102.keep K105 (allS g_b102 all0)
  have KC105 : Keep h0 h105 [] := KC102.trans K105 (allS (Or.inr sz_b102) all0)
  show Go p.tables e below Pf (T105.setTop (mkF m 30 #[vr va, vi il, vi ir, vi (ir - il), vr b102] []))
  refine Go.by' (fun t k => (XS.aload X105.here hx rfl (hb hby d31_30) rfl rfl k)) ?_
  show Go p.tables e below Pf (T105.setTop (mkF m 32 #[vr va, vi il, vi ir, vi (ir - il), vr b102] [(.ref b102)]))
  rw [hPf]
  exact Go.retA' X105 hx hret hlk rfl rfl (hb hby d31_32) (by decide) (by decide) ⟨b102, k102, (ir - il), vc105, rfl, N105, (by rw [e105]; exact KC105), (by rw [e105]; exact V105), sz_b102, rfl⟩
theorem d30_0 : decode jdk_65_method_132_code 0 = .ok (.iload_n 1, 1) := by decide +kernel
theorem d30_1 : decode jdk_65_method_132_code 1 = .ok (.ifCond .ne 9, 3) := by decide +kernel
theorem d30_4 : decode jdk_65_method_132_code 4 = .ok (.iload_n 2, 1) := by decide +kernel
theorem d30_5 : decode jdk_65_method_132_code 5 = .ok (.aload_n 0, 1) := by decide +kernel
theorem d30_6 : decode jdk_65_method_132_code 6 = .ok (.arraylength, 1) := by decide +kernel
theorem d30_7 : decode jdk_65_method_132_code 7 = .ok (.if_icmp .eq 10, 3) := by decide +kernel
theorem d30_10 : decode jdk_65_method_132_code 10 = .ok (.aload_n 0, 1) := by decide +kernel
theorem d30_11 : decode jdk_65_method_132_code 11 = .ok (.iload_n 1, 1) := by decide +kernel
theorem d30_12 : decode jdk_65_method_132_code 12 = .ok (.iload_n 2, 1) := by decide +kernel
theorem d30_13 : decode jdk_65_method_132_code 13 = .ok (.invokestatic 339, 3) := by decide +kernel
theorem pd_5 : parseMethodDescriptor "([BII)[B" = some ⟨[(.array .byte), .int, .int], some (.array .byte)⟩ := by decide +kernel
theorem d30_16 : decode jdk_65_method_132_code 16 = .ok (.areturn, 1) := by decide +kernel
theorem pn_30 : plainName "java/util/Arrays" = true := by first | (simp [plainName, overriddenIn]; done) | decide +kernel
theorem ef_rmCR (m : MethodId) {va : Addr} {il : Int32} {ir : Int32} : entryFrame m #[(.ref va), (.int il), (.int ir)] 3 = mkF m 0 #[vr va, vi il, vi ir] [] := by first | (simp [entryFrame, mkF, argsToLocals, Value.category]; done) | rfl
abbrev own_y10 : MethodName := ⟨"java/util/Arrays", "copyOfRange", "([BII)[B"⟩
def QrmCR (Z : State) (vcs : Int32) (wI : Addr) (wA : Addr) (cA : Cell) (va : Addr) (il : Int32) (ir : Int32) (ka : ClassId) (zn : Int32) (vsa : (List Value)) (h0 : Heap) (n0 : Nat) (v : Option Value) (h : Heap) (L : List Loc) : Prop := ∃ (rb : Addr) (kb : ClassId) (zr : Int32) (vsr : (List Value)), (v = some (.ref rb)) ∧ (Fr n0 L) ∧ (Keep h0 h []) ∧ (Arv Z h rb kb .byte zr vsr (.int (0 : Int32))) ∧ (h0.size ≤ rb) ∧ (zr = (ir - il))
theorem rmCR (l : Launch) (Z : State) (a0 : Array Value) (hw : ∀ d ∈ tables_1, d.before a0 Z = true) (ws : List Jvm.Cond) (vcs : Int32) (wI : Addr) (wA : Addr) (cA : Cell) (G : Gh Z vcs wI wA cA) (va : Addr) (il : Int32) (ir : Int32) (ka : ClassId) (zn : Int32) (vsa : (List Value)) (h0 : Heap) (n0 : Nat) (O0 : Old Z n0 h0) (VA : Arv Z h0 va ka .byte zn vsa (.int (0 : Int32))) (hSl : Sl il ir zn) :
    MetFree l own_y10 (head1 (Jvm.Cond.code own_y10 jdk_65_method_132_code 3 (some (.array .byte)) :: ws) ({ frames := 2, cells := 1, slots := 3, locals := 56 } : Room)) (fun aa' UU' => aa' = #[(.ref va), (.int il), (.int ir)] ∧ Z.Warmed39 UU'.vm ∧ UU'.heap = h0) (fun _ _ _ _ _ => True) (fun _ UU' oo' VV' => ∃ v' L', oo' = .returned v' ∧ QrmCR Z vcs wI wA cA va il ir ka zn vsa h0 n0 v' VV'.heap L' ∧ FrameEnd UU' oo' VV' L' ({ frames := 2, cells := 1, slots := 3, locals := 56 } : Room).cells ({ frames := 2, cells := 1, slots := 3, locals := 56 } : Room).slots) := by
  refine MetFree.of_bodySF (plainFor_of_name pn_30) hisR ?_
  intro p e s m args below meth c s₁ Bd hml0 hP hK
  obtain ⟨rfl, hZ, hh⟩ := hP
  have hml : c.maxLocals = 3 := hml0
  obtain ⟨hx, hby, hlk, hown, hnm, hret, X0, e0⟩ := own_hd Bd hh
  have N0 := Fr.nil n0
  have KC0 : Keep h0 h0 [] := Keep.refl _ _
  refine Go.body ?_
  obtain ⟨Pf, hPf⟩ : ∃ P, P = Fin' s below ({ frames := 2, cells := 1, slots := 3, locals := 56 } : Room).cells ({ frames := 2, cells := 1, slots := 3, locals := 56 } : Room).slots (QrmCR Z vcs wI wA cA va il ir ka zn vsa h0 n0) := ⟨_, rfl⟩
  rw [← hPf]
  refine Go.cast (ef_rmCR m) ?_
  have hw144 := own_w hw 144 rfl
  have hw146 := own_w hw 146 rfl
  have hw147 := own_w hw 147 rfl
  have hw148 := own_w hw 148 rfl
  show Go p.tables e below Pf (s₁.setTop (mkF m 0 #[vr va, vi il, vi ir] []))
  refine Go.by' (fun t k => (XS.iloadN X0.here hx rfl (hb hby d30_0) rfl k)) ?_
  show Go p.tables e below Pf (s₁.setTop (mkF m 1 #[vr va, vi il, vi ir] [(.int il)]))
  by_cases hc106 : il = (0 : Int32)
  · refine Go.by' (fun t k => (XS.ifNo X0.here hx rfl (hb hby d30_1) rfl ((if0 _ _).trans (teq hc106).2) (XS.iloadN X0.here hx rfl (hb hby d30_4) rfl (XS.aloadN X0.here hx rfl (hb hby d30_5) rfl rfl (own_alen X0 hx hZ e0 VA rfl rfl (hb hby d30_6) (XS.icmpNo X0.here hx rfl (hb hby d30_7) rfl (feq (hSl.2.2.2.2.2.2 hc106)).1 (XS.aloadN X0.here hx rfl (hb hby d30_10) rfl rfl (XS.iloadN X0.here hx rfl (hb hby d30_11) rfl (XS.iloadN X0.here hx rfl (hb hby d30_12) rfl k))))))))) ?_
    obtain ⟨_, _, ⟨T108, L108, k108, n108⟩, -, X108, ⟨Lc108, hQ108, l108, y108, z108⟩, st108⟩ := Jvm.LawKit.callS X0 hx (y := own_y9) hown (mvT hZ hw146) (mvT hZ hw147) (mvT hZ hw144) (mvT hZ hw148) (by decide) (backOf (W := 0) (rmRB l Z a0 hw [] vcs wI wA cA G va il ir ka zn vsa h0 n0 O0 VA hSl) hZ hw148 hw144 (by decide) (by decide)) (g := (mkF m 13 #[vr va, vi il, vi ir] [(.int ir), (.int il), (.ref va)])) rfl (by rw [hml]; rfl) (argsL := [(.ref va), (.int il), (.int ir)]) (rest := []) (lenOf pd_5 rfl) rfl (Nat.le_of_eq rfl) (hb hby d30_13) (fun _ _ => ⟨rfl, e0, (by decide : 0 + 1 ≤ _), (by decide : 0 + 3 ≤ _)⟩)
    dsimp only [Pt.U, Pt.locs, Pt.cells, Pt.slots] at X108 l108 y108 z108 st108 hQ108
    subst l108 y108 z108
    obtain ⟨rb_108, kb_108, zr_108, vsr_108, rfl, N108q, K108, f108_0, f108_1, r108_0⟩ := hQ108
    have N108 := Fr.app N0 N108q
    obtain ⟨lc108, X108, N108⟩ := own_pack X108 N108
    refine Go.by' st108 ?_
    have g_rb_108 : n0 ≤ rb_108 := Nat.le_trans (own_le O0) f108_1
    have sz_rb_108 : h0.size ≤ rb_108 := Nat.le_trans KC0.1 f108_1
    have O108 := O0.keep K108 all0
    have KC108 : Keep h0 T108.heap [] := KC0.trans K108 all0
    show Go p.tables e below Pf (T108.setTop (mkF m 16 #[vr va, vi il, vi ir] [(.ref rb_108)]))
    rw [hPf]
    exact Go.retA' X108 hx hret hlk rfl rfl (hb hby d30_16) (by decide) (by decide) ⟨rb_108, kb_108, zr_108, vsr_108, rfl, N108, KC108, f108_0, sz_rb_108, r108_0⟩
  · refine Go.by' (fun t k => (XS.ifYes X0.here hx rfl (pc0 := 1) (pc' := 10) rfl (hb hby d30_1) rfl ((if0 _ _).trans (feq hc106).2) (by decide) (by decide) (XS.aloadN X0.here hx rfl (hb hby d30_10) rfl rfl (XS.iloadN X0.here hx rfl (hb hby d30_11) rfl (XS.iloadN X0.here hx rfl (hb hby d30_12) rfl k))))) ?_
    obtain ⟨_, _, ⟨T109, L109, k109, n109⟩, -, X109, ⟨Lc109, hQ109, l109, y109, z109⟩, st109⟩ := Jvm.LawKit.callS X0 hx (y := own_y9) hown (mvT hZ hw146) (mvT hZ hw147) (mvT hZ hw144) (mvT hZ hw148) (by decide) (backOf (W := 0) (rmRB l Z a0 hw [] vcs wI wA cA G va il ir ka zn vsa h0 n0 O0 VA hSl) hZ hw148 hw144 (by decide) (by decide)) (g := (mkF m 13 #[vr va, vi il, vi ir] [(.int ir), (.int il), (.ref va)])) rfl (by rw [hml]; rfl) (argsL := [(.ref va), (.int il), (.int ir)]) (rest := []) (lenOf pd_5 rfl) rfl (Nat.le_of_eq rfl) (hb hby d30_13) (fun _ _ => ⟨rfl, e0, (by decide : 0 + 1 ≤ _), (by decide : 0 + 3 ≤ _)⟩)
    dsimp only [Pt.U, Pt.locs, Pt.cells, Pt.slots] at X109 l109 y109 z109 st109 hQ109
    subst l109 y109 z109
    obtain ⟨rb_109, kb_109, zr_109, vsr_109, rfl, N109q, K109, f109_0, f109_1, r109_0⟩ := hQ109
    have N109 := Fr.app N0 N109q
    obtain ⟨lc109, X109, N109⟩ := own_pack X109 N109
    refine Go.by' st109 ?_
    have g_rb_109 : n0 ≤ rb_109 := Nat.le_trans (own_le O0) f109_1
    have sz_rb_109 : h0.size ≤ rb_109 := Nat.le_trans KC0.1 f109_1
    have O109 := O0.keep K109 all0
    have KC109 : Keep h0 T109.heap [] := KC0.trans K109 all0
    show Go p.tables e below Pf (T109.setTop (mkF m 16 #[vr va, vi il, vi ir] [(.ref rb_109)]))
    rw [hPf]
    exact Go.retA' X109 hx hret hlk rfl rfl (hb hby d30_16) (by decide) (by decide) ⟨rb_109, kb_109, zr_109, vsr_109, rfl, N109, KC109, f109_0, sz_rb_109, r109_0⟩
theorem d29_0 : decode jdk_43_method_47_code 0 = .ok (.iload_n 2, 1) := by decide +kernel
theorem d29_1 : decode jdk_43_method_47_code 1 = .ok (.ifCond .ne 6, 3) := by decide +kernel
theorem d29_7 : decode jdk_43_method_47_code 7 = .ok (.new 1, 3) := by decide +kernel
theorem d29_10 : decode jdk_43_method_47_code 10 = .ok (.dup, 1) := by decide +kernel
theorem d29_11 : decode jdk_43_method_47_code 11 = .ok (.aload_n 0, 1) := by decide +kernel
theorem d29_12 : decode jdk_43_method_47_code 12 = .ok (.iload_n 1, 1) := by decide +kernel
theorem d29_13 : decode jdk_43_method_47_code 13 = .ok (.iload_n 1, 1) := by decide +kernel
theorem d29_14 : decode jdk_43_method_47_code 14 = .ok (.iload_n 2, 1) := by decide +kernel
theorem d29_15 : decode jdk_43_method_47_code 15 = .ok (.iadd, 1) := by decide +kernel
theorem d29_16 : decode jdk_43_method_47_code 16 = .ok (.invokestatic 232, 3) := by decide +kernel
theorem d29_19 : decode jdk_43_method_47_code 19 = .ok (.iconst 0, 1) := by decide +kernel
theorem d29_20 : decode jdk_43_method_47_code 20 = .ok (.invokespecial 112, 3) := by decide +kernel
theorem pd_6 : parseMethodDescriptor "([BB)V" = some ⟨[(.array .byte), .byte], none⟩ := by decide +kernel
theorem d29_23 : decode jdk_43_method_47_code 23 = .ok (.areturn, 1) := by decide +kernel
theorem pn_29 : plainName "java/lang/StringLatin1" = true := by first | (simp [plainName, overriddenIn]; done) | decide +kernel
theorem ef_rmNS (m : MethodId) {va : Addr} {il : Int32} {ik : Int32} : entryFrame m #[(.ref va), (.int il), (.int ik)] 3 = mkF m 0 #[vr va, vi il, vi ik] [] := by first | (simp [entryFrame, mkF, argsToLocals, Value.category]; done) | rfl
abbrev own_y11 : MethodName := ⟨"java/lang/StringLatin1", "newString", "([BII)Ljava/lang/String;"⟩
def QrmNS (Z : State) (vcs : Int32) (wI : Addr) (wA : Addr) (cA : Cell) (va : Addr) (il : Int32) (ik : Int32) (ka : ClassId) (zn : Int32) (vsa : (List Value)) (h0 : Heap) (n0 : Nat) (v : Option Value) (h : Heap) (L : List Loc) : Prop := ∃ (r : Addr) (rb : Addr) (kb : ClassId) (zr : Int32) (vsr : (List Value)), (v = some (.ref r)) ∧ (Fr n0 L) ∧ (Keep h0 h []) ∧ (h0.size ≤ r) ∧ (Exa Z h r "java/lang/String") ∧ (Fld Z h r "java/lang/String" "value" "[B" (.ref rb)) ∧ (Fld Z h r "java/lang/String" "coder" "B" (.int (0 : Int32))) ∧ (Arv Z h rb kb .byte zr vsr (.int (0 : Int32))) ∧ (h0.size ≤ rb) ∧ (zr = ((il + ik) - il))
theorem rmNS (l : Launch) (Z : State) (a0 : Array Value) (hw : ∀ d ∈ tables_1, d.before a0 Z = true) (ws : List Jvm.Cond) (vcs : Int32) (wI : Addr) (wA : Addr) (cA : Cell) (G : Gh Z vcs wI wA cA) (va : Addr) (il : Int32) (ik : Int32) (ka : ClassId) (zn : Int32) (vsa : (List Value)) (h0 : Heap) (n0 : Nat) (O0 : Old Z n0 h0) (VA : Arv Z h0 va ka .byte zn vsa (.int (0 : Int32))) (hSl : Sl il (il + ik) zn) (hk0 : ¬ (ik = (0 : Int32))) :
    MetFree l own_y11 (head1 (Jvm.Cond.code own_y11 jdk_43_method_47_code 3 (some (.object "java/lang/String")) :: ws) ({ frames := 3, cells := 2, slots := 7, locals := 72 } : Room)) (fun aa' UU' => aa' = #[(.ref va), (.int il), (.int ik)] ∧ Z.Warmed39 UU'.vm ∧ UU'.heap = h0) (fun _ _ _ _ _ => True) (fun _ UU' oo' VV' => ∃ v' L', oo' = .returned v' ∧ QrmNS Z vcs wI wA cA va il ik ka zn vsa h0 n0 v' VV'.heap L' ∧ FrameEnd UU' oo' VV' L' ({ frames := 3, cells := 2, slots := 7, locals := 72 } : Room).cells ({ frames := 3, cells := 2, slots := 7, locals := 72 } : Room).slots) := by
  refine MetFree.of_bodySF (plainFor_of_name pn_29) hisR ?_
  intro p e s m args below meth c s₁ Bd hml0 hP hK
  obtain ⟨rfl, hZ, hh⟩ := hP
  have hml : c.maxLocals = 3 := hml0
  obtain ⟨hx, hby, hlk, hown, hnm, hret, X0, e0⟩ := own_hd Bd hh
  have N0 := Fr.nil n0
  have KC0 : Keep h0 h0 [] := Keep.refl _ _
  refine Go.body ?_
  obtain ⟨Pf, hPf⟩ : ∃ P, P = Fin' s below ({ frames := 3, cells := 2, slots := 7, locals := 72 } : Room).cells ({ frames := 3, cells := 2, slots := 7, locals := 72 } : Room).slots (QrmNS Z vcs wI wA cA va il ik ka zn vsa h0 n0) := ⟨_, rfl⟩
  rw [← hPf]
  refine Go.cast (ef_rmNS m) ?_
  have hw2 := own_w hw 2 rfl
  have hw3 := own_w hw 3 rfl
  have hw16 := own_w hw 16 rfl
  have hw17 := own_w hw 17 rfl
  have hw141 := own_w hw 141 rfl
  have hw142 := own_w hw 142 rfl
  have hw143 := own_w hw 143 rfl
  have hw144 := own_w hw 144 rfl
  have hw145 := own_w hw 145 rfl
  have hw160 := own_w hw 160 rfl
  have hw161 := own_w hw 161 rfl
  have hw162 := own_w hw 162 rfl
  show Go p.tables e below Pf (s₁.setTop (mkF m 0 #[vr va, vi il, vi ik] []))
  refine Go.by' (fun t k => (XS.iloadN X0.here hx rfl (hb hby d29_0) rfl (XS.ifYes X0.here hx rfl (pc0 := 1) (pc' := 7) rfl (hb hby d29_1) rfl ((if0 _ _).trans (feq hk0).2) (by decide) (by decide) k))) ?_
  obtain ⟨T110, h110, X110, e110, E110, A110, D110, -, st110⟩ := newO X0 hx hZ hown hw141 hw2 hw3 e0 (g := (mkF m 7 #[vr va, vi il, vi ik] [])) rfl (hb hby d29_7) (by decide) (by decide)
  obtain ⟨b110, g110⟩ : ∃ z, z = h0.size := ⟨_, rfl⟩
  rw [← g110] at A110 D110 st110
  refine Go.by' st110 ?_
  have g_b110 : n0 ≤ b110 := Nat.le_trans (own_le O0) (Nat.le_of_eq g110.symm)
  have sz_b110 : h0.size ≤ b110 := Nat.le_trans KC0.1 (Nat.le_of_eq g110.symm)
  have O110 := O0.ext E110
  have KC110 : Keep h0 h110 [] := KC0.ext E110
  have Fn110_16 : Fld Z h110 b110 "java/lang/String" "value" "[B" Value.null := D110 (Or.inr hw16) (ty := (.array .byte)) (by decide)
  have Fn110_17 : Fld Z h110 b110 "java/lang/String" "coder" "B" (Value.int (0 : Int32)) := D110 (Or.inr hw17) (ty := .byte) (by decide)
  show Go p.tables e below Pf (T110.setTop (mkF m 10 #[vr va, vi il, vi ik] [(.ref b110)]))
  refine Go.by' (fun t k => (XS.dup X110.here hx rfl (hb hby d29_10) rfl rfl (XS.aloadN X110.here hx rfl (hb hby d29_11) rfl rfl (XS.iloadN X110.here hx rfl (hb hby d29_12) rfl (XS.iloadN X110.here hx rfl (hb hby d29_13) rfl (XS.iloadN X110.here hx rfl (hb hby d29_14) rfl (XS.iadd X110.here hx rfl (hb hby d29_15) rfl k))))))) ?_
  obtain ⟨_, _, ⟨T111, L111, k111, n111⟩, -, X111, ⟨Lc111, hQ111, l111, y111, z111⟩, st111⟩ := Jvm.LawKit.callS X110 hx (y := own_y10) hown (mvT hZ hw142) (mvT hZ hw143) (mvT hZ hw144) (mvT hZ hw145) (by decide) (backOf (W := 2) (rmCR l Z a0 hw [] vcs wI wA cA G va il ((il + ik)) ka zn vsa h110 n0 O110 (VA.ext E110) hSl) hZ hw145 hw144 (by decide) (by decide)) (g := (mkF m 16 #[vr va, vi il, vi ik] [(.int (il + ik)), (.int il), (.ref va), (.ref b110), (.ref b110)])) rfl (by rw [hml]; rfl) (argsL := [(.ref va), (.int il), (.int (il + ik))]) (rest := [(.ref b110), (.ref b110)]) (lenOf pd_5 rfl) rfl (Nat.le_of_eq rfl) (hb hby d29_16) (fun _ _ => ⟨rfl, e110, (by decide : 1 + 1 ≤ _), (by decide : 4 + 3 ≤ _)⟩)
  dsimp only [Pt.U, Pt.locs, Pt.cells, Pt.slots] at X111 l111 y111 z111 st111 hQ111
  subst l111 y111 z111
  obtain ⟨rb_111, kb_111, zr_111, vsr_111, rfl, N111q, K111, f111_0, f111_1, r111_0⟩ := hQ111
  have N111 := Fr.app N0 N111q
  obtain ⟨lc111, X111, N111⟩ := own_pack X111 N111
  refine Go.by' st111 ?_
  have g_rb_111 : n0 ≤ rb_111 := Nat.le_trans (own_le O110) f111_1
  have sz_rb_111 : h0.size ≤ rb_111 := Nat.le_trans KC110.1 f111_1
  have O111 := O110.keep K111 all0
  have KC111 : Keep h0 T111.heap [] := KC110.trans K111 all0
  show Go p.tables e below Pf (T111.setTop (mkF m 19 #[vr va, vi il, vi ik] [(.ref rb_111), (.ref b110), (.ref b110)]))
  refine Go.by' (fun t k => (XS.iconst X111.here hx rfl (hb hby d29_19) k)) ?_
  obtain ⟨_, _, ⟨T112, L112, k112, n112⟩, -, X112, ⟨Lc112, hQ112, l112, y112, z112⟩, st112⟩ := X111.specialBack hx (y := own_y6) rfl hown (mvT hZ hw160) (mvT hZ hw161) (mvT hZ hw162) (by decide) (backOf (W := 1) (rmIB l Z a0 hw [] vcs wI wA cA G b110 rb_111 T111.heap n0 O111 (A110.keep K111) (Fn110_16.keep K111 nin0) (Fn110_17.keep K111 nin0) g_b110) hZ hw162 hw3 (by decide) (by decide)) (g := (mkF m 20 #[vr va, vi il, vi ik] [(.int (0 : Int32)), (.ref rb_111), (.ref b110), (.ref b110)])) rfl (by rw [hml]; rfl) (Steps.refl _) (a := b110) (argsL := [(.ref rb_111), (.int (0 : Int32))]) (rest := [(.ref b110)]) (lenOf pd_6 rfl) rfl (Nat.le_of_eq rfl) (hb hby d29_20) (fun _ _ => ⟨rfl, rfl, (by decide : 2 + 0 ≤ _), (by decide : 7 + 0 ≤ _)⟩)
  dsimp only [Pt.U, Pt.locs, Pt.cells, Pt.slots] at X112 l112 y112 z112 st112 hQ112
  subst l112 y112 z112
  obtain ⟨rfl, N112q, K112, f112_0, f112_1, f112_2⟩ := hQ112
  have N112 := Fr.app N111 N112q
  obtain ⟨lc112, X112, N112⟩ := own_pack X112 N112
  refine Go.by' (fun t k => st112.trans k) ?_
  have O112 := O111.keep K112 (allS g_b110 all0)
  have KC112 : Keep h0 T112.heap [] := KC111.trans K112 (allS (Or.inr sz_b110) all0)
  show Go p.tables e below Pf (T112.setTop (mkF m 23 #[vr va, vi il, vi ik] [(.ref b110)]))
  rw [hPf]
  exact Go.retA' X112 hx hret hlk rfl rfl (hb hby d29_23) (by decide) (by decide) ⟨b110, rb_111, kb_111, zr_111, vsr_111, rfl, N112, KC112, sz_b110, f112_0, f112_1, f112_2, (f111_0.keep K112 (ninS (Ne.symm (Nat.ne_of_lt (Nat.lt_of_lt_of_le A110.lt f111_1))) nin0)), sz_rb_111, r111_0⟩
theorem d11_0 : decode jdk_42_method_154_code 0 = .ok (.getstatic 38, 3) := by decide +kernel
theorem d11_3 : decode jdk_42_method_154_code 3 = .ok (.ifCond .eq 14, 3) := by decide +kernel
theorem d11_6 : decode jdk_42_method_154_code 6 = .ok (.aload_n 0, 1) := by decide +kernel
theorem d11_7 : decode jdk_42_method_154_code 7 = .ok (.getfield 15, 3) := by decide +kernel
theorem d11_10 : decode jdk_42_method_154_code 10 = .ok (.ifCond .ne 7, 3) := by decide +kernel
theorem d11_13 : decode jdk_42_method_154_code 13 = .ok (.iconst 1, 1) := by decide +kernel
theorem d11_14 : decode jdk_42_method_154_code 14 = .ok (.goto 4, 3) := by decide +kernel
theorem d11_18 : decode jdk_42_method_154_code 18 = .ok (.ireturn, 1) := by decide +kernel
theorem pn_11 : plainName "java/lang/String" = true := by first | (simp [plainName, overriddenIn]; done) | decide +kernel
theorem ef_rmSL (m : MethodId) {sa : Addr} : entryFrame m #[(.ref sa)] 1 = mkF m 0 #[vr sa] [] := by first | (simp [entryFrame, mkF, argsToLocals, Value.category]; done) | rfl
abbrev own_y12 : MethodName := ⟨"java/lang/String", "isLatin1", "()Z"⟩
def QrmSL (Z : State) (vcs : Int32) (wI : Addr) (wA : Addr) (cA : Cell) (sa : Addr) (h0 : Heap) (n0 : Nat) (v : Option Value) (h : Heap) (L : List Loc) : Prop := (v = some (.int (1 : Int32))) ∧ (L = []) ∧ (h = h0)
theorem rmSL (l : Launch) (Z : State) (a0 : Array Value) (hw : ∀ d ∈ tables_1, d.before a0 Z = true) (ws : List Jvm.Cond) (vcs : Int32) (wI : Addr) (wA : Addr) (cA : Cell) (G : Gh Z vcs wI wA cA) (sa : Addr) (h0 : Heap) (n0 : Nat) (O0 : Old Z n0 h0) (CA : Fld Z h0 sa "java/lang/String" "coder" "B" (.int (0 : Int32))) :
    MetFree l own_y12 (head1 (Jvm.Cond.code own_y12 jdk_42_method_154_code 1 (some .boolean) :: ws) ({ frames := 0, cells := 0, slots := 0, locals := 0 } : Room)) (fun aa' UU' => aa' = #[(.ref sa)] ∧ Z.Warmed39 UU'.vm ∧ UU'.heap = h0) (fun _ _ _ _ _ => True) (fun _ UU' oo' VV' => ∃ v' L', oo' = .returned v' ∧ QrmSL Z vcs wI wA cA sa h0 n0 v' VV'.heap L' ∧ FrameEnd UU' oo' VV' L' ({ frames := 0, cells := 0, slots := 0, locals := 0 } : Room).cells ({ frames := 0, cells := 0, slots := 0, locals := 0 } : Room).slots) := by
  refine MetFree.of_bodySF (plainFor_of_name pn_11) hisR ?_
  intro p e s m args below meth c s₁ Bd hml0 hP hK
  obtain ⟨rfl, hZ, hh⟩ := hP
  have hml : c.maxLocals = 1 := hml0
  obtain ⟨hx, hby, hlk, hown, hnm, hret, X0, e0⟩ := own_hd Bd hh
  have N0 := Fr.nil n0
  refine Go.body ?_
  obtain ⟨Pf, hPf⟩ : ∃ P, P = Fin' s below ({ frames := 0, cells := 0, slots := 0, locals := 0 } : Room).cells ({ frames := 0, cells := 0, slots := 0, locals := 0 } : Room).slots (QrmSL Z vcs wI wA cA sa h0 n0) := ⟨_, rfl⟩
  rw [← hPf]
  refine Go.cast (ef_rmSL m) ?_
  have hw21 := own_w hw 21 rfl
  have hw31 := own_w hw 31 rfl
  obtain ⟨T113, X113, e113, st113⟩ := getS2 X0 hx hZ hown (host := "") (Or.inl hw31) Via.refl e0 (G.1.ext O0.2) (g := (mkF m 0 #[vr sa] [])) rfl (hb hby d11_0)
  refine Go.by' st113 ?_
  show Go p.tables e below Pf (T113.setTop (mkF m 3 #[vr sa] [(.int vcs)]))
  refine Go.by' (fun t k => (XS.ifNo X113.here hx rfl (hb hby d11_3) rfl ((if0 _ _).trans (feq G.2.1).1) (XS.aloadN X113.here hx rfl (hb hby d11_6) rfl rfl k))) ?_
  obtain ⟨T114, X114, e114, st114⟩ := getF X113 hx hZ hown (host := "") (Or.inl hw21) Via.refl e113 CA (g := (mkF m 7 #[vr sa] [(.ref sa)])) rfl rfl (hb hby d11_7)
  refine Go.by' st114 ?_
  show Go p.tables e below Pf (T114.setTop (mkF m 10 #[vr sa] [(.int (0 : Int32))]))
  refine Go.by' (fun t k => (XS.ifNo X114.here hx rfl (hb hby d11_10) rfl ((if0 _ _).trans (teq (by decide)).2) (XS.iconst X114.here hx rfl (hb hby d11_13) (XS.goto X114.here hx rfl (pc0 := 14) (pc' := 18) rfl (hb hby d11_14) (by decide) (by decide) k)))) ?_
  show Go p.tables e below Pf (T114.setTop (mkF m 18 #[vr sa] [(.int (1 : Int32))]))
  rw [hPf]
  exact Go.retI' X114 hx hret hlk (by simp) rfl (hb hby d11_18) (by decide) (by decide) ⟨rfl, rfl, e114⟩
theorem d12_0 : decode jdk_43_method_39_code 0 = .ok (.aload_n 0, 1) := by decide +kernel
theorem d12_1 : decode jdk_43_method_39_code 1 = .ok (.invokestatic 214, 3) := by decide +kernel
theorem pd_7 : parseMethodDescriptor "([B)I" = some ⟨[(.array .byte)], some .int⟩ := by decide +kernel
theorem d12_4 : decode jdk_43_method_39_code 4 = .ok (.istore_n 1, 1) := by decide +kernel
theorem d12_5 : decode jdk_43_method_39_code 5 = .ok (.iload_n 1, 1) := by decide +kernel
theorem d12_6 : decode jdk_43_method_39_code 6 = .ok (.aload_n 0, 1) := by decide +kernel
theorem d12_7 : decode jdk_43_method_39_code 7 = .ok (.arraylength, 1) := by decide +kernel
theorem d12_8 : decode jdk_43_method_39_code 8 = .ok (.if_icmp .ne 6, 3) := by decide +kernel
theorem d12_14 : decode jdk_43_method_39_code 14 = .ok (.aload_n 0, 1) := by decide +kernel
theorem d12_15 : decode jdk_43_method_39_code 15 = .ok (.invokestatic 217, 3) := by decide +kernel
theorem d12_18 : decode jdk_43_method_39_code 18 = .ok (.istore_n 2, 1) := by decide +kernel
theorem d12_19 : decode jdk_43_method_39_code 19 = .ok (.iload_n 1, 1) := by decide +kernel
theorem d12_20 : decode jdk_43_method_39_code 20 = .ok (.ifCond .gt 9, 3) := by decide +kernel
theorem d12_23 : decode jdk_43_method_39_code 23 = .ok (.iload_n 2, 1) := by decide +kernel
theorem d12_24 : decode jdk_43_method_39_code 24 = .ok (.aload_n 0, 1) := by decide +kernel
theorem d12_25 : decode jdk_43_method_39_code 25 = .ok (.arraylength, 1) := by decide +kernel
theorem d12_26 : decode jdk_43_method_39_code 26 = .ok (.if_icmp .ge 7, 3) := by decide +kernel
theorem d12_33 : decode jdk_43_method_39_code 33 = .ok (.iconst 0, 1) := by decide +kernel
theorem d12_34 : decode jdk_43_method_39_code 34 = .ok (.istore_n 3, 1) := by decide +kernel
theorem d12_35 : decode jdk_43_method_39_code 35 = .ok (.iload_n 3, 1) := by decide +kernel
theorem d12_36 : decode jdk_43_method_39_code 36 = .ok (.ifCond .eq 14, 3) := by decide +kernel
theorem d12_50 : decode jdk_43_method_39_code 50 = .ok (.aconst_null, 1) := by decide +kernel
theorem d12_51 : decode jdk_43_method_39_code 51 = .ok (.areturn, 1) := by decide +kernel
theorem pn_12 : plainName "java/lang/StringLatin1" = true := by first | (simp [plainName, overriddenIn]; done) | decide +kernel
theorem ef_rmLSN_1 (m : MethodId) {va : Addr} : entryFrame m #[(.ref va)] 4 = mkF m 0 #[vr va, .unset, .unset, .unset] [] := by first | (simp [entryFrame, mkF, argsToLocals, Value.category]; done) | rfl
abbrev own_y13 : MethodName := ⟨"java/lang/StringLatin1", "strip", "([B)Ljava/lang/String;"⟩
def QrmLSN_1 (Z : State) (vcs : Int32) (wI : Addr) (wA : Addr) (cA : Cell) (va : Addr) (ka : ClassId) (x0 : Int32) (h0 : Heap) (n0 : Nat) (v : Option Value) (h : Heap) (L : List Loc) : Prop := (v = some .null) ∧ (L = []) ∧ (h = h0)
theorem rmLSN_1 (l : Launch) (Z : State) (a0 : Array Value) (hw : ∀ d ∈ tables_1, d.before a0 Z = true) (ws : List Jvm.Cond) (vcs : Int32) (wI : Addr) (wA : Addr) (cA : Cell) (G : Gh Z vcs wI wA cA) (va : Addr) (ka : ClassId) (x0 : Int32) (h0 : Heap) (n0 : Nat) (O0 : Old Z n0 h0) (VA : Arv Z h0 va ka .byte (1 : Int32) [(.int x0)] (.int (0 : Int32))) (hn0 : ¬ Ws (x0 &&& (255 : Int32))) (hnl : ¬ Ws (x0 &&& (255 : Int32))) :
    MetFree l own_y13 (head1 (Jvm.Cond.code own_y13 jdk_43_method_39_code 4 (some (.object "java/lang/String")) :: ws) ({ frames := 3, cells := 0, slots := 0, locals := 44 } : Room)) (fun aa' UU' => aa' = #[(.ref va)] ∧ Z.Warmed39 UU'.vm ∧ UU'.heap = h0) (fun _ _ _ _ _ => True) (fun _ UU' oo' VV' => ∃ v' L', oo' = .returned v' ∧ QrmLSN_1 Z vcs wI wA cA va ka x0 h0 n0 v' VV'.heap L' ∧ FrameEnd UU' oo' VV' L' ({ frames := 3, cells := 0, slots := 0, locals := 44 } : Room).cells ({ frames := 3, cells := 0, slots := 0, locals := 44 } : Room).slots) := by
  refine MetFree.of_bodySF (plainFor_of_name pn_12) hisR ?_
  intro p e s m args below meth c s₁ Bd hml0 hP hK
  obtain ⟨rfl, hZ, hh⟩ := hP
  have hml : c.maxLocals = 4 := hml0
  obtain ⟨hx, hby, hlk, hown, hnm, hret, X0, e0⟩ := own_hd Bd hh
  have N0 := Fr.nil n0
  refine Go.body ?_
  obtain ⟨Pf, hPf⟩ : ∃ P, P = Fin' s below ({ frames := 3, cells := 0, slots := 0, locals := 44 } : Room).cells ({ frames := 3, cells := 0, slots := 0, locals := 44 } : Room).slots (QrmLSN_1 Z vcs wI wA cA va ka x0 h0 n0) := ⟨_, rfl⟩
  rw [← hPf]
  refine Go.cast (ef_rmLSN_1 m) ?_
  have hw58 := own_w hw 58 rfl
  have hw60 := own_w hw 60 rfl
  have hw61 := own_w hw 61 rfl
  have hw62 := own_w hw 62 rfl
  have hw79 := own_w hw 79 rfl
  have hw80 := own_w hw 80 rfl
  have hw81 := own_w hw 81 rfl
  show Go p.tables e below Pf (s₁.setTop (mkF m 0 #[vr va, .unset, .unset, .unset] []))
  refine Go.by' (fun t k => (XS.aloadN X0.here hx rfl (hb hby d12_0) rfl rfl k)) ?_
  obtain ⟨_, _, ⟨T115, L115, k115, n115⟩, -, X115, ⟨Lc115, hQ115, l115, y115, z115⟩, st115⟩ := Jvm.LawKit.callS X0 hx (y := own_y4) hown (mvT hZ hw60) (mvT hZ hw61) (mvT hZ hw58) (mvT hZ hw62) (by decide) (backOf (W := 0) (rmNW_1 l Z a0 hw [] vcs wI wA cA G va ka x0 h0 n0 O0 VA) hZ hw62 hw58 (by decide) (by decide)) (g := (mkF m 1 #[vr va, .unset, .unset, .unset] [(.ref va)])) rfl (by rw [hml]; rfl) (argsL := [(.ref va)]) (rest := []) (lenOf pd_7 rfl) rfl (Nat.le_of_eq rfl) (hb hby d12_1) (fun _ _ => ⟨rfl, e0, (by decide : 0 + 0 ≤ _), (by decide : 0 + 0 ≤ _)⟩)
  dsimp only [Pt.U, Pt.locs, Pt.cells, Pt.slots] at X115 l115 y115 z115 st115 hQ115
  subst l115 y115 z115
  obtain ⟨r_115, rfl, rfl, e115, r115_0⟩ := hQ115
  try replace X115 := own_nil X115
  refine Go.by' st115 ?_
  rcases r115_0 with ⟨nF115_0, hz115⟩ | ⟨hF115_0, hz115⟩
  · subst hz115
    show Go p.tables e below Pf (T115.setTop (mkF m 4 #[vr va, .unset, .unset, .unset] [(.int (0 : Int32))]))
    refine Go.by' (fun t k => (XS.istoreN X115.here hx rfl (hb hby d12_4) rfl (l' := #[vr va, vi (0 : Int32), .unset, .unset]) rfl (XS.iloadN X115.here hx rfl (hb hby d12_5) rfl (XS.aloadN X115.here hx rfl (hb hby d12_6) rfl rfl (own_alen X115 hx hZ e115 VA rfl rfl (hb hby d12_7) (XS.icmpYes X115.here hx rfl (pc0 := 8) (pc' := 14) rfl (hb hby d12_8) rfl (feq (by decide)).2 (by decide) (by decide) (XS.aloadN X115.here hx rfl (hb hby d12_14) rfl rfl k))))))) ?_
    obtain ⟨_, _, ⟨T117, L117, k117, n117⟩, -, X117, ⟨Lc117, hQ117, l117, y117, z117⟩, st117⟩ := Jvm.LawKit.callS X115 hx (y := own_y5) hown (mvT hZ hw79) (mvT hZ hw80) (mvT hZ hw58) (mvT hZ hw81) (by decide) (backOf (W := 0) (rmLW_1 l Z a0 hw [] vcs wI wA cA G va ka x0 h0 n0 O0 VA) hZ hw81 hw58 (by decide) (by decide)) (g := (mkF m 15 #[vr va, vi (0 : Int32), .unset, .unset] [(.ref va)])) rfl (by rw [hml]; rfl) (argsL := [(.ref va)]) (rest := []) (lenOf pd_7 rfl) rfl (Nat.le_of_eq rfl) (hb hby d12_15) (fun _ _ => ⟨rfl, e115, (by decide : 0 + 0 ≤ _), (by decide : 0 + 0 ≤ _)⟩)
    dsimp only [Pt.U, Pt.locs, Pt.cells, Pt.slots] at X117 l117 y117 z117 st117 hQ117
    subst l117 y117 z117
    obtain ⟨r_117, rfl, rfl, e117, r117_0⟩ := hQ117
    try replace X117 := own_nil X117
    refine Go.by' st117 ?_
    rcases r117_0 with ⟨hL117_0, hz117⟩ | ⟨nL117_0, hz117⟩
    · exact absurd hL117_0 nF115_0
    · subst hz117
      show Go p.tables e below Pf (T117.setTop (mkF m 18 #[vr va, vi (0 : Int32), .unset, .unset] [(.int (1 : Int32))]))
      refine Go.by' (fun t k => (XS.istoreN X117.here hx rfl (hb hby d12_18) rfl (l' := #[vr va, vi (0 : Int32), vi (1 : Int32), .unset]) rfl (XS.iloadN X117.here hx rfl (hb hby d12_19) rfl (XS.ifNo X117.here hx rfl (hb hby d12_20) rfl ((if0 _ _).trans (flt (by decide)).2.2.1) (XS.iloadN X117.here hx rfl (hb hby d12_23) rfl (XS.aloadN X117.here hx rfl (hb hby d12_24) rfl rfl (own_alen X117 hx hZ e117 VA rfl rfl (hb hby d12_25) (XS.icmpYes X117.here hx rfl (pc0 := 26) (pc' := 33) rfl (hb hby d12_26) rfl (flt (by decide)).2.1 (by decide) (by decide) (XS.iconst X117.here hx rfl (hb hby d12_33) k))))))))) ?_
      show Go p.tables e below Pf (T117.setTop (mkF m 34 #[vr va, vi (0 : Int32), vi (1 : Int32), .unset] [(.int (0 : Int32))]))
      refine Go.by' (fun t k => (XS.istoreN X117.here hx rfl (hb hby d12_34) rfl (l' := #[vr va, vi (0 : Int32), vi (1 : Int32), vi (0 : Int32)]) rfl (XS.iloadN X117.here hx rfl (hb hby d12_35) rfl (XS.ifYes X117.here hx rfl (pc0 := 36) (pc' := 50) rfl (hb hby d12_36) rfl ((if0 _ _).trans (teq (by decide)).1) (by decide) (by decide) (XS.aconstNull X117.here hx rfl (hb hby d12_50) k))))) ?_
      show Go p.tables e below Pf (T117.setTop (mkF m 51 #[vr va, vi (0 : Int32), vi (1 : Int32), vi (0 : Int32)] [.null]))
      rw [hPf]
      exact Go.retA' X117 hx hret hlk rfl rfl (hb hby d12_51) (by decide) (by decide) ⟨rfl, rfl, e117⟩
  · exact absurd hF115_0 hn0
theorem d10_0 : decode jdk_42_method_114_code 0 = .ok (.aload_n 0, 1) := by decide +kernel
theorem d10_1 : decode jdk_42_method_114_code 1 = .ok (.invokevirtual 492, 3) := by decide +kernel
theorem pd_8 : parseMethodDescriptor "()Z" = some ⟨[], some .boolean⟩ := by decide +kernel
theorem d10_4 : decode jdk_42_method_114_code 4 = .ok (.ifCond .eq 13, 3) := by decide +kernel
theorem d10_7 : decode jdk_42_method_114_code 7 = .ok (.aload_n 0, 1) := by decide +kernel
theorem d10_8 : decode jdk_42_method_114_code 8 = .ok (.getfield 9, 3) := by decide +kernel
theorem d10_11 : decode jdk_42_method_114_code 11 = .ok (.invokestatic 864, 3) := by decide +kernel
theorem pd_9 : parseMethodDescriptor "([B)Ljava/lang/String;" = some ⟨[(.array .byte)], some (.object "java/lang/String")⟩ := by decide +kernel
theorem d10_14 : decode jdk_42_method_114_code 14 = .ok (.goto 10, 3) := by decide +kernel
theorem d10_24 : decode jdk_42_method_114_code 24 = .ok (.astore_n 1, 1) := by decide +kernel
theorem d10_25 : decode jdk_42_method_114_code 25 = .ok (.aload_n 1, 1) := by decide +kernel
theorem d10_26 : decode jdk_42_method_114_code 26 = .ok (.ifnonnull 7, 3) := by decide +kernel
theorem d10_29 : decode jdk_42_method_114_code 29 = .ok (.aload_n 0, 1) := by decide +kernel
theorem d10_30 : decode jdk_42_method_114_code 30 = .ok (.goto 4, 3) := by decide +kernel
theorem d10_34 : decode jdk_42_method_114_code 34 = .ok (.areturn, 1) := by decide +kernel
theorem pn_10 : plainName "java/lang/String" = true := by first | (simp [plainName, overriddenIn]; done) | decide +kernel
theorem ef_rmSTN_1 (m : MethodId) {sa : Addr} : entryFrame m #[(.ref sa)] 2 = mkF m 0 #[vr sa, .unset] [] := by first | (simp [entryFrame, mkF, argsToLocals, Value.category]; done) | rfl
abbrev own_y14 : MethodName := ⟨"java/lang/String", "strip", "()Ljava/lang/String;"⟩
def QrmSTN_1 (Z : State) (vcs : Int32) (wI : Addr) (wA : Addr) (cA : Cell) (sa : Addr) (va : Addr) (ka : ClassId) (x0 : Int32) (h0 : Heap) (n0 : Nat) (v : Option Value) (h : Heap) (L : List Loc) : Prop := (v = some (.ref sa)) ∧ (L = []) ∧ (h = h0)
theorem rmSTN_1 (l : Launch) (Z : State) (a0 : Array Value) (hw : ∀ d ∈ tables_1, d.before a0 Z = true) (ws : List Jvm.Cond) (vcs : Int32) (wI : Addr) (wA : Addr) (cA : Cell) (G : Gh Z vcs wI wA cA) (sa : Addr) (va : Addr) (ka : ClassId) (x0 : Int32) (h0 : Heap) (n0 : Nat) (O0 : Old Z n0 h0) (EA : Exa Z h0 sa "java/lang/String") (FA : Fld Z h0 sa "java/lang/String" "value" "[B" (.ref va)) (CA : Fld Z h0 sa "java/lang/String" "coder" "B" (.int (0 : Int32))) (VA : Arv Z h0 va ka .byte (1 : Int32) [(.int x0)] (.int (0 : Int32))) (hn0 : ¬ Ws (x0 &&& (255 : Int32))) (hnl : ¬ Ws (x0 &&& (255 : Int32))) :
    MetFree l own_y14 (head1 (Jvm.Cond.code own_y14 jdk_42_method_114_code 2 (some (.object "java/lang/String")) :: ws) ({ frames := 4, cells := 0, slots := 0, locals := 59 } : Room)) (fun aa' UU' => aa' = #[(.ref sa)] ∧ Z.Warmed39 UU'.vm ∧ UU'.heap = h0) (fun _ _ _ _ _ => True) (fun _ UU' oo' VV' => ∃ v' L', oo' = .returned v' ∧ QrmSTN_1 Z vcs wI wA cA sa va ka x0 h0 n0 v' VV'.heap L' ∧ FrameEnd UU' oo' VV' L' ({ frames := 4, cells := 0, slots := 0, locals := 59 } : Room).cells ({ frames := 4, cells := 0, slots := 0, locals := 59 } : Room).slots) := by
  refine MetFree.of_bodySF (plainFor_of_name pn_10) hisR ?_
  intro p e s m args below meth c s₁ Bd hml0 hP hK
  obtain ⟨rfl, hZ, hh⟩ := hP
  have hml : c.maxLocals = 2 := hml0
  obtain ⟨hx, hby, hlk, hown, hnm, hret, X0, e0⟩ := own_hd Bd hh
  have N0 := Fr.nil n0
  refine Go.body ?_
  obtain ⟨Pf, hPf⟩ : ∃ P, P = Fin' s below ({ frames := 4, cells := 0, slots := 0, locals := 59 } : Room).cells ({ frames := 4, cells := 0, slots := 0, locals := 59 } : Room).slots (QrmSTN_1 Z vcs wI wA cA sa va ka x0 h0 n0) := ⟨_, rfl⟩
  rw [← hPf]
  refine Go.cast (ef_rmSTN_1 m) ?_
  have hw3 := own_w hw 3 rfl
  have hw20 := own_w hw 20 rfl
  have hw51 := own_w hw 51 rfl
  have hw52 := own_w hw 52 rfl
  have hw53 := own_w hw 53 rfl
  have hw54 := own_w hw 54 rfl
  have hw55 := own_w hw 55 rfl
  have hw56 := own_w hw 56 rfl
  have hw57 := own_w hw 57 rfl
  have hw58 := own_w hw 58 rfl
  have hw59 := own_w hw 59 rfl
  show Go p.tables e below Pf (s₁.setTop (mkF m 0 #[vr sa, .unset] []))
  refine Go.by' (fun t k => (XS.aloadN X0.here hx rfl (hb hby d10_0) rfl rfl k)) ?_
  obtain ⟨cq119, kq119, q119a, q119b, q119c⟩ := isOf hZ e0 EA
  obtain ⟨_, _, ⟨T119, L119, k119, n119⟩, -, X119, ⟨Lc119, hQ119, l119, y119, z119⟩, st119⟩ := X0.virtualBack hx (y := own_y12) (z := own_y12) hown (mvT hZ hw51) (mvT hZ hw52) (notFace_of_selects (args := #[]) (mvT hZ hw54)) (mvT hZ hw54) (mvT hZ hw53) (by decide) (backOf (W := 0) (rmSL l Z a0 hw [] vcs wI wA cA G sa h0 n0 O0 CA) hZ hw55 hw3 (by decide) (by decide)) q119a q119c (g := (mkF m 1 #[vr sa, .unset] [(.ref sa)])) rfl (by rw [hml]; rfl) (Steps.refl _) (argsL := []) (rest := []) (lenOf pd_8 rfl) rfl (Nat.le_of_eq rfl) (hb hby d10_1) (fun _ _ => ⟨rfl, e0, (by decide : 0 + 0 ≤ _), (by decide : 0 + 0 ≤ _)⟩)
  dsimp only [Pt.U, Pt.locs, Pt.cells, Pt.slots] at X119 l119 y119 z119 st119 hQ119
  subst l119 y119 z119
  obtain ⟨rfl, rfl, e119⟩ := hQ119
  try replace X119 := own_nil X119
  refine Go.by' (fun t k => st119.trans k) ?_
  show Go p.tables e below Pf (T119.setTop (mkF m 4 #[vr sa, .unset] [(.int (1 : Int32))]))
  refine Go.by' (fun t k => (XS.ifNo X119.here hx rfl (hb hby d10_4) rfl ((if0 _ _).trans (feq (by decide)).1) (XS.aloadN X119.here hx rfl (hb hby d10_7) rfl rfl k))) ?_
  obtain ⟨T120, X120, e120, st120⟩ := getF X119 hx hZ hown (host := "") (Or.inl hw20) Via.refl e119 FA (g := (mkF m 8 #[vr sa, .unset] [(.ref sa)])) rfl rfl (hb hby d10_8)
  refine Go.by' st120 ?_
  obtain ⟨_, _, ⟨T121, L121, k121, n121⟩, -, X121, ⟨Lc121, hQ121, l121, y121, z121⟩, st121⟩ := Jvm.LawKit.callS X120 hx (y := own_y13) hown (mvT hZ hw56) (mvT hZ hw57) (mvT hZ hw58) (mvT hZ hw59) (by decide) (backOf (W := 0) (rmLSN_1 l Z a0 hw [] vcs wI wA cA G va ka x0 h0 n0 O0 VA hn0 hnl) hZ hw59 hw58 (by decide) (by decide)) (g := (mkF m 11 #[vr sa, .unset] [(.ref va)])) rfl (by rw [hml]; rfl) (argsL := [(.ref va)]) (rest := []) (lenOf pd_9 rfl) rfl (Nat.le_of_eq rfl) (hb hby d10_11) (fun _ _ => ⟨rfl, e120, (by decide : 0 + 0 ≤ _), (by decide : 0 + 0 ≤ _)⟩)
  dsimp only [Pt.U, Pt.locs, Pt.cells, Pt.slots] at X121 l121 y121 z121 st121 hQ121
  subst l121 y121 z121
  obtain ⟨rfl, rfl, e121⟩ := hQ121
  try replace X121 := own_nil X121
  refine Go.by' st121 ?_
  show Go p.tables e below Pf (T121.setTop (mkF m 14 #[vr sa, .unset] [.null]))
  refine Go.by' (fun t k => (XS.goto X121.here hx rfl (pc0 := 14) (pc' := 24) rfl (hb hby d10_14) (by decide) (by decide) (XS.astoreN X121.here hx rfl (hb hby d10_24) rfl rfl (l' := #[vr sa, .val .null]) rfl (XS.aloadN X121.here hx rfl (hb hby d10_25) rfl rfl (XS.ifnonnullNo X121.here hx rfl (hb hby d10_26) rfl (XS.aloadN X121.here hx rfl (hb hby d10_29) rfl rfl (XS.goto X121.here hx rfl (pc0 := 30) (pc' := 34) rfl (hb hby d10_30) (by decide) (by decide) k))))))) ?_
  show Go p.tables e below Pf (T121.setTop (mkF m 34 #[vr sa, .val .null] [(.ref sa)]))
  rw [hPf]
  exact Go.retA' X121 hx hret hlk rfl rfl (hb hby d10_34) (by decide) (by decide) ⟨rfl, rfl, e121⟩
theorem d12_11 : decode jdk_43_method_39_code 11 = .ok (.ldc 151, 2) := by decide +kernel
theorem d12_13 : decode jdk_43_method_39_code 13 = .ok (.areturn, 1) := by decide +kernel
theorem ef_rmLSC_1 (m : MethodId) {va : Addr} : entryFrame m #[(.ref va)] 4 = mkF m 0 #[vr va, .unset, .unset, .unset] [] := by first | (simp [entryFrame, mkF, argsToLocals, Value.category]; done) | rfl
def QrmLSC_1 (Z : State) (vcs : Int32) (wI : Addr) (wA : Addr) (cA : Cell) (va : Addr) (ka : ClassId) (x0 : Int32) (h0 : Heap) (n0 : Nat) (v : Option Value) (h : Heap) (vm : Vm) (L : List Loc) : Prop := ∃ (r : Addr) (rb : Addr) (kb : ClassId) (zr : Int32) (vsr : (List Value)), (v = some (.ref r)) ∧ (Fr n0 L) ∧ (Keep h0 h []) ∧ (Exa Z h r "java/lang/String") ∧ (Fld Z h r "java/lang/String" "value" "[B" (.ref rb)) ∧ (Fld Z h r "java/lang/String" "coder" "B" (.int (0 : Int32))) ∧ (Arv Z h rb kb .byte zr vsr (.int (0 : Int32))) ∧ (¬ (zr = (1 : Int32)))
theorem rmLSC_1 (l : Launch) (Z : State) (a0 : Array Value) (hw : ∀ d ∈ tables_1, d.before a0 Z = true) (ws : List Jvm.Cond) (vcs : Int32) (wI : Addr) (wA : Addr) (cA : Cell) (G : Gh Z vcs wI wA cA) (va : Addr) (ka : ClassId) (x0 : Int32) (h0 : Heap) (n0 : Nat) (O0 : Old Z n0 h0) (VA : Arv Z h0 va ka .byte (1 : Int32) [(.int x0)] (.int (0 : Int32))) (hch : Ws (x0 &&& (255 : Int32)) ∨ Ws (x0 &&& (255 : Int32))) :
    MetFree l own_y13 (head1 (Jvm.Cond.code own_y13 jdk_43_method_39_code 4 (some (.object "java/lang/String")) :: ws) ({ frames := 3, cells := 2, slots := 4, locals := 44 } : Room)) (fun aa' UU' => aa' = #[(.ref va)] ∧ Z.Warmed39 UU'.vm ∧ UU'.heap = h0 ∧ CHv Z consts_1 UU'.vm h0 ∧ ∀ x ∈ ([] : List Addr), Safe Z consts_1 UU'.vm h0 x) (fun _ _ _ _ _ => True) (fun _ UU' oo' VV' => ∃ v' L', oo' = .returned v' ∧ QrmLSC_1 Z vcs wI wA cA va ka x0 h0 n0 v' VV'.heap VV'.vm L' ∧ CHr Z consts_1 UU'.vm UU'.heap VV'.vm VV'.heap ∧ ReturnedEndW UU' oo' VV' L' ({ frames := 3, cells := 2, slots := 4, locals := 44 } : Room).cells ({ frames := 3, cells := 2, slots := 4, locals := 44 } : Room).slots) := by
  refine MetFree.of_bodySF (plainFor_of_name pn_12) hisR ?_
  intro p e s m args below meth c s₁ Bd hml0 hP hK
  obtain ⟨rfl, hZ, hh, hCH, hSf⟩ := hP
  have hml : c.maxLocals = 4 := hml0
  obtain ⟨hx, hby, hlk, hown, hnm, hret, X0, e0⟩ := own_hd Bd hh
  replace X0 : Stand p l e ({ frames := 3, cells := 2, slots := 4, locals := 44 } : Room) (s.setVm s.vm) m _ below meth c s₁ [] 0 0 := X0
  have N0 := Fr.nil n0
  have KC0 : Keep h0 h0 [] := Keep.refl _ _
  have Sb0 := Sb.start hZ hown hCH
  have hEL := own_EW hw
  have hSA := own_SA hw
  refine Go.bodyS ?_
  obtain ⟨Pf, hPf⟩ : ∃ P, P = FinS Z consts_1 s below ({ frames := 3, cells := 2, slots := 4, locals := 44 } : Room).cells ({ frames := 3, cells := 2, slots := 4, locals := 44 } : Room).slots (QrmLSC_1 Z vcs wI wA cA va ka x0 h0 n0) := ⟨_, rfl⟩
  rw [← hPf]
  refine Go.cast (ef_rmLSC_1 m) ?_
  have hw58 := own_w hw 58 rfl
  have hw60 := own_w hw 60 rfl
  have hw61 := own_w hw 61 rfl
  have hw62 := own_w hw 62 rfl
  have hw79 := own_w hw 79 rfl
  have hw80 := own_w hw 80 rfl
  have hw81 := own_w hw 81 rfl
  have hw167 := own_w hw 167 rfl
  show Go p.tables e below Pf (s₁.setTop (mkF m 0 #[vr va, .unset, .unset, .unset] []))
  refine Go.by' (fun t k => (XS.aloadN X0.here hx rfl (hb hby d12_0) rfl rfl k)) ?_
  obtain ⟨_, _, ⟨T122, L122, k122, n122⟩, -, X122, ⟨Lc122, hQ122, l122, y122, z122⟩, st122⟩ := Jvm.LawKit.callS X0 hx (y := own_y4) hown (mvT hZ hw60) (mvT hZ hw61) (mvT hZ hw58) (mvT hZ hw62) (by decide) (backOf (W := 0) (rmNW_1 l Z a0 hw [] vcs wI wA cA G va ka x0 h0 n0 O0 VA) hZ hw62 hw58 (by decide) (by decide)) (g := (mkF m 1 #[vr va, .unset, .unset, .unset] [(.ref va)])) rfl (by rw [hml]; rfl) (argsL := [(.ref va)]) (rest := []) (lenOf pd_7 rfl) rfl (Nat.le_of_eq rfl) (hb hby d12_1) (fun _ _ => ⟨rfl, e0, (by decide : 0 + 0 ≤ _), (by decide : 0 + 0 ≤ _)⟩)
  dsimp only [Pt.U, Pt.locs, Pt.cells, Pt.slots] at X122 l122 y122 z122 st122 hQ122
  subst l122 y122 z122
  obtain ⟨r_122, rfl, rfl, e122, r122_0⟩ := hQ122
  try replace X122 := own_nil X122
  refine Go.by' st122 ?_
  rcases r122_0 with ⟨nF122_0, hz122⟩ | ⟨hF122_0, hz122⟩
  · subst hz122
    show Go p.tables e below Pf (T122.setTop (mkF m 4 #[vr va, .unset, .unset, .unset] [(.int (0 : Int32))]))
    refine Go.by' (fun t k => (XS.istoreN X122.here hx rfl (hb hby d12_4) rfl (l' := #[vr va, vi (0 : Int32), .unset, .unset]) rfl (XS.iloadN X122.here hx rfl (hb hby d12_5) rfl (XS.aloadN X122.here hx rfl (hb hby d12_6) rfl rfl (own_alen X122 hx hZ e122 VA rfl rfl (hb hby d12_7) (XS.icmpYes X122.here hx rfl (pc0 := 8) (pc' := 14) rfl (hb hby d12_8) rfl (feq (by decide)).2 (by decide) (by decide) (XS.aloadN X122.here hx rfl (hb hby d12_14) rfl rfl k))))))) ?_
    obtain ⟨_, _, ⟨T124, L124, k124, n124⟩, -, X124, ⟨Lc124, hQ124, l124, y124, z124⟩, st124⟩ := Jvm.LawKit.callS X122 hx (y := own_y5) hown (mvT hZ hw79) (mvT hZ hw80) (mvT hZ hw58) (mvT hZ hw81) (by decide) (backOf (W := 0) (rmLW_1 l Z a0 hw [] vcs wI wA cA G va ka x0 h0 n0 O0 VA) hZ hw81 hw58 (by decide) (by decide)) (g := (mkF m 15 #[vr va, vi (0 : Int32), .unset, .unset] [(.ref va)])) rfl (by rw [hml]; rfl) (argsL := [(.ref va)]) (rest := []) (lenOf pd_7 rfl) rfl (Nat.le_of_eq rfl) (hb hby d12_15) (fun _ _ => ⟨rfl, e122, (by decide : 0 + 0 ≤ _), (by decide : 0 + 0 ≤ _)⟩)
    dsimp only [Pt.U, Pt.locs, Pt.cells, Pt.slots] at X124 l124 y124 z124 st124 hQ124
    subst l124 y124 z124
    obtain ⟨r_124, rfl, rfl, e124, r124_0⟩ := hQ124
    try replace X124 := own_nil X124
    refine Go.by' st124 ?_
    rcases r124_0 with ⟨hL124_0, hz124⟩ | ⟨nL124_0, hz124⟩
    · exact absurd hL124_0 nF122_0
    · exact absurd hch (fun z => z.elim nF122_0 nL124_0)
  · subst hz122
    show Go p.tables e below Pf (T122.setTop (mkF m 4 #[vr va, .unset, .unset, .unset] [(.int (1 : Int32))]))
    refine Go.by' (fun t k => (XS.istoreN X122.here hx rfl (hb hby d12_4) rfl (l' := #[vr va, vi (1 : Int32), .unset, .unset]) rfl (XS.iloadN X122.here hx rfl (hb hby d12_5) rfl (XS.aloadN X122.here hx rfl (hb hby d12_6) rfl rfl (own_alen X122 hx hZ e122 VA rfl rfl (hb hby d12_7) (XS.icmpNo X122.here hx rfl (hb hby d12_8) rfl (teq (by decide)).2 k)))))) ?_
    obtain ⟨T126, h126, a126, bb126, kb126, X126, e126, E126, Sb126, A126, Ex126, Fc126, Fv126, Vb126, Ne126, st126⟩ := own_ldc X122 hx Sb0 hw167 hSA e122 hEL (List.mem_of_getElem? (i := 3) rfl) (vs := []) (z := (0 : Int32)) (by decide +kernel) (by decide) rfl (g := (mkF m 11 #[vr va, vi (1 : Int32), .unset, .unset] [])) rfl (hb hby d12_11) (n := 0) (by decide +kernel) (by decide) (by decide) (by decide)
    refine Go.by' st126 ?_
    have O126 := O0.ext E126
    have KC126 : Keep h0 h126 [] := KC0.ext E126
    have hZ126 := Sb126.hZ
    have hO126 := Sb126.hO
    show Go p.tables e below Pf (T126.setTop (mkF m 13 #[vr va, vi (1 : Int32), .unset, .unset] [(.ref a126)]))
    rw [hPf]
    exact Go.retAS X126 hx hEL Sb126 e126 hh hret hlk rfl rfl (hb hby d12_13) (by decide) (by decide) ⟨a126, bb126, kb126, (0 : Int32), [], rfl, N0, (by rw [e126]; exact KC126), (by rw [e126]; exact Ex126), (by rw [e126]; exact Fv126), (by rw [e126]; exact Fc126), (by rw [e126]; exact Vb126), (by decide)⟩
theorem d10_33 : decode jdk_42_method_114_code 33 = .ok (.aload_n 1, 1) := by decide +kernel
theorem ef_rmSTC_1 (m : MethodId) {sa : Addr} : entryFrame m #[(.ref sa)] 2 = mkF m 0 #[vr sa, .unset] [] := by first | (simp [entryFrame, mkF, argsToLocals, Value.category]; done) | rfl
def QrmSTC_1 (Z : State) (vcs : Int32) (wI : Addr) (wA : Addr) (cA : Cell) (sa : Addr) (va : Addr) (ka : ClassId) (x0 : Int32) (h0 : Heap) (n0 : Nat) (v : Option Value) (h : Heap) (vm : Vm) (L : List Loc) : Prop := ∃ (r : Addr) (rb : Addr) (kb : ClassId) (zr : Int32) (vsr : (List Value)), (v = some (.ref r)) ∧ (Fr n0 L) ∧ (Keep h0 h []) ∧ (Exa Z h r "java/lang/String") ∧ (Fld Z h r "java/lang/String" "value" "[B" (.ref rb)) ∧ (Fld Z h r "java/lang/String" "coder" "B" (.int (0 : Int32))) ∧ (Arv Z h rb kb .byte zr vsr (.int (0 : Int32))) ∧ (¬ (zr = (1 : Int32)))
theorem rmSTC_1 (l : Launch) (Z : State) (a0 : Array Value) (hw : ∀ d ∈ tables_1, d.before a0 Z = true) (ws : List Jvm.Cond) (vcs : Int32) (wI : Addr) (wA : Addr) (cA : Cell) (G : Gh Z vcs wI wA cA) (sa : Addr) (va : Addr) (ka : ClassId) (x0 : Int32) (h0 : Heap) (n0 : Nat) (O0 : Old Z n0 h0) (EA : Exa Z h0 sa "java/lang/String") (FA : Fld Z h0 sa "java/lang/String" "value" "[B" (.ref va)) (CA : Fld Z h0 sa "java/lang/String" "coder" "B" (.int (0 : Int32))) (VA : Arv Z h0 va ka .byte (1 : Int32) [(.int x0)] (.int (0 : Int32))) (hch : Ws (x0 &&& (255 : Int32)) ∨ Ws (x0 &&& (255 : Int32))) :
    MetFree l own_y14 (head1 (Jvm.Cond.code own_y14 jdk_42_method_114_code 2 (some (.object "java/lang/String")) :: ws) ({ frames := 4, cells := 2, slots := 4, locals := 59 } : Room)) (fun aa' UU' => aa' = #[(.ref sa)] ∧ Z.Warmed39 UU'.vm ∧ UU'.heap = h0 ∧ CHv Z consts_1 UU'.vm h0 ∧ ∀ x ∈ ([] : List Addr), Safe Z consts_1 UU'.vm h0 x) (fun _ _ _ _ _ => True) (fun _ UU' oo' VV' => ∃ v' L', oo' = .returned v' ∧ QrmSTC_1 Z vcs wI wA cA sa va ka x0 h0 n0 v' VV'.heap VV'.vm L' ∧ CHr Z consts_1 UU'.vm UU'.heap VV'.vm VV'.heap ∧ ReturnedEndW UU' oo' VV' L' ({ frames := 4, cells := 2, slots := 4, locals := 59 } : Room).cells ({ frames := 4, cells := 2, slots := 4, locals := 59 } : Room).slots) := by
  refine MetFree.of_bodySF (plainFor_of_name pn_10) hisR ?_
  intro p e s m args below meth c s₁ Bd hml0 hP hK
  obtain ⟨rfl, hZ, hh, hCH, hSf⟩ := hP
  have hml : c.maxLocals = 2 := hml0
  obtain ⟨hx, hby, hlk, hown, hnm, hret, X0, e0⟩ := own_hd Bd hh
  replace X0 : Stand p l e ({ frames := 4, cells := 2, slots := 4, locals := 59 } : Room) (s.setVm s.vm) m _ below meth c s₁ [] 0 0 := X0
  have N0 := Fr.nil n0
  have KC0 : Keep h0 h0 [] := Keep.refl _ _
  have Sb0 := Sb.start hZ hown hCH
  have hEL := own_EW hw
  have hSA := own_SA hw
  refine Go.bodyS ?_
  obtain ⟨Pf, hPf⟩ : ∃ P, P = FinS Z consts_1 s below ({ frames := 4, cells := 2, slots := 4, locals := 59 } : Room).cells ({ frames := 4, cells := 2, slots := 4, locals := 59 } : Room).slots (QrmSTC_1 Z vcs wI wA cA sa va ka x0 h0 n0) := ⟨_, rfl⟩
  rw [← hPf]
  refine Go.cast (ef_rmSTC_1 m) ?_
  have hw3 := own_w hw 3 rfl
  have hw20 := own_w hw 20 rfl
  have hw51 := own_w hw 51 rfl
  have hw52 := own_w hw 52 rfl
  have hw53 := own_w hw 53 rfl
  have hw54 := own_w hw 54 rfl
  have hw55 := own_w hw 55 rfl
  have hw56 := own_w hw 56 rfl
  have hw57 := own_w hw 57 rfl
  have hw58 := own_w hw 58 rfl
  have hw59 := own_w hw 59 rfl
  show Go p.tables e below Pf (s₁.setTop (mkF m 0 #[vr sa, .unset] []))
  refine Go.by' (fun t k => (XS.aloadN X0.here hx rfl (hb hby d10_0) rfl rfl k)) ?_
  obtain ⟨cq127, kq127, q127a, q127b, q127c⟩ := isOf hZ e0 EA
  obtain ⟨_, _, ⟨T127, L127, k127, n127⟩, -, X127, ⟨Lc127, hQ127, l127, y127, z127⟩, st127⟩ := X0.virtualBack hx (y := own_y12) (z := own_y12) hown (mvT hZ hw51) (mvT hZ hw52) (notFace_of_selects (args := #[]) (mvT hZ hw54)) (mvT hZ hw54) (mvT hZ hw53) (by decide) (backOf (W := 0) (rmSL l Z a0 hw [] vcs wI wA cA G sa h0 n0 O0 CA) hZ hw55 hw3 (by decide) (by decide)) q127a q127c (g := (mkF m 1 #[vr sa, .unset] [(.ref sa)])) rfl (by rw [hml]; rfl) (Steps.refl _) (argsL := []) (rest := []) (lenOf pd_8 rfl) rfl (Nat.le_of_eq rfl) (hb hby d10_1) (fun _ _ => ⟨rfl, e0, (by decide : 0 + 0 ≤ _), (by decide : 0 + 0 ≤ _)⟩)
  dsimp only [Pt.U, Pt.locs, Pt.cells, Pt.slots] at X127 l127 y127 z127 st127 hQ127
  subst l127 y127 z127
  obtain ⟨rfl, rfl, e127⟩ := hQ127
  try replace X127 := own_nil X127
  refine Go.by' (fun t k => st127.trans k) ?_
  show Go p.tables e below Pf (T127.setTop (mkF m 4 #[vr sa, .unset] [(.int (1 : Int32))]))
  refine Go.by' (fun t k => (XS.ifNo X127.here hx rfl (hb hby d10_4) rfl ((if0 _ _).trans (feq (by decide)).1) (XS.aloadN X127.here hx rfl (hb hby d10_7) rfl rfl k))) ?_
  obtain ⟨T128, X128, e128, st128⟩ := getF X127 hx hZ hown (host := "") (Or.inl hw20) Via.refl e127 FA (g := (mkF m 8 #[vr sa, .unset] [(.ref sa)])) rfl rfl (hb hby d10_8)
  refine Go.by' st128 ?_
  obtain ⟨_, _, ⟨T129, L129, k129, n129⟩, -, X129, Si129, Gr129, ⟨Lc129, hQ129, l129, y129, z129, A129⟩, st129⟩ := callSS X128 hx (y := own_y13) hown (mvT hZ hw56) (mvT hZ hw57) (mvT hZ hw58) (mvT hZ hw59) (by decide) (own_backS (W := 0) (rmLSC_1 l Z a0 hw [] vcs wI wA cA G va ka x0 h0 n0 O0 VA hch) Sb0 hw59 hw58 (by decide) (by decide) hEL all0) (g := (mkF m 11 #[vr sa, .unset] [(.ref va)])) rfl (by rw [hml]; rfl) (argsL := [(.ref va)]) (rest := []) (lenOf pd_9 rfl) rfl (Nat.le_of_eq rfl) (hb hby d10_11) (fun _ _ => ⟨rfl, e128, (by decide : 0 + 2 ≤ _), (by decide : 0 + 4 ≤ _)⟩)
  dsimp only [Pt.U, Pt.locs, Pt.cells, Pt.slots] at X129 l129 y129 z129 st129 hQ129 Si129 Gr129 A129
  subst l129 y129 z129
  obtain ⟨r_129, rb_129, kb_129, zr_129, vsr_129, rfl, N129q, K129, f129_0, f129_1, f129_2, f129_3, r129_0⟩ := hQ129
  have N129 := Fr.app N0 N129q
  obtain ⟨lc129, X129, N129⟩ := own_pack X129 N129
  replace X129 := own_reb X129
  have Sb129 := Sb0.called Si129 (by rw [← e128]; exact Gr129) A129
  have hZ129 := Sb129.hZ
  have hO129 := Sb129.hO
  refine Go.by' (fun t k => st129.trans k) ?_
  have O129 := O0.keep K129 all0
  have KC129 : Keep h0 T129.heap [] := KC0.trans K129 all0
  show Go p.tables e below Pf (T129.setTop (mkF m 14 #[vr sa, .unset] [(.ref r_129)]))
  refine Go.by' (fun t k => (XS.goto X129.here hx rfl (pc0 := 14) (pc' := 24) rfl (hb hby d10_14) (by decide) (by decide) (XS.astoreN X129.here hx rfl (hb hby d10_24) rfl rfl (l' := #[vr sa, vr r_129]) rfl (XS.aloadN X129.here hx rfl (hb hby d10_25) rfl rfl (XS.ifnonnullYes X129.here hx rfl (pc0 := 26) (pc' := 33) rfl (hb hby d10_26) rfl (by decide) (by decide) (XS.aloadN X129.here hx rfl (hb hby d10_33) rfl rfl k)))))) ?_
  show Go p.tables e below Pf (T129.setTop (mkF m 34 #[vr sa, vr r_129] [(.ref r_129)]))
  rw [hPf]
  exact Go.retAS X129 hx hEL Sb129 rfl hh hret hlk rfl rfl (hb hby d10_34) (by decide) (by decide) ⟨r_129, rb_129, kb_129, zr_129, vsr_129, rfl, N129, KC129, f129_0, f129_1, f129_2, f129_3, r129_0⟩
theorem ef_rmLSN_2 (m : MethodId) {va : Addr} : entryFrame m #[(.ref va)] 4 = mkF m 0 #[vr va, .unset, .unset, .unset] [] := by first | (simp [entryFrame, mkF, argsToLocals, Value.category]; done) | rfl
def QrmLSN_2 (Z : State) (vcs : Int32) (wI : Addr) (wA : Addr) (cA : Cell) (va : Addr) (ka : ClassId) (x0 : Int32) (x1 : Int32) (h0 : Heap) (n0 : Nat) (v : Option Value) (h : Heap) (L : List Loc) : Prop := (v = some .null) ∧ (L = []) ∧ (h = h0)
theorem rmLSN_2 (l : Launch) (Z : State) (a0 : Array Value) (hw : ∀ d ∈ tables_1, d.before a0 Z = true) (ws : List Jvm.Cond) (vcs : Int32) (wI : Addr) (wA : Addr) (cA : Cell) (G : Gh Z vcs wI wA cA) (va : Addr) (ka : ClassId) (x0 : Int32) (x1 : Int32) (h0 : Heap) (n0 : Nat) (O0 : Old Z n0 h0) (VA : Arv Z h0 va ka .byte (2 : Int32) [(.int x0), (.int x1)] (.int (0 : Int32))) (hn0 : ¬ Ws (x0 &&& (255 : Int32))) (hnl : ¬ Ws (x1 &&& (255 : Int32))) :
    MetFree l own_y13 (head1 (Jvm.Cond.code own_y13 jdk_43_method_39_code 4 (some (.object "java/lang/String")) :: ws) ({ frames := 3, cells := 0, slots := 0, locals := 44 } : Room)) (fun aa' UU' => aa' = #[(.ref va)] ∧ Z.Warmed39 UU'.vm ∧ UU'.heap = h0) (fun _ _ _ _ _ => True) (fun _ UU' oo' VV' => ∃ v' L', oo' = .returned v' ∧ QrmLSN_2 Z vcs wI wA cA va ka x0 x1 h0 n0 v' VV'.heap L' ∧ FrameEnd UU' oo' VV' L' ({ frames := 3, cells := 0, slots := 0, locals := 44 } : Room).cells ({ frames := 3, cells := 0, slots := 0, locals := 44 } : Room).slots) := by
  refine MetFree.of_bodySF (plainFor_of_name pn_12) hisR ?_
  intro p e s m args below meth c s₁ Bd hml0 hP hK
  obtain ⟨rfl, hZ, hh⟩ := hP
  have hml : c.maxLocals = 4 := hml0
  obtain ⟨hx, hby, hlk, hown, hnm, hret, X0, e0⟩ := own_hd Bd hh
  have N0 := Fr.nil n0
  refine Go.body ?_
  obtain ⟨Pf, hPf⟩ : ∃ P, P = Fin' s below ({ frames := 3, cells := 0, slots := 0, locals := 44 } : Room).cells ({ frames := 3, cells := 0, slots := 0, locals := 44 } : Room).slots (QrmLSN_2 Z vcs wI wA cA va ka x0 x1 h0 n0) := ⟨_, rfl⟩
  rw [← hPf]
  refine Go.cast (ef_rmLSN_2 m) ?_
  have hw58 := own_w hw 58 rfl
  have hw60 := own_w hw 60 rfl
  have hw61 := own_w hw 61 rfl
  have hw62 := own_w hw 62 rfl
  have hw79 := own_w hw 79 rfl
  have hw80 := own_w hw 80 rfl
  have hw81 := own_w hw 81 rfl
  show Go p.tables e below Pf (s₁.setTop (mkF m 0 #[vr va, .unset, .unset, .unset] []))
  refine Go.by' (fun t k => (XS.aloadN X0.here hx rfl (hb hby d12_0) rfl rfl k)) ?_
  obtain ⟨_, _, ⟨T130, L130, k130, n130⟩, -, X130, ⟨Lc130, hQ130, l130, y130, z130⟩, st130⟩ := Jvm.LawKit.callS X0 hx (y := own_y4) hown (mvT hZ hw60) (mvT hZ hw61) (mvT hZ hw58) (mvT hZ hw62) (by decide) (backOf (W := 0) (rmNW_2 l Z a0 hw [] vcs wI wA cA G va ka x0 x1 h0 n0 O0 VA) hZ hw62 hw58 (by decide) (by decide)) (g := (mkF m 1 #[vr va, .unset, .unset, .unset] [(.ref va)])) rfl (by rw [hml]; rfl) (argsL := [(.ref va)]) (rest := []) (lenOf pd_7 rfl) rfl (Nat.le_of_eq rfl) (hb hby d12_1) (fun _ _ => ⟨rfl, e0, (by decide : 0 + 0 ≤ _), (by decide : 0 + 0 ≤ _)⟩)
  dsimp only [Pt.U, Pt.locs, Pt.cells, Pt.slots] at X130 l130 y130 z130 st130 hQ130
  subst l130 y130 z130
  obtain ⟨r_130, rfl, rfl, e130, r130_0⟩ := hQ130
  try replace X130 := own_nil X130
  refine Go.by' st130 ?_
  rcases r130_0 with ⟨nF130_0, hz130⟩ | ⟨hF130_0, nF130_1, hz130⟩ | ⟨hF130_0, hF130_1, hz130⟩
  · subst hz130
    show Go p.tables e below Pf (T130.setTop (mkF m 4 #[vr va, .unset, .unset, .unset] [(.int (0 : Int32))]))
    refine Go.by' (fun t k => (XS.istoreN X130.here hx rfl (hb hby d12_4) rfl (l' := #[vr va, vi (0 : Int32), .unset, .unset]) rfl (XS.iloadN X130.here hx rfl (hb hby d12_5) rfl (XS.aloadN X130.here hx rfl (hb hby d12_6) rfl rfl (own_alen X130 hx hZ e130 VA rfl rfl (hb hby d12_7) (XS.icmpYes X130.here hx rfl (pc0 := 8) (pc' := 14) rfl (hb hby d12_8) rfl (feq (by decide)).2 (by decide) (by decide) (XS.aloadN X130.here hx rfl (hb hby d12_14) rfl rfl k))))))) ?_
    obtain ⟨_, _, ⟨T132, L132, k132, n132⟩, -, X132, ⟨Lc132, hQ132, l132, y132, z132⟩, st132⟩ := Jvm.LawKit.callS X130 hx (y := own_y5) hown (mvT hZ hw79) (mvT hZ hw80) (mvT hZ hw58) (mvT hZ hw81) (by decide) (backOf (W := 0) (rmLW_2 l Z a0 hw [] vcs wI wA cA G va ka x0 x1 h0 n0 O0 VA) hZ hw81 hw58 (by decide) (by decide)) (g := (mkF m 15 #[vr va, vi (0 : Int32), .unset, .unset] [(.ref va)])) rfl (by rw [hml]; rfl) (argsL := [(.ref va)]) (rest := []) (lenOf pd_7 rfl) rfl (Nat.le_of_eq rfl) (hb hby d12_15) (fun _ _ => ⟨rfl, e130, (by decide : 0 + 0 ≤ _), (by decide : 0 + 0 ≤ _)⟩)
    dsimp only [Pt.U, Pt.locs, Pt.cells, Pt.slots] at X132 l132 y132 z132 st132 hQ132
    subst l132 y132 z132
    obtain ⟨r_132, rfl, rfl, e132, r132_0⟩ := hQ132
    try replace X132 := own_nil X132
    refine Go.by' st132 ?_
    rcases r132_0 with ⟨hL132_1, hL132_0, hz132⟩ | ⟨hL132_1, nL132_0, hz132⟩ | ⟨nL132_1, hz132⟩
    · exact absurd hL132_0 nF130_0
    · exact absurd hL132_1 hnl
    · subst hz132
      show Go p.tables e below Pf (T132.setTop (mkF m 18 #[vr va, vi (0 : Int32), .unset, .unset] [(.int (2 : Int32))]))
      refine Go.by' (fun t k => (XS.istoreN X132.here hx rfl (hb hby d12_18) rfl (l' := #[vr va, vi (0 : Int32), vi (2 : Int32), .unset]) rfl (XS.iloadN X132.here hx rfl (hb hby d12_19) rfl (XS.ifNo X132.here hx rfl (hb hby d12_20) rfl ((if0 _ _).trans (flt (by decide)).2.2.1) (XS.iloadN X132.here hx rfl (hb hby d12_23) rfl (XS.aloadN X132.here hx rfl (hb hby d12_24) rfl rfl (own_alen X132 hx hZ e132 VA rfl rfl (hb hby d12_25) (XS.icmpYes X132.here hx rfl (pc0 := 26) (pc' := 33) rfl (hb hby d12_26) rfl (flt (by decide)).2.1 (by decide) (by decide) (XS.iconst X132.here hx rfl (hb hby d12_33) k))))))))) ?_
      show Go p.tables e below Pf (T132.setTop (mkF m 34 #[vr va, vi (0 : Int32), vi (2 : Int32), .unset] [(.int (0 : Int32))]))
      refine Go.by' (fun t k => (XS.istoreN X132.here hx rfl (hb hby d12_34) rfl (l' := #[vr va, vi (0 : Int32), vi (2 : Int32), vi (0 : Int32)]) rfl (XS.iloadN X132.here hx rfl (hb hby d12_35) rfl (XS.ifYes X132.here hx rfl (pc0 := 36) (pc' := 50) rfl (hb hby d12_36) rfl ((if0 _ _).trans (teq (by decide)).1) (by decide) (by decide) (XS.aconstNull X132.here hx rfl (hb hby d12_50) k))))) ?_
      show Go p.tables e below Pf (T132.setTop (mkF m 51 #[vr va, vi (0 : Int32), vi (2 : Int32), vi (0 : Int32)] [.null]))
      rw [hPf]
      exact Go.retA' X132 hx hret hlk rfl rfl (hb hby d12_51) (by decide) (by decide) ⟨rfl, rfl, e132⟩
  · exact absurd hF130_0 hn0
  · exact absurd hF130_0 hn0
theorem ef_rmSTN_2 (m : MethodId) {sa : Addr} : entryFrame m #[(.ref sa)] 2 = mkF m 0 #[vr sa, .unset] [] := by first | (simp [entryFrame, mkF, argsToLocals, Value.category]; done) | rfl
def QrmSTN_2 (Z : State) (vcs : Int32) (wI : Addr) (wA : Addr) (cA : Cell) (sa : Addr) (va : Addr) (ka : ClassId) (x0 : Int32) (x1 : Int32) (h0 : Heap) (n0 : Nat) (v : Option Value) (h : Heap) (L : List Loc) : Prop := (v = some (.ref sa)) ∧ (L = []) ∧ (h = h0)
theorem rmSTN_2 (l : Launch) (Z : State) (a0 : Array Value) (hw : ∀ d ∈ tables_1, d.before a0 Z = true) (ws : List Jvm.Cond) (vcs : Int32) (wI : Addr) (wA : Addr) (cA : Cell) (G : Gh Z vcs wI wA cA) (sa : Addr) (va : Addr) (ka : ClassId) (x0 : Int32) (x1 : Int32) (h0 : Heap) (n0 : Nat) (O0 : Old Z n0 h0) (EA : Exa Z h0 sa "java/lang/String") (FA : Fld Z h0 sa "java/lang/String" "value" "[B" (.ref va)) (CA : Fld Z h0 sa "java/lang/String" "coder" "B" (.int (0 : Int32))) (VA : Arv Z h0 va ka .byte (2 : Int32) [(.int x0), (.int x1)] (.int (0 : Int32))) (hn0 : ¬ Ws (x0 &&& (255 : Int32))) (hnl : ¬ Ws (x1 &&& (255 : Int32))) :
    MetFree l own_y14 (head1 (Jvm.Cond.code own_y14 jdk_42_method_114_code 2 (some (.object "java/lang/String")) :: ws) ({ frames := 4, cells := 0, slots := 0, locals := 59 } : Room)) (fun aa' UU' => aa' = #[(.ref sa)] ∧ Z.Warmed39 UU'.vm ∧ UU'.heap = h0) (fun _ _ _ _ _ => True) (fun _ UU' oo' VV' => ∃ v' L', oo' = .returned v' ∧ QrmSTN_2 Z vcs wI wA cA sa va ka x0 x1 h0 n0 v' VV'.heap L' ∧ FrameEnd UU' oo' VV' L' ({ frames := 4, cells := 0, slots := 0, locals := 59 } : Room).cells ({ frames := 4, cells := 0, slots := 0, locals := 59 } : Room).slots) := by
  refine MetFree.of_bodySF (plainFor_of_name pn_10) hisR ?_
  intro p e s m args below meth c s₁ Bd hml0 hP hK
  obtain ⟨rfl, hZ, hh⟩ := hP
  have hml : c.maxLocals = 2 := hml0
  obtain ⟨hx, hby, hlk, hown, hnm, hret, X0, e0⟩ := own_hd Bd hh
  have N0 := Fr.nil n0
  refine Go.body ?_
  obtain ⟨Pf, hPf⟩ : ∃ P, P = Fin' s below ({ frames := 4, cells := 0, slots := 0, locals := 59 } : Room).cells ({ frames := 4, cells := 0, slots := 0, locals := 59 } : Room).slots (QrmSTN_2 Z vcs wI wA cA sa va ka x0 x1 h0 n0) := ⟨_, rfl⟩
  rw [← hPf]
  refine Go.cast (ef_rmSTN_2 m) ?_
  have hw3 := own_w hw 3 rfl
  have hw20 := own_w hw 20 rfl
  have hw51 := own_w hw 51 rfl
  have hw52 := own_w hw 52 rfl
  have hw53 := own_w hw 53 rfl
  have hw54 := own_w hw 54 rfl
  have hw55 := own_w hw 55 rfl
  have hw56 := own_w hw 56 rfl
  have hw57 := own_w hw 57 rfl
  have hw58 := own_w hw 58 rfl
  have hw59 := own_w hw 59 rfl
  show Go p.tables e below Pf (s₁.setTop (mkF m 0 #[vr sa, .unset] []))
  refine Go.by' (fun t k => (XS.aloadN X0.here hx rfl (hb hby d10_0) rfl rfl k)) ?_
  obtain ⟨cq134, kq134, q134a, q134b, q134c⟩ := isOf hZ e0 EA
  obtain ⟨_, _, ⟨T134, L134, k134, n134⟩, -, X134, ⟨Lc134, hQ134, l134, y134, z134⟩, st134⟩ := X0.virtualBack hx (y := own_y12) (z := own_y12) hown (mvT hZ hw51) (mvT hZ hw52) (notFace_of_selects (args := #[]) (mvT hZ hw54)) (mvT hZ hw54) (mvT hZ hw53) (by decide) (backOf (W := 0) (rmSL l Z a0 hw [] vcs wI wA cA G sa h0 n0 O0 CA) hZ hw55 hw3 (by decide) (by decide)) q134a q134c (g := (mkF m 1 #[vr sa, .unset] [(.ref sa)])) rfl (by rw [hml]; rfl) (Steps.refl _) (argsL := []) (rest := []) (lenOf pd_8 rfl) rfl (Nat.le_of_eq rfl) (hb hby d10_1) (fun _ _ => ⟨rfl, e0, (by decide : 0 + 0 ≤ _), (by decide : 0 + 0 ≤ _)⟩)
  dsimp only [Pt.U, Pt.locs, Pt.cells, Pt.slots] at X134 l134 y134 z134 st134 hQ134
  subst l134 y134 z134
  obtain ⟨rfl, rfl, e134⟩ := hQ134
  try replace X134 := own_nil X134
  refine Go.by' (fun t k => st134.trans k) ?_
  show Go p.tables e below Pf (T134.setTop (mkF m 4 #[vr sa, .unset] [(.int (1 : Int32))]))
  refine Go.by' (fun t k => (XS.ifNo X134.here hx rfl (hb hby d10_4) rfl ((if0 _ _).trans (feq (by decide)).1) (XS.aloadN X134.here hx rfl (hb hby d10_7) rfl rfl k))) ?_
  obtain ⟨T135, X135, e135, st135⟩ := getF X134 hx hZ hown (host := "") (Or.inl hw20) Via.refl e134 FA (g := (mkF m 8 #[vr sa, .unset] [(.ref sa)])) rfl rfl (hb hby d10_8)
  refine Go.by' st135 ?_
  obtain ⟨_, _, ⟨T136, L136, k136, n136⟩, -, X136, ⟨Lc136, hQ136, l136, y136, z136⟩, st136⟩ := Jvm.LawKit.callS X135 hx (y := own_y13) hown (mvT hZ hw56) (mvT hZ hw57) (mvT hZ hw58) (mvT hZ hw59) (by decide) (backOf (W := 0) (rmLSN_2 l Z a0 hw [] vcs wI wA cA G va ka x0 x1 h0 n0 O0 VA hn0 hnl) hZ hw59 hw58 (by decide) (by decide)) (g := (mkF m 11 #[vr sa, .unset] [(.ref va)])) rfl (by rw [hml]; rfl) (argsL := [(.ref va)]) (rest := []) (lenOf pd_9 rfl) rfl (Nat.le_of_eq rfl) (hb hby d10_11) (fun _ _ => ⟨rfl, e135, (by decide : 0 + 0 ≤ _), (by decide : 0 + 0 ≤ _)⟩)
  dsimp only [Pt.U, Pt.locs, Pt.cells, Pt.slots] at X136 l136 y136 z136 st136 hQ136
  subst l136 y136 z136
  obtain ⟨rfl, rfl, e136⟩ := hQ136
  try replace X136 := own_nil X136
  refine Go.by' st136 ?_
  show Go p.tables e below Pf (T136.setTop (mkF m 14 #[vr sa, .unset] [.null]))
  refine Go.by' (fun t k => (XS.goto X136.here hx rfl (pc0 := 14) (pc' := 24) rfl (hb hby d10_14) (by decide) (by decide) (XS.astoreN X136.here hx rfl (hb hby d10_24) rfl rfl (l' := #[vr sa, .val .null]) rfl (XS.aloadN X136.here hx rfl (hb hby d10_25) rfl rfl (XS.ifnonnullNo X136.here hx rfl (hb hby d10_26) rfl (XS.aloadN X136.here hx rfl (hb hby d10_29) rfl rfl (XS.goto X136.here hx rfl (pc0 := 30) (pc' := 34) rfl (hb hby d10_30) (by decide) (by decide) k))))))) ?_
  show Go p.tables e below Pf (T136.setTop (mkF m 34 #[vr sa, .val .null] [(.ref sa)]))
  rw [hPf]
  exact Go.retA' X136 hx hret hlk rfl rfl (hb hby d10_34) (by decide) (by decide) ⟨rfl, rfl, e136⟩
theorem d12_29 : decode jdk_43_method_39_code 29 = .ok (.iconst 1, 1) := by decide +kernel
theorem d12_30 : decode jdk_43_method_39_code 30 = .ok (.goto 4, 3) := by decide +kernel
theorem d12_39 : decode jdk_43_method_39_code 39 = .ok (.aload_n 0, 1) := by decide +kernel
theorem d12_40 : decode jdk_43_method_39_code 40 = .ok (.iload_n 1, 1) := by decide +kernel
theorem d12_41 : decode jdk_43_method_39_code 41 = .ok (.iload_n 2, 1) := by decide +kernel
theorem d12_42 : decode jdk_43_method_39_code 42 = .ok (.iload_n 1, 1) := by decide +kernel
theorem d12_43 : decode jdk_43_method_39_code 43 = .ok (.isub, 1) := by decide +kernel
theorem d12_44 : decode jdk_43_method_39_code 44 = .ok (.invokestatic 210, 3) := by decide +kernel
theorem pd_10 : parseMethodDescriptor "([BII)Ljava/lang/String;" = some ⟨[(.array .byte), .int, .int], some (.object "java/lang/String")⟩ := by decide +kernel
theorem d12_47 : decode jdk_43_method_39_code 47 = .ok (.goto 4, 3) := by decide +kernel
theorem ef_rmLSC_2 (m : MethodId) {va : Addr} : entryFrame m #[(.ref va)] 4 = mkF m 0 #[vr va, .unset, .unset, .unset] [] := by first | (simp [entryFrame, mkF, argsToLocals, Value.category]; done) | rfl
def QrmLSC_2 (Z : State) (vcs : Int32) (wI : Addr) (wA : Addr) (cA : Cell) (va : Addr) (ka : ClassId) (x0 : Int32) (x1 : Int32) (h0 : Heap) (n0 : Nat) (v : Option Value) (h : Heap) (vm : Vm) (L : List Loc) : Prop := ∃ (r : Addr) (rb : Addr) (kb : ClassId) (zr : Int32) (vsr : (List Value)), (v = some (.ref r)) ∧ (Fr n0 L) ∧ (Keep h0 h []) ∧ (Exa Z h r "java/lang/String") ∧ (Fld Z h r "java/lang/String" "value" "[B" (.ref rb)) ∧ (Fld Z h r "java/lang/String" "coder" "B" (.int (0 : Int32))) ∧ (Arv Z h rb kb .byte zr vsr (.int (0 : Int32))) ∧ (¬ (zr = (2 : Int32)))
theorem rmLSC_2 (l : Launch) (Z : State) (a0 : Array Value) (hw : ∀ d ∈ tables_1, d.before a0 Z = true) (ws : List Jvm.Cond) (vcs : Int32) (wI : Addr) (wA : Addr) (cA : Cell) (G : Gh Z vcs wI wA cA) (va : Addr) (ka : ClassId) (x0 : Int32) (x1 : Int32) (h0 : Heap) (n0 : Nat) (O0 : Old Z n0 h0) (VA : Arv Z h0 va ka .byte (2 : Int32) [(.int x0), (.int x1)] (.int (0 : Int32))) (hch : Ws (x0 &&& (255 : Int32)) ∨ Ws (x1 &&& (255 : Int32))) :
    MetFree l own_y13 (head1 (Jvm.Cond.code own_y13 jdk_43_method_39_code 4 (some (.object "java/lang/String")) :: ws) ({ frames := 4, cells := 2, slots := 7, locals := 86 } : Room)) (fun aa' UU' => aa' = #[(.ref va)] ∧ Z.Warmed39 UU'.vm ∧ UU'.heap = h0 ∧ CHv Z consts_1 UU'.vm h0 ∧ ∀ x ∈ ([] : List Addr), Safe Z consts_1 UU'.vm h0 x) (fun _ _ _ _ _ => True) (fun _ UU' oo' VV' => ∃ v' L', oo' = .returned v' ∧ QrmLSC_2 Z vcs wI wA cA va ka x0 x1 h0 n0 v' VV'.heap VV'.vm L' ∧ CHr Z consts_1 UU'.vm UU'.heap VV'.vm VV'.heap ∧ ReturnedEndW UU' oo' VV' L' ({ frames := 4, cells := 2, slots := 7, locals := 86 } : Room).cells ({ frames := 4, cells := 2, slots := 7, locals := 86 } : Room).slots) := by
  refine MetFree.of_bodySF (plainFor_of_name pn_12) hisR ?_
  intro p e s m args below meth c s₁ Bd hml0 hP hK
  obtain ⟨rfl, hZ, hh, hCH, hSf⟩ := hP
  have hml : c.maxLocals = 4 := hml0
  obtain ⟨hx, hby, hlk, hown, hnm, hret, X0, e0⟩ := own_hd Bd hh
  replace X0 : Stand p l e ({ frames := 4, cells := 2, slots := 7, locals := 86 } : Room) (s.setVm s.vm) m _ below meth c s₁ [] 0 0 := X0
  have N0 := Fr.nil n0
  have KC0 : Keep h0 h0 [] := Keep.refl _ _
  have Sb0 := Sb.start hZ hown hCH
  have hEL := own_EW hw
  have hSA := own_SA hw
  refine Go.bodyS ?_
  obtain ⟨Pf, hPf⟩ : ∃ P, P = FinS Z consts_1 s below ({ frames := 4, cells := 2, slots := 7, locals := 86 } : Room).cells ({ frames := 4, cells := 2, slots := 7, locals := 86 } : Room).slots (QrmLSC_2 Z vcs wI wA cA va ka x0 x1 h0 n0) := ⟨_, rfl⟩
  rw [← hPf]
  refine Go.cast (ef_rmLSC_2 m) ?_
  have hw58 := own_w hw 58 rfl
  have hw60 := own_w hw 60 rfl
  have hw61 := own_w hw 61 rfl
  have hw62 := own_w hw 62 rfl
  have hw79 := own_w hw 79 rfl
  have hw80 := own_w hw 80 rfl
  have hw81 := own_w hw 81 rfl
  have hw138 := own_w hw 138 rfl
  have hw139 := own_w hw 139 rfl
  have hw140 := own_w hw 140 rfl
  have hw167 := own_w hw 167 rfl
  show Go p.tables e below Pf (s₁.setTop (mkF m 0 #[vr va, .unset, .unset, .unset] []))
  refine Go.by' (fun t k => (XS.aloadN X0.here hx rfl (hb hby d12_0) rfl rfl k)) ?_
  obtain ⟨_, _, ⟨T137, L137, k137, n137⟩, -, X137, ⟨Lc137, hQ137, l137, y137, z137⟩, st137⟩ := Jvm.LawKit.callS X0 hx (y := own_y4) hown (mvT hZ hw60) (mvT hZ hw61) (mvT hZ hw58) (mvT hZ hw62) (by decide) (backOf (W := 0) (rmNW_2 l Z a0 hw [] vcs wI wA cA G va ka x0 x1 h0 n0 O0 VA) hZ hw62 hw58 (by decide) (by decide)) (g := (mkF m 1 #[vr va, .unset, .unset, .unset] [(.ref va)])) rfl (by rw [hml]; rfl) (argsL := [(.ref va)]) (rest := []) (lenOf pd_7 rfl) rfl (Nat.le_of_eq rfl) (hb hby d12_1) (fun _ _ => ⟨rfl, e0, (by decide : 0 + 0 ≤ _), (by decide : 0 + 0 ≤ _)⟩)
  dsimp only [Pt.U, Pt.locs, Pt.cells, Pt.slots] at X137 l137 y137 z137 st137 hQ137
  subst l137 y137 z137
  obtain ⟨r_137, rfl, rfl, e137, r137_0⟩ := hQ137
  try replace X137 := own_nil X137
  refine Go.by' st137 ?_
  rcases r137_0 with ⟨nF137_0, hz137⟩ | ⟨hF137_0, nF137_1, hz137⟩ | ⟨hF137_0, hF137_1, hz137⟩
  · subst hz137
    show Go p.tables e below Pf (T137.setTop (mkF m 4 #[vr va, .unset, .unset, .unset] [(.int (0 : Int32))]))
    refine Go.by' (fun t k => (XS.istoreN X137.here hx rfl (hb hby d12_4) rfl (l' := #[vr va, vi (0 : Int32), .unset, .unset]) rfl (XS.iloadN X137.here hx rfl (hb hby d12_5) rfl (XS.aloadN X137.here hx rfl (hb hby d12_6) rfl rfl (own_alen X137 hx hZ e137 VA rfl rfl (hb hby d12_7) (XS.icmpYes X137.here hx rfl (pc0 := 8) (pc' := 14) rfl (hb hby d12_8) rfl (feq (by decide)).2 (by decide) (by decide) (XS.aloadN X137.here hx rfl (hb hby d12_14) rfl rfl k))))))) ?_
    obtain ⟨_, _, ⟨T139, L139, k139, n139⟩, -, X139, ⟨Lc139, hQ139, l139, y139, z139⟩, st139⟩ := Jvm.LawKit.callS X137 hx (y := own_y5) hown (mvT hZ hw79) (mvT hZ hw80) (mvT hZ hw58) (mvT hZ hw81) (by decide) (backOf (W := 0) (rmLW_2 l Z a0 hw [] vcs wI wA cA G va ka x0 x1 h0 n0 O0 VA) hZ hw81 hw58 (by decide) (by decide)) (g := (mkF m 15 #[vr va, vi (0 : Int32), .unset, .unset] [(.ref va)])) rfl (by rw [hml]; rfl) (argsL := [(.ref va)]) (rest := []) (lenOf pd_7 rfl) rfl (Nat.le_of_eq rfl) (hb hby d12_15) (fun _ _ => ⟨rfl, e137, (by decide : 0 + 0 ≤ _), (by decide : 0 + 0 ≤ _)⟩)
    dsimp only [Pt.U, Pt.locs, Pt.cells, Pt.slots] at X139 l139 y139 z139 st139 hQ139
    subst l139 y139 z139
    obtain ⟨r_139, rfl, rfl, e139, r139_0⟩ := hQ139
    try replace X139 := own_nil X139
    refine Go.by' st139 ?_
    rcases r139_0 with ⟨hL139_1, hL139_0, hz139⟩ | ⟨hL139_1, nL139_0, hz139⟩ | ⟨nL139_1, hz139⟩
    · exact absurd hL139_0 nF137_0
    · subst hz139
      show Go p.tables e below Pf (T139.setTop (mkF m 18 #[vr va, vi (0 : Int32), .unset, .unset] [(.int (1 : Int32))]))
      refine Go.by' (fun t k => (XS.istoreN X139.here hx rfl (hb hby d12_18) rfl (l' := #[vr va, vi (0 : Int32), vi (1 : Int32), .unset]) rfl (XS.iloadN X139.here hx rfl (hb hby d12_19) rfl (XS.ifNo X139.here hx rfl (hb hby d12_20) rfl ((if0 _ _).trans (flt (by decide)).2.2.1) (XS.iloadN X139.here hx rfl (hb hby d12_23) rfl (XS.aloadN X139.here hx rfl (hb hby d12_24) rfl rfl (own_alen X139 hx hZ e139 VA rfl rfl (hb hby d12_25) (XS.icmpNo X139.here hx rfl (hb hby d12_26) rfl (tlt (by decide)).2.1 (XS.iconst X139.here hx rfl (hb hby d12_29) k))))))))) ?_
      show Go p.tables e below Pf (T139.setTop (mkF m 30 #[vr va, vi (0 : Int32), vi (1 : Int32), .unset] [(.int (1 : Int32))]))
      refine Go.by' (fun t k => (XS.goto X139.here hx rfl (pc0 := 30) (pc' := 34) rfl (hb hby d12_30) (by decide) (by decide) (XS.istoreN X139.here hx rfl (hb hby d12_34) rfl (l' := #[vr va, vi (0 : Int32), vi (1 : Int32), vi (1 : Int32)]) rfl (XS.iloadN X139.here hx rfl (hb hby d12_35) rfl (XS.ifNo X139.here hx rfl (hb hby d12_36) rfl ((if0 _ _).trans (feq (by decide)).1) (XS.aloadN X139.here hx rfl (hb hby d12_39) rfl rfl (XS.iloadN X139.here hx rfl (hb hby d12_40) rfl (XS.iloadN X139.here hx rfl (hb hby d12_41) rfl (XS.iloadN X139.here hx rfl (hb hby d12_42) rfl k))))))))) ?_
      show Go p.tables e below Pf (T139.setTop (mkF m 43 #[vr va, vi (0 : Int32), vi (1 : Int32), vi (1 : Int32)] [(.int (0 : Int32)), (.int (1 : Int32)), (.int (0 : Int32)), (.ref va)]))
      refine Go.by' (fun t k => (XS.isub X139.here hx rfl (hb hby d12_43) rfl k)) ?_
      obtain ⟨_, _, ⟨T141, L141, k141, n141⟩, -, X141, ⟨Lc141, hQ141, l141, y141, z141⟩, st141⟩ := Jvm.LawKit.callS X139 hx (y := own_y11) hown (mvT hZ hw138) (mvT hZ hw139) (mvT hZ hw58) (mvT hZ hw140) (by decide) (backOf (W := 0) (rmNS l Z a0 hw [] vcs wI wA cA G va ((0 : Int32)) ((1 : Int32)) ka ((2 : Int32)) ([(Value.int x0), (Value.int x1)]) h0 n0 O0 VA (by decide) (by decide)) hZ hw140 hw58 (by decide) (by decide)) (g := (mkF m 44 #[vr va, vi (0 : Int32), vi (1 : Int32), vi (1 : Int32)] [(.int (1 : Int32)), (.int (0 : Int32)), (.ref va)])) rfl (by rw [hml]; rfl) (argsL := [(.ref va), (.int (0 : Int32)), (.int (1 : Int32))]) (rest := []) (lenOf pd_10 rfl) rfl (Nat.le_of_eq rfl) (hb hby d12_44) (fun _ _ => ⟨rfl, e139, (by decide : 0 + 2 ≤ _), (by decide : 0 + 7 ≤ _)⟩)
      dsimp only [Pt.U, Pt.locs, Pt.cells, Pt.slots] at X141 l141 y141 z141 st141 hQ141
      subst l141 y141 z141
      obtain ⟨r_141, rb_141, kb_141, zr_141, vsr_141, rfl, N141q, K141, f141_0, f141_1, f141_2, f141_3, f141_4, f141_5, r141_0⟩ := hQ141
      have N141 := Fr.app N0 N141q
      obtain ⟨lc141, X141, N141⟩ := own_pack X141 N141
      refine Go.by' st141 ?_
      have Sf_r_141 : Safe Z consts_1 s.vm h0 r_141 := Safe.new f141_0
      have g_r_141 : n0 ≤ r_141 := Nat.le_trans (own_le O0) f141_0
      have sz_r_141 : h0.size ≤ r_141 := Nat.le_trans KC0.1 f141_0
      have Sf_rb_141 : Safe Z consts_1 s.vm h0 rb_141 := Safe.new f141_5
      have g_rb_141 : n0 ≤ rb_141 := Nat.le_trans (own_le O0) f141_5
      have sz_rb_141 : h0.size ≤ rb_141 := Nat.le_trans KC0.1 f141_5
      have Sb141 := Sb0.keep K141 sf0
      have O141 := O0.keep K141 all0
      have KC141 : Keep h0 T141.heap [] := KC0.trans K141 all0
      show Go p.tables e below Pf (T141.setTop (mkF m 47 #[vr va, vi (0 : Int32), vi (1 : Int32), vi (1 : Int32)] [(.ref r_141)]))
      refine Go.by' (fun t k => (XS.goto X141.here hx rfl (pc0 := 47) (pc' := 51) rfl (hb hby d12_47) (by decide) (by decide) k)) ?_
      show Go p.tables e below Pf (T141.setTop (mkF m 51 #[vr va, vi (0 : Int32), vi (1 : Int32), vi (1 : Int32)] [(.ref r_141)]))
      rw [hPf]
      exact Go.retAS X141 hx hEL Sb141 rfl hh hret hlk rfl rfl (hb hby d12_51) (by decide) (by decide) ⟨r_141, rb_141, kb_141, zr_141, vsr_141, rfl, N141, KC141, f141_1, f141_2, f141_3, f141_4, (by rw [r141_0]; decide)⟩
    · exact absurd hch (fun z => z.elim nF137_0 nL139_1)
  · subst hz137
    show Go p.tables e below Pf (T137.setTop (mkF m 4 #[vr va, .unset, .unset, .unset] [(.int (1 : Int32))]))
    refine Go.by' (fun t k => (XS.istoreN X137.here hx rfl (hb hby d12_4) rfl (l' := #[vr va, vi (1 : Int32), .unset, .unset]) rfl (XS.iloadN X137.here hx rfl (hb hby d12_5) rfl (XS.aloadN X137.here hx rfl (hb hby d12_6) rfl rfl (own_alen X137 hx hZ e137 VA rfl rfl (hb hby d12_7) (XS.icmpYes X137.here hx rfl (pc0 := 8) (pc' := 14) rfl (hb hby d12_8) rfl (feq (by decide)).2 (by decide) (by decide) (XS.aloadN X137.here hx rfl (hb hby d12_14) rfl rfl k))))))) ?_
    obtain ⟨_, _, ⟨T143, L143, k143, n143⟩, -, X143, ⟨Lc143, hQ143, l143, y143, z143⟩, st143⟩ := Jvm.LawKit.callS X137 hx (y := own_y5) hown (mvT hZ hw79) (mvT hZ hw80) (mvT hZ hw58) (mvT hZ hw81) (by decide) (backOf (W := 0) (rmLW_2 l Z a0 hw [] vcs wI wA cA G va ka x0 x1 h0 n0 O0 VA) hZ hw81 hw58 (by decide) (by decide)) (g := (mkF m 15 #[vr va, vi (1 : Int32), .unset, .unset] [(.ref va)])) rfl (by rw [hml]; rfl) (argsL := [(.ref va)]) (rest := []) (lenOf pd_7 rfl) rfl (Nat.le_of_eq rfl) (hb hby d12_15) (fun _ _ => ⟨rfl, e137, (by decide : 0 + 0 ≤ _), (by decide : 0 + 0 ≤ _)⟩)
    dsimp only [Pt.U, Pt.locs, Pt.cells, Pt.slots] at X143 l143 y143 z143 st143 hQ143
    subst l143 y143 z143
    obtain ⟨r_143, rfl, rfl, e143, r143_0⟩ := hQ143
    try replace X143 := own_nil X143
    refine Go.by' st143 ?_
    rcases r143_0 with ⟨hL143_1, hL143_0, hz143⟩ | ⟨hL143_1, nL143_0, hz143⟩ | ⟨nL143_1, hz143⟩
    · exact absurd hL143_1 nF137_1
    · exact absurd hL143_1 nF137_1
    · subst hz143
      show Go p.tables e below Pf (T143.setTop (mkF m 18 #[vr va, vi (1 : Int32), .unset, .unset] [(.int (2 : Int32))]))
      refine Go.by' (fun t k => (XS.istoreN X143.here hx rfl (hb hby d12_18) rfl (l' := #[vr va, vi (1 : Int32), vi (2 : Int32), .unset]) rfl (XS.iloadN X143.here hx rfl (hb hby d12_19) rfl (XS.ifYes X143.here hx rfl (pc0 := 20) (pc' := 29) rfl (hb hby d12_20) rfl ((if0 _ _).trans (tlt (by decide)).2.2.1) (by decide) (by decide) (XS.iconst X143.here hx rfl (hb hby d12_29) (XS.goto X143.here hx rfl (pc0 := 30) (pc' := 34) rfl (hb hby d12_30) (by decide) (by decide) (XS.istoreN X143.here hx rfl (hb hby d12_34) rfl (l' := #[vr va, vi (1 : Int32), vi (2 : Int32), vi (1 : Int32)]) rfl (XS.iloadN X143.here hx rfl (hb hby d12_35) rfl (XS.ifNo X143.here hx rfl (hb hby d12_36) rfl ((if0 _ _).trans (feq (by decide)).1) k))))))))) ?_
      show Go p.tables e below Pf (T143.setTop (mkF m 39 #[vr va, vi (1 : Int32), vi (2 : Int32), vi (1 : Int32)] []))
      refine Go.by' (fun t k => (XS.aloadN X143.here hx rfl (hb hby d12_39) rfl rfl (XS.iloadN X143.here hx rfl (hb hby d12_40) rfl (XS.iloadN X143.here hx rfl (hb hby d12_41) rfl (XS.iloadN X143.here hx rfl (hb hby d12_42) rfl (XS.isub X143.here hx rfl (hb hby d12_43) rfl k)))))) ?_
      obtain ⟨_, _, ⟨T144, L144, k144, n144⟩, -, X144, ⟨Lc144, hQ144, l144, y144, z144⟩, st144⟩ := Jvm.LawKit.callS X143 hx (y := own_y11) hown (mvT hZ hw138) (mvT hZ hw139) (mvT hZ hw58) (mvT hZ hw140) (by decide) (backOf (W := 0) (rmNS l Z a0 hw [] vcs wI wA cA G va ((1 : Int32)) ((1 : Int32)) ka ((2 : Int32)) ([(Value.int x0), (Value.int x1)]) h0 n0 O0 VA (by decide) (by decide)) hZ hw140 hw58 (by decide) (by decide)) (g := (mkF m 44 #[vr va, vi (1 : Int32), vi (2 : Int32), vi (1 : Int32)] [(.int (1 : Int32)), (.int (1 : Int32)), (.ref va)])) rfl (by rw [hml]; rfl) (argsL := [(.ref va), (.int (1 : Int32)), (.int (1 : Int32))]) (rest := []) (lenOf pd_10 rfl) rfl (Nat.le_of_eq rfl) (hb hby d12_44) (fun _ _ => ⟨rfl, e143, (by decide : 0 + 2 ≤ _), (by decide : 0 + 7 ≤ _)⟩)
      dsimp only [Pt.U, Pt.locs, Pt.cells, Pt.slots] at X144 l144 y144 z144 st144 hQ144
      subst l144 y144 z144
      obtain ⟨r_144, rb_144, kb_144, zr_144, vsr_144, rfl, N144q, K144, f144_0, f144_1, f144_2, f144_3, f144_4, f144_5, r144_0⟩ := hQ144
      have N144 := Fr.app N0 N144q
      obtain ⟨lc144, X144, N144⟩ := own_pack X144 N144
      refine Go.by' st144 ?_
      have Sf_r_144 : Safe Z consts_1 s.vm h0 r_144 := Safe.new f144_0
      have g_r_144 : n0 ≤ r_144 := Nat.le_trans (own_le O0) f144_0
      have sz_r_144 : h0.size ≤ r_144 := Nat.le_trans KC0.1 f144_0
      have Sf_rb_144 : Safe Z consts_1 s.vm h0 rb_144 := Safe.new f144_5
      have g_rb_144 : n0 ≤ rb_144 := Nat.le_trans (own_le O0) f144_5
      have sz_rb_144 : h0.size ≤ rb_144 := Nat.le_trans KC0.1 f144_5
      have Sb144 := Sb0.keep K144 sf0
      have O144 := O0.keep K144 all0
      have KC144 : Keep h0 T144.heap [] := KC0.trans K144 all0
      show Go p.tables e below Pf (T144.setTop (mkF m 47 #[vr va, vi (1 : Int32), vi (2 : Int32), vi (1 : Int32)] [(.ref r_144)]))
      refine Go.by' (fun t k => (XS.goto X144.here hx rfl (pc0 := 47) (pc' := 51) rfl (hb hby d12_47) (by decide) (by decide) k)) ?_
      show Go p.tables e below Pf (T144.setTop (mkF m 51 #[vr va, vi (1 : Int32), vi (2 : Int32), vi (1 : Int32)] [(.ref r_144)]))
      rw [hPf]
      exact Go.retAS X144 hx hEL Sb144 rfl hh hret hlk rfl rfl (hb hby d12_51) (by decide) (by decide) ⟨r_144, rb_144, kb_144, zr_144, vsr_144, rfl, N144, KC144, f144_1, f144_2, f144_3, f144_4, (by rw [r144_0]; decide)⟩
  · subst hz137
    show Go p.tables e below Pf (T137.setTop (mkF m 4 #[vr va, .unset, .unset, .unset] [(.int (2 : Int32))]))
    refine Go.by' (fun t k => (XS.istoreN X137.here hx rfl (hb hby d12_4) rfl (l' := #[vr va, vi (2 : Int32), .unset, .unset]) rfl (XS.iloadN X137.here hx rfl (hb hby d12_5) rfl (XS.aloadN X137.here hx rfl (hb hby d12_6) rfl rfl (own_alen X137 hx hZ e137 VA rfl rfl (hb hby d12_7) (XS.icmpNo X137.here hx rfl (hb hby d12_8) rfl (teq (by decide)).2 k)))))) ?_
    obtain ⟨T146, h146, a146, bb146, kb146, X146, e146, E146, Sb146, A146, Ex146, Fc146, Fv146, Vb146, Ne146, st146⟩ := own_ldc X137 hx Sb0 hw167 hSA e137 hEL (List.mem_of_getElem? (i := 3) rfl) (vs := []) (z := (0 : Int32)) (by decide +kernel) (by decide) rfl (g := (mkF m 11 #[vr va, vi (2 : Int32), .unset, .unset] [])) rfl (hb hby d12_11) (n := 0) (by decide +kernel) (by decide) (by decide) (by decide)
    refine Go.by' st146 ?_
    have O146 := O0.ext E146
    have KC146 : Keep h0 h146 [] := KC0.ext E146
    have hZ146 := Sb146.hZ
    have hO146 := Sb146.hO
    show Go p.tables e below Pf (T146.setTop (mkF m 13 #[vr va, vi (2 : Int32), .unset, .unset] [(.ref a146)]))
    rw [hPf]
    exact Go.retAS X146 hx hEL Sb146 e146 hh hret hlk rfl rfl (hb hby d12_13) (by decide) (by decide) ⟨a146, bb146, kb146, (0 : Int32), [], rfl, N0, (by rw [e146]; exact KC146), (by rw [e146]; exact Ex146), (by rw [e146]; exact Fv146), (by rw [e146]; exact Fc146), (by rw [e146]; exact Vb146), (by decide)⟩
theorem ef_rmSTC_2 (m : MethodId) {sa : Addr} : entryFrame m #[(.ref sa)] 2 = mkF m 0 #[vr sa, .unset] [] := by first | (simp [entryFrame, mkF, argsToLocals, Value.category]; done) | rfl
def QrmSTC_2 (Z : State) (vcs : Int32) (wI : Addr) (wA : Addr) (cA : Cell) (sa : Addr) (va : Addr) (ka : ClassId) (x0 : Int32) (x1 : Int32) (h0 : Heap) (n0 : Nat) (v : Option Value) (h : Heap) (vm : Vm) (L : List Loc) : Prop := ∃ (r : Addr) (rb : Addr) (kb : ClassId) (zr : Int32) (vsr : (List Value)), (v = some (.ref r)) ∧ (Fr n0 L) ∧ (Keep h0 h []) ∧ (Exa Z h r "java/lang/String") ∧ (Fld Z h r "java/lang/String" "value" "[B" (.ref rb)) ∧ (Fld Z h r "java/lang/String" "coder" "B" (.int (0 : Int32))) ∧ (Arv Z h rb kb .byte zr vsr (.int (0 : Int32))) ∧ (¬ (zr = (2 : Int32)))
theorem rmSTC_2 (l : Launch) (Z : State) (a0 : Array Value) (hw : ∀ d ∈ tables_1, d.before a0 Z = true) (ws : List Jvm.Cond) (vcs : Int32) (wI : Addr) (wA : Addr) (cA : Cell) (G : Gh Z vcs wI wA cA) (sa : Addr) (va : Addr) (ka : ClassId) (x0 : Int32) (x1 : Int32) (h0 : Heap) (n0 : Nat) (O0 : Old Z n0 h0) (EA : Exa Z h0 sa "java/lang/String") (FA : Fld Z h0 sa "java/lang/String" "value" "[B" (.ref va)) (CA : Fld Z h0 sa "java/lang/String" "coder" "B" (.int (0 : Int32))) (VA : Arv Z h0 va ka .byte (2 : Int32) [(.int x0), (.int x1)] (.int (0 : Int32))) (hch : Ws (x0 &&& (255 : Int32)) ∨ Ws (x1 &&& (255 : Int32))) :
    MetFree l own_y14 (head1 (Jvm.Cond.code own_y14 jdk_42_method_114_code 2 (some (.object "java/lang/String")) :: ws) ({ frames := 5, cells := 2, slots := 7, locals := 101 } : Room)) (fun aa' UU' => aa' = #[(.ref sa)] ∧ Z.Warmed39 UU'.vm ∧ UU'.heap = h0 ∧ CHv Z consts_1 UU'.vm h0 ∧ ∀ x ∈ ([] : List Addr), Safe Z consts_1 UU'.vm h0 x) (fun _ _ _ _ _ => True) (fun _ UU' oo' VV' => ∃ v' L', oo' = .returned v' ∧ QrmSTC_2 Z vcs wI wA cA sa va ka x0 x1 h0 n0 v' VV'.heap VV'.vm L' ∧ CHr Z consts_1 UU'.vm UU'.heap VV'.vm VV'.heap ∧ ReturnedEndW UU' oo' VV' L' ({ frames := 5, cells := 2, slots := 7, locals := 101 } : Room).cells ({ frames := 5, cells := 2, slots := 7, locals := 101 } : Room).slots) := by
  refine MetFree.of_bodySF (plainFor_of_name pn_10) hisR ?_
  intro p e s m args below meth c s₁ Bd hml0 hP hK
  obtain ⟨rfl, hZ, hh, hCH, hSf⟩ := hP
  have hml : c.maxLocals = 2 := hml0
  obtain ⟨hx, hby, hlk, hown, hnm, hret, X0, e0⟩ := own_hd Bd hh
  replace X0 : Stand p l e ({ frames := 5, cells := 2, slots := 7, locals := 101 } : Room) (s.setVm s.vm) m _ below meth c s₁ [] 0 0 := X0
  have N0 := Fr.nil n0
  have KC0 : Keep h0 h0 [] := Keep.refl _ _
  have Sb0 := Sb.start hZ hown hCH
  have hEL := own_EW hw
  have hSA := own_SA hw
  refine Go.bodyS ?_
  obtain ⟨Pf, hPf⟩ : ∃ P, P = FinS Z consts_1 s below ({ frames := 5, cells := 2, slots := 7, locals := 101 } : Room).cells ({ frames := 5, cells := 2, slots := 7, locals := 101 } : Room).slots (QrmSTC_2 Z vcs wI wA cA sa va ka x0 x1 h0 n0) := ⟨_, rfl⟩
  rw [← hPf]
  refine Go.cast (ef_rmSTC_2 m) ?_
  have hw3 := own_w hw 3 rfl
  have hw20 := own_w hw 20 rfl
  have hw51 := own_w hw 51 rfl
  have hw52 := own_w hw 52 rfl
  have hw53 := own_w hw 53 rfl
  have hw54 := own_w hw 54 rfl
  have hw55 := own_w hw 55 rfl
  have hw56 := own_w hw 56 rfl
  have hw57 := own_w hw 57 rfl
  have hw58 := own_w hw 58 rfl
  have hw59 := own_w hw 59 rfl
  show Go p.tables e below Pf (s₁.setTop (mkF m 0 #[vr sa, .unset] []))
  refine Go.by' (fun t k => (XS.aloadN X0.here hx rfl (hb hby d10_0) rfl rfl k)) ?_
  obtain ⟨cq147, kq147, q147a, q147b, q147c⟩ := isOf hZ e0 EA
  obtain ⟨_, _, ⟨T147, L147, k147, n147⟩, -, X147, ⟨Lc147, hQ147, l147, y147, z147⟩, st147⟩ := X0.virtualBack hx (y := own_y12) (z := own_y12) hown (mvT hZ hw51) (mvT hZ hw52) (notFace_of_selects (args := #[]) (mvT hZ hw54)) (mvT hZ hw54) (mvT hZ hw53) (by decide) (backOf (W := 0) (rmSL l Z a0 hw [] vcs wI wA cA G sa h0 n0 O0 CA) hZ hw55 hw3 (by decide) (by decide)) q147a q147c (g := (mkF m 1 #[vr sa, .unset] [(.ref sa)])) rfl (by rw [hml]; rfl) (Steps.refl _) (argsL := []) (rest := []) (lenOf pd_8 rfl) rfl (Nat.le_of_eq rfl) (hb hby d10_1) (fun _ _ => ⟨rfl, e0, (by decide : 0 + 0 ≤ _), (by decide : 0 + 0 ≤ _)⟩)
  dsimp only [Pt.U, Pt.locs, Pt.cells, Pt.slots] at X147 l147 y147 z147 st147 hQ147
  subst l147 y147 z147
  obtain ⟨rfl, rfl, e147⟩ := hQ147
  try replace X147 := own_nil X147
  refine Go.by' (fun t k => st147.trans k) ?_
  show Go p.tables e below Pf (T147.setTop (mkF m 4 #[vr sa, .unset] [(.int (1 : Int32))]))
  refine Go.by' (fun t k => (XS.ifNo X147.here hx rfl (hb hby d10_4) rfl ((if0 _ _).trans (feq (by decide)).1) (XS.aloadN X147.here hx rfl (hb hby d10_7) rfl rfl k))) ?_
  obtain ⟨T148, X148, e148, st148⟩ := getF X147 hx hZ hown (host := "") (Or.inl hw20) Via.refl e147 FA (g := (mkF m 8 #[vr sa, .unset] [(.ref sa)])) rfl rfl (hb hby d10_8)
  refine Go.by' st148 ?_
  obtain ⟨_, _, ⟨T149, L149, k149, n149⟩, -, X149, Si149, Gr149, ⟨Lc149, hQ149, l149, y149, z149, A149⟩, st149⟩ := callSS X148 hx (y := own_y13) hown (mvT hZ hw56) (mvT hZ hw57) (mvT hZ hw58) (mvT hZ hw59) (by decide) (own_backS (W := 0) (rmLSC_2 l Z a0 hw [] vcs wI wA cA G va ka x0 x1 h0 n0 O0 VA hch) Sb0 hw59 hw58 (by decide) (by decide) hEL all0) (g := (mkF m 11 #[vr sa, .unset] [(.ref va)])) rfl (by rw [hml]; rfl) (argsL := [(.ref va)]) (rest := []) (lenOf pd_9 rfl) rfl (Nat.le_of_eq rfl) (hb hby d10_11) (fun _ _ => ⟨rfl, e148, (by decide : 0 + 2 ≤ _), (by decide : 0 + 7 ≤ _)⟩)
  dsimp only [Pt.U, Pt.locs, Pt.cells, Pt.slots] at X149 l149 y149 z149 st149 hQ149 Si149 Gr149 A149
  subst l149 y149 z149
  obtain ⟨r_149, rb_149, kb_149, zr_149, vsr_149, rfl, N149q, K149, f149_0, f149_1, f149_2, f149_3, r149_0⟩ := hQ149
  have N149 := Fr.app N0 N149q
  obtain ⟨lc149, X149, N149⟩ := own_pack X149 N149
  replace X149 := own_reb X149
  have Sb149 := Sb0.called Si149 (by rw [← e148]; exact Gr149) A149
  have hZ149 := Sb149.hZ
  have hO149 := Sb149.hO
  refine Go.by' (fun t k => st149.trans k) ?_
  have O149 := O0.keep K149 all0
  have KC149 : Keep h0 T149.heap [] := KC0.trans K149 all0
  show Go p.tables e below Pf (T149.setTop (mkF m 14 #[vr sa, .unset] [(.ref r_149)]))
  refine Go.by' (fun t k => (XS.goto X149.here hx rfl (pc0 := 14) (pc' := 24) rfl (hb hby d10_14) (by decide) (by decide) (XS.astoreN X149.here hx rfl (hb hby d10_24) rfl rfl (l' := #[vr sa, vr r_149]) rfl (XS.aloadN X149.here hx rfl (hb hby d10_25) rfl rfl (XS.ifnonnullYes X149.here hx rfl (pc0 := 26) (pc' := 33) rfl (hb hby d10_26) rfl (by decide) (by decide) (XS.aloadN X149.here hx rfl (hb hby d10_33) rfl rfl k)))))) ?_
  show Go p.tables e below Pf (T149.setTop (mkF m 34 #[vr sa, vr r_149] [(.ref r_149)]))
  rw [hPf]
  exact Go.retAS X149 hx hEL Sb149 rfl hh hret hlk rfl rfl (hb hby d10_34) (by decide) (by decide) ⟨r_149, rb_149, kb_149, zr_149, vsr_149, rfl, N149, KC149, f149_0, f149_1, f149_2, f149_3, r149_0⟩
theorem ef_rmLSN_3 (m : MethodId) {va : Addr} : entryFrame m #[(.ref va)] 4 = mkF m 0 #[vr va, .unset, .unset, .unset] [] := by first | (simp [entryFrame, mkF, argsToLocals, Value.category]; done) | rfl
def QrmLSN_3 (Z : State) (vcs : Int32) (wI : Addr) (wA : Addr) (cA : Cell) (va : Addr) (ka : ClassId) (x0 : Int32) (x1 : Int32) (x2 : Int32) (h0 : Heap) (n0 : Nat) (v : Option Value) (h : Heap) (L : List Loc) : Prop := (v = some .null) ∧ (L = []) ∧ (h = h0)
theorem rmLSN_3 (l : Launch) (Z : State) (a0 : Array Value) (hw : ∀ d ∈ tables_1, d.before a0 Z = true) (ws : List Jvm.Cond) (vcs : Int32) (wI : Addr) (wA : Addr) (cA : Cell) (G : Gh Z vcs wI wA cA) (va : Addr) (ka : ClassId) (x0 : Int32) (x1 : Int32) (x2 : Int32) (h0 : Heap) (n0 : Nat) (O0 : Old Z n0 h0) (VA : Arv Z h0 va ka .byte (3 : Int32) [(.int x0), (.int x1), (.int x2)] (.int (0 : Int32))) (hn0 : ¬ Ws (x0 &&& (255 : Int32))) (hnl : ¬ Ws (x2 &&& (255 : Int32))) :
    MetFree l own_y13 (head1 (Jvm.Cond.code own_y13 jdk_43_method_39_code 4 (some (.object "java/lang/String")) :: ws) ({ frames := 3, cells := 0, slots := 0, locals := 44 } : Room)) (fun aa' UU' => aa' = #[(.ref va)] ∧ Z.Warmed39 UU'.vm ∧ UU'.heap = h0) (fun _ _ _ _ _ => True) (fun _ UU' oo' VV' => ∃ v' L', oo' = .returned v' ∧ QrmLSN_3 Z vcs wI wA cA va ka x0 x1 x2 h0 n0 v' VV'.heap L' ∧ FrameEnd UU' oo' VV' L' ({ frames := 3, cells := 0, slots := 0, locals := 44 } : Room).cells ({ frames := 3, cells := 0, slots := 0, locals := 44 } : Room).slots) := by
  refine MetFree.of_bodySF (plainFor_of_name pn_12) hisR ?_
  intro p e s m args below meth c s₁ Bd hml0 hP hK
  obtain ⟨rfl, hZ, hh⟩ := hP
  have hml : c.maxLocals = 4 := hml0
  obtain ⟨hx, hby, hlk, hown, hnm, hret, X0, e0⟩ := own_hd Bd hh
  have N0 := Fr.nil n0
  refine Go.body ?_
  obtain ⟨Pf, hPf⟩ : ∃ P, P = Fin' s below ({ frames := 3, cells := 0, slots := 0, locals := 44 } : Room).cells ({ frames := 3, cells := 0, slots := 0, locals := 44 } : Room).slots (QrmLSN_3 Z vcs wI wA cA va ka x0 x1 x2 h0 n0) := ⟨_, rfl⟩
  rw [← hPf]
  refine Go.cast (ef_rmLSN_3 m) ?_
  have hw58 := own_w hw 58 rfl
  have hw60 := own_w hw 60 rfl
  have hw61 := own_w hw 61 rfl
  have hw62 := own_w hw 62 rfl
  have hw79 := own_w hw 79 rfl
  have hw80 := own_w hw 80 rfl
  have hw81 := own_w hw 81 rfl
  show Go p.tables e below Pf (s₁.setTop (mkF m 0 #[vr va, .unset, .unset, .unset] []))
  refine Go.by' (fun t k => (XS.aloadN X0.here hx rfl (hb hby d12_0) rfl rfl k)) ?_
  obtain ⟨_, _, ⟨T150, L150, k150, n150⟩, -, X150, ⟨Lc150, hQ150, l150, y150, z150⟩, st150⟩ := Jvm.LawKit.callS X0 hx (y := own_y4) hown (mvT hZ hw60) (mvT hZ hw61) (mvT hZ hw58) (mvT hZ hw62) (by decide) (backOf (W := 0) (rmNW_3 l Z a0 hw [] vcs wI wA cA G va ka x0 x1 x2 h0 n0 O0 VA) hZ hw62 hw58 (by decide) (by decide)) (g := (mkF m 1 #[vr va, .unset, .unset, .unset] [(.ref va)])) rfl (by rw [hml]; rfl) (argsL := [(.ref va)]) (rest := []) (lenOf pd_7 rfl) rfl (Nat.le_of_eq rfl) (hb hby d12_1) (fun _ _ => ⟨rfl, e0, (by decide : 0 + 0 ≤ _), (by decide : 0 + 0 ≤ _)⟩)
  dsimp only [Pt.U, Pt.locs, Pt.cells, Pt.slots] at X150 l150 y150 z150 st150 hQ150
  subst l150 y150 z150
  obtain ⟨r_150, rfl, rfl, e150, r150_0⟩ := hQ150
  try replace X150 := own_nil X150
  refine Go.by' st150 ?_
  rcases r150_0 with ⟨nF150_0, hz150⟩ | ⟨hF150_0, nF150_1, hz150⟩ | ⟨hF150_0, hF150_1, nF150_2, hz150⟩ | ⟨hF150_0, hF150_1, hF150_2, hz150⟩
  · subst hz150
    show Go p.tables e below Pf (T150.setTop (mkF m 4 #[vr va, .unset, .unset, .unset] [(.int (0 : Int32))]))
    refine Go.by' (fun t k => (XS.istoreN X150.here hx rfl (hb hby d12_4) rfl (l' := #[vr va, vi (0 : Int32), .unset, .unset]) rfl (XS.iloadN X150.here hx rfl (hb hby d12_5) rfl (XS.aloadN X150.here hx rfl (hb hby d12_6) rfl rfl (own_alen X150 hx hZ e150 VA rfl rfl (hb hby d12_7) (XS.icmpYes X150.here hx rfl (pc0 := 8) (pc' := 14) rfl (hb hby d12_8) rfl (feq (by decide)).2 (by decide) (by decide) (XS.aloadN X150.here hx rfl (hb hby d12_14) rfl rfl k))))))) ?_
    obtain ⟨_, _, ⟨T152, L152, k152, n152⟩, -, X152, ⟨Lc152, hQ152, l152, y152, z152⟩, st152⟩ := Jvm.LawKit.callS X150 hx (y := own_y5) hown (mvT hZ hw79) (mvT hZ hw80) (mvT hZ hw58) (mvT hZ hw81) (by decide) (backOf (W := 0) (rmLW_3 l Z a0 hw [] vcs wI wA cA G va ka x0 x1 x2 h0 n0 O0 VA) hZ hw81 hw58 (by decide) (by decide)) (g := (mkF m 15 #[vr va, vi (0 : Int32), .unset, .unset] [(.ref va)])) rfl (by rw [hml]; rfl) (argsL := [(.ref va)]) (rest := []) (lenOf pd_7 rfl) rfl (Nat.le_of_eq rfl) (hb hby d12_15) (fun _ _ => ⟨rfl, e150, (by decide : 0 + 0 ≤ _), (by decide : 0 + 0 ≤ _)⟩)
    dsimp only [Pt.U, Pt.locs, Pt.cells, Pt.slots] at X152 l152 y152 z152 st152 hQ152
    subst l152 y152 z152
    obtain ⟨r_152, rfl, rfl, e152, r152_0⟩ := hQ152
    try replace X152 := own_nil X152
    refine Go.by' st152 ?_
    rcases r152_0 with ⟨hL152_2, hL152_1, hL152_0, hz152⟩ | ⟨hL152_2, hL152_1, nL152_0, hz152⟩ | ⟨hL152_2, nL152_1, hz152⟩ | ⟨nL152_2, hz152⟩
    · exact absurd hL152_0 nF150_0
    · exact absurd hL152_2 hnl
    · exact absurd hL152_2 hnl
    · subst hz152
      show Go p.tables e below Pf (T152.setTop (mkF m 18 #[vr va, vi (0 : Int32), .unset, .unset] [(.int (3 : Int32))]))
      refine Go.by' (fun t k => (XS.istoreN X152.here hx rfl (hb hby d12_18) rfl (l' := #[vr va, vi (0 : Int32), vi (3 : Int32), .unset]) rfl (XS.iloadN X152.here hx rfl (hb hby d12_19) rfl (XS.ifNo X152.here hx rfl (hb hby d12_20) rfl ((if0 _ _).trans (flt (by decide)).2.2.1) (XS.iloadN X152.here hx rfl (hb hby d12_23) rfl (XS.aloadN X152.here hx rfl (hb hby d12_24) rfl rfl (own_alen X152 hx hZ e152 VA rfl rfl (hb hby d12_25) (XS.icmpYes X152.here hx rfl (pc0 := 26) (pc' := 33) rfl (hb hby d12_26) rfl (flt (by decide)).2.1 (by decide) (by decide) (XS.iconst X152.here hx rfl (hb hby d12_33) k))))))))) ?_
      show Go p.tables e below Pf (T152.setTop (mkF m 34 #[vr va, vi (0 : Int32), vi (3 : Int32), .unset] [(.int (0 : Int32))]))
      refine Go.by' (fun t k => (XS.istoreN X152.here hx rfl (hb hby d12_34) rfl (l' := #[vr va, vi (0 : Int32), vi (3 : Int32), vi (0 : Int32)]) rfl (XS.iloadN X152.here hx rfl (hb hby d12_35) rfl (XS.ifYes X152.here hx rfl (pc0 := 36) (pc' := 50) rfl (hb hby d12_36) rfl ((if0 _ _).trans (teq (by decide)).1) (by decide) (by decide) (XS.aconstNull X152.here hx rfl (hb hby d12_50) k))))) ?_
      show Go p.tables e below Pf (T152.setTop (mkF m 51 #[vr va, vi (0 : Int32), vi (3 : Int32), vi (0 : Int32)] [.null]))
      rw [hPf]
      exact Go.retA' X152 hx hret hlk rfl rfl (hb hby d12_51) (by decide) (by decide) ⟨rfl, rfl, e152⟩
  · exact absurd hF150_0 hn0
  · exact absurd hF150_0 hn0
  · exact absurd hF150_0 hn0
theorem ef_rmSTN_3 (m : MethodId) {sa : Addr} : entryFrame m #[(.ref sa)] 2 = mkF m 0 #[vr sa, .unset] [] := by first | (simp [entryFrame, mkF, argsToLocals, Value.category]; done) | rfl
def QrmSTN_3 (Z : State) (vcs : Int32) (wI : Addr) (wA : Addr) (cA : Cell) (sa : Addr) (va : Addr) (ka : ClassId) (x0 : Int32) (x1 : Int32) (x2 : Int32) (h0 : Heap) (n0 : Nat) (v : Option Value) (h : Heap) (L : List Loc) : Prop := (v = some (.ref sa)) ∧ (L = []) ∧ (h = h0)
theorem rmSTN_3 (l : Launch) (Z : State) (a0 : Array Value) (hw : ∀ d ∈ tables_1, d.before a0 Z = true) (ws : List Jvm.Cond) (vcs : Int32) (wI : Addr) (wA : Addr) (cA : Cell) (G : Gh Z vcs wI wA cA) (sa : Addr) (va : Addr) (ka : ClassId) (x0 : Int32) (x1 : Int32) (x2 : Int32) (h0 : Heap) (n0 : Nat) (O0 : Old Z n0 h0) (EA : Exa Z h0 sa "java/lang/String") (FA : Fld Z h0 sa "java/lang/String" "value" "[B" (.ref va)) (CA : Fld Z h0 sa "java/lang/String" "coder" "B" (.int (0 : Int32))) (VA : Arv Z h0 va ka .byte (3 : Int32) [(.int x0), (.int x1), (.int x2)] (.int (0 : Int32))) (hn0 : ¬ Ws (x0 &&& (255 : Int32))) (hnl : ¬ Ws (x2 &&& (255 : Int32))) :
    MetFree l own_y14 (head1 (Jvm.Cond.code own_y14 jdk_42_method_114_code 2 (some (.object "java/lang/String")) :: ws) ({ frames := 4, cells := 0, slots := 0, locals := 59 } : Room)) (fun aa' UU' => aa' = #[(.ref sa)] ∧ Z.Warmed39 UU'.vm ∧ UU'.heap = h0) (fun _ _ _ _ _ => True) (fun _ UU' oo' VV' => ∃ v' L', oo' = .returned v' ∧ QrmSTN_3 Z vcs wI wA cA sa va ka x0 x1 x2 h0 n0 v' VV'.heap L' ∧ FrameEnd UU' oo' VV' L' ({ frames := 4, cells := 0, slots := 0, locals := 59 } : Room).cells ({ frames := 4, cells := 0, slots := 0, locals := 59 } : Room).slots) := by
  refine MetFree.of_bodySF (plainFor_of_name pn_10) hisR ?_
  intro p e s m args below meth c s₁ Bd hml0 hP hK
  obtain ⟨rfl, hZ, hh⟩ := hP
  have hml : c.maxLocals = 2 := hml0
  obtain ⟨hx, hby, hlk, hown, hnm, hret, X0, e0⟩ := own_hd Bd hh
  have N0 := Fr.nil n0
  refine Go.body ?_
  obtain ⟨Pf, hPf⟩ : ∃ P, P = Fin' s below ({ frames := 4, cells := 0, slots := 0, locals := 59 } : Room).cells ({ frames := 4, cells := 0, slots := 0, locals := 59 } : Room).slots (QrmSTN_3 Z vcs wI wA cA sa va ka x0 x1 x2 h0 n0) := ⟨_, rfl⟩
  rw [← hPf]
  refine Go.cast (ef_rmSTN_3 m) ?_
  have hw3 := own_w hw 3 rfl
  have hw20 := own_w hw 20 rfl
  have hw51 := own_w hw 51 rfl
  have hw52 := own_w hw 52 rfl
  have hw53 := own_w hw 53 rfl
  have hw54 := own_w hw 54 rfl
  have hw55 := own_w hw 55 rfl
  have hw56 := own_w hw 56 rfl
  have hw57 := own_w hw 57 rfl
  have hw58 := own_w hw 58 rfl
  have hw59 := own_w hw 59 rfl
  show Go p.tables e below Pf (s₁.setTop (mkF m 0 #[vr sa, .unset] []))
  refine Go.by' (fun t k => (XS.aloadN X0.here hx rfl (hb hby d10_0) rfl rfl k)) ?_
  obtain ⟨cq154, kq154, q154a, q154b, q154c⟩ := isOf hZ e0 EA
  obtain ⟨_, _, ⟨T154, L154, k154, n154⟩, -, X154, ⟨Lc154, hQ154, l154, y154, z154⟩, st154⟩ := X0.virtualBack hx (y := own_y12) (z := own_y12) hown (mvT hZ hw51) (mvT hZ hw52) (notFace_of_selects (args := #[]) (mvT hZ hw54)) (mvT hZ hw54) (mvT hZ hw53) (by decide) (backOf (W := 0) (rmSL l Z a0 hw [] vcs wI wA cA G sa h0 n0 O0 CA) hZ hw55 hw3 (by decide) (by decide)) q154a q154c (g := (mkF m 1 #[vr sa, .unset] [(.ref sa)])) rfl (by rw [hml]; rfl) (Steps.refl _) (argsL := []) (rest := []) (lenOf pd_8 rfl) rfl (Nat.le_of_eq rfl) (hb hby d10_1) (fun _ _ => ⟨rfl, e0, (by decide : 0 + 0 ≤ _), (by decide : 0 + 0 ≤ _)⟩)
  dsimp only [Pt.U, Pt.locs, Pt.cells, Pt.slots] at X154 l154 y154 z154 st154 hQ154
  subst l154 y154 z154
  obtain ⟨rfl, rfl, e154⟩ := hQ154
  try replace X154 := own_nil X154
  refine Go.by' (fun t k => st154.trans k) ?_
  show Go p.tables e below Pf (T154.setTop (mkF m 4 #[vr sa, .unset] [(.int (1 : Int32))]))
  refine Go.by' (fun t k => (XS.ifNo X154.here hx rfl (hb hby d10_4) rfl ((if0 _ _).trans (feq (by decide)).1) (XS.aloadN X154.here hx rfl (hb hby d10_7) rfl rfl k))) ?_
  obtain ⟨T155, X155, e155, st155⟩ := getF X154 hx hZ hown (host := "") (Or.inl hw20) Via.refl e154 FA (g := (mkF m 8 #[vr sa, .unset] [(.ref sa)])) rfl rfl (hb hby d10_8)
  refine Go.by' st155 ?_
  obtain ⟨_, _, ⟨T156, L156, k156, n156⟩, -, X156, ⟨Lc156, hQ156, l156, y156, z156⟩, st156⟩ := Jvm.LawKit.callS X155 hx (y := own_y13) hown (mvT hZ hw56) (mvT hZ hw57) (mvT hZ hw58) (mvT hZ hw59) (by decide) (backOf (W := 0) (rmLSN_3 l Z a0 hw [] vcs wI wA cA G va ka x0 x1 x2 h0 n0 O0 VA hn0 hnl) hZ hw59 hw58 (by decide) (by decide)) (g := (mkF m 11 #[vr sa, .unset] [(.ref va)])) rfl (by rw [hml]; rfl) (argsL := [(.ref va)]) (rest := []) (lenOf pd_9 rfl) rfl (Nat.le_of_eq rfl) (hb hby d10_11) (fun _ _ => ⟨rfl, e155, (by decide : 0 + 0 ≤ _), (by decide : 0 + 0 ≤ _)⟩)
  dsimp only [Pt.U, Pt.locs, Pt.cells, Pt.slots] at X156 l156 y156 z156 st156 hQ156
  subst l156 y156 z156
  obtain ⟨rfl, rfl, e156⟩ := hQ156
  try replace X156 := own_nil X156
  refine Go.by' st156 ?_
  show Go p.tables e below Pf (T156.setTop (mkF m 14 #[vr sa, .unset] [.null]))
  refine Go.by' (fun t k => (XS.goto X156.here hx rfl (pc0 := 14) (pc' := 24) rfl (hb hby d10_14) (by decide) (by decide) (XS.astoreN X156.here hx rfl (hb hby d10_24) rfl rfl (l' := #[vr sa, .val .null]) rfl (XS.aloadN X156.here hx rfl (hb hby d10_25) rfl rfl (XS.ifnonnullNo X156.here hx rfl (hb hby d10_26) rfl (XS.aloadN X156.here hx rfl (hb hby d10_29) rfl rfl (XS.goto X156.here hx rfl (pc0 := 30) (pc' := 34) rfl (hb hby d10_30) (by decide) (by decide) k))))))) ?_
  show Go p.tables e below Pf (T156.setTop (mkF m 34 #[vr sa, .val .null] [(.ref sa)]))
  rw [hPf]
  exact Go.retA' X156 hx hret hlk rfl rfl (hb hby d10_34) (by decide) (by decide) ⟨rfl, rfl, e156⟩
theorem ef_rmLSC_3 (m : MethodId) {va : Addr} : entryFrame m #[(.ref va)] 4 = mkF m 0 #[vr va, .unset, .unset, .unset] [] := by first | (simp [entryFrame, mkF, argsToLocals, Value.category]; done) | rfl
def QrmLSC_3 (Z : State) (vcs : Int32) (wI : Addr) (wA : Addr) (cA : Cell) (va : Addr) (ka : ClassId) (x0 : Int32) (x1 : Int32) (x2 : Int32) (h0 : Heap) (n0 : Nat) (v : Option Value) (h : Heap) (vm : Vm) (L : List Loc) : Prop := ∃ (r : Addr) (rb : Addr) (kb : ClassId) (zr : Int32) (vsr : (List Value)), (v = some (.ref r)) ∧ (Fr n0 L) ∧ (Keep h0 h []) ∧ (Exa Z h r "java/lang/String") ∧ (Fld Z h r "java/lang/String" "value" "[B" (.ref rb)) ∧ (Fld Z h r "java/lang/String" "coder" "B" (.int (0 : Int32))) ∧ (Arv Z h rb kb .byte zr vsr (.int (0 : Int32))) ∧ (¬ (zr = (3 : Int32)))
theorem rmLSC_3 (l : Launch) (Z : State) (a0 : Array Value) (hw : ∀ d ∈ tables_1, d.before a0 Z = true) (ws : List Jvm.Cond) (vcs : Int32) (wI : Addr) (wA : Addr) (cA : Cell) (G : Gh Z vcs wI wA cA) (va : Addr) (ka : ClassId) (x0 : Int32) (x1 : Int32) (x2 : Int32) (h0 : Heap) (n0 : Nat) (O0 : Old Z n0 h0) (VA : Arv Z h0 va ka .byte (3 : Int32) [(.int x0), (.int x1), (.int x2)] (.int (0 : Int32))) (hch : Ws (x0 &&& (255 : Int32)) ∨ Ws (x2 &&& (255 : Int32))) :
    MetFree l own_y13 (head1 (Jvm.Cond.code own_y13 jdk_43_method_39_code 4 (some (.object "java/lang/String")) :: ws) ({ frames := 4, cells := 2, slots := 7, locals := 86 } : Room)) (fun aa' UU' => aa' = #[(.ref va)] ∧ Z.Warmed39 UU'.vm ∧ UU'.heap = h0 ∧ CHv Z consts_1 UU'.vm h0 ∧ ∀ x ∈ ([] : List Addr), Safe Z consts_1 UU'.vm h0 x) (fun _ _ _ _ _ => True) (fun _ UU' oo' VV' => ∃ v' L', oo' = .returned v' ∧ QrmLSC_3 Z vcs wI wA cA va ka x0 x1 x2 h0 n0 v' VV'.heap VV'.vm L' ∧ CHr Z consts_1 UU'.vm UU'.heap VV'.vm VV'.heap ∧ ReturnedEndW UU' oo' VV' L' ({ frames := 4, cells := 2, slots := 7, locals := 86 } : Room).cells ({ frames := 4, cells := 2, slots := 7, locals := 86 } : Room).slots) := by
  refine MetFree.of_bodySF (plainFor_of_name pn_12) hisR ?_
  intro p e s m args below meth c s₁ Bd hml0 hP hK
  obtain ⟨rfl, hZ, hh, hCH, hSf⟩ := hP
  have hml : c.maxLocals = 4 := hml0
  obtain ⟨hx, hby, hlk, hown, hnm, hret, X0, e0⟩ := own_hd Bd hh
  replace X0 : Stand p l e ({ frames := 4, cells := 2, slots := 7, locals := 86 } : Room) (s.setVm s.vm) m _ below meth c s₁ [] 0 0 := X0
  have N0 := Fr.nil n0
  have KC0 : Keep h0 h0 [] := Keep.refl _ _
  have Sb0 := Sb.start hZ hown hCH
  have hEL := own_EW hw
  have hSA := own_SA hw
  refine Go.bodyS ?_
  obtain ⟨Pf, hPf⟩ : ∃ P, P = FinS Z consts_1 s below ({ frames := 4, cells := 2, slots := 7, locals := 86 } : Room).cells ({ frames := 4, cells := 2, slots := 7, locals := 86 } : Room).slots (QrmLSC_3 Z vcs wI wA cA va ka x0 x1 x2 h0 n0) := ⟨_, rfl⟩
  rw [← hPf]
  refine Go.cast (ef_rmLSC_3 m) ?_
  have hw58 := own_w hw 58 rfl
  have hw60 := own_w hw 60 rfl
  have hw61 := own_w hw 61 rfl
  have hw62 := own_w hw 62 rfl
  have hw79 := own_w hw 79 rfl
  have hw80 := own_w hw 80 rfl
  have hw81 := own_w hw 81 rfl
  have hw138 := own_w hw 138 rfl
  have hw139 := own_w hw 139 rfl
  have hw140 := own_w hw 140 rfl
  have hw167 := own_w hw 167 rfl
  show Go p.tables e below Pf (s₁.setTop (mkF m 0 #[vr va, .unset, .unset, .unset] []))
  refine Go.by' (fun t k => (XS.aloadN X0.here hx rfl (hb hby d12_0) rfl rfl k)) ?_
  obtain ⟨_, _, ⟨T157, L157, k157, n157⟩, -, X157, ⟨Lc157, hQ157, l157, y157, z157⟩, st157⟩ := Jvm.LawKit.callS X0 hx (y := own_y4) hown (mvT hZ hw60) (mvT hZ hw61) (mvT hZ hw58) (mvT hZ hw62) (by decide) (backOf (W := 0) (rmNW_3 l Z a0 hw [] vcs wI wA cA G va ka x0 x1 x2 h0 n0 O0 VA) hZ hw62 hw58 (by decide) (by decide)) (g := (mkF m 1 #[vr va, .unset, .unset, .unset] [(.ref va)])) rfl (by rw [hml]; rfl) (argsL := [(.ref va)]) (rest := []) (lenOf pd_7 rfl) rfl (Nat.le_of_eq rfl) (hb hby d12_1) (fun _ _ => ⟨rfl, e0, (by decide : 0 + 0 ≤ _), (by decide : 0 + 0 ≤ _)⟩)
  dsimp only [Pt.U, Pt.locs, Pt.cells, Pt.slots] at X157 l157 y157 z157 st157 hQ157
  subst l157 y157 z157
  obtain ⟨r_157, rfl, rfl, e157, r157_0⟩ := hQ157
  try replace X157 := own_nil X157
  refine Go.by' st157 ?_
  rcases r157_0 with ⟨nF157_0, hz157⟩ | ⟨hF157_0, nF157_1, hz157⟩ | ⟨hF157_0, hF157_1, nF157_2, hz157⟩ | ⟨hF157_0, hF157_1, hF157_2, hz157⟩
  · subst hz157
    show Go p.tables e below Pf (T157.setTop (mkF m 4 #[vr va, .unset, .unset, .unset] [(.int (0 : Int32))]))
    refine Go.by' (fun t k => (XS.istoreN X157.here hx rfl (hb hby d12_4) rfl (l' := #[vr va, vi (0 : Int32), .unset, .unset]) rfl (XS.iloadN X157.here hx rfl (hb hby d12_5) rfl (XS.aloadN X157.here hx rfl (hb hby d12_6) rfl rfl (own_alen X157 hx hZ e157 VA rfl rfl (hb hby d12_7) (XS.icmpYes X157.here hx rfl (pc0 := 8) (pc' := 14) rfl (hb hby d12_8) rfl (feq (by decide)).2 (by decide) (by decide) (XS.aloadN X157.here hx rfl (hb hby d12_14) rfl rfl k))))))) ?_
    obtain ⟨_, _, ⟨T159, L159, k159, n159⟩, -, X159, ⟨Lc159, hQ159, l159, y159, z159⟩, st159⟩ := Jvm.LawKit.callS X157 hx (y := own_y5) hown (mvT hZ hw79) (mvT hZ hw80) (mvT hZ hw58) (mvT hZ hw81) (by decide) (backOf (W := 0) (rmLW_3 l Z a0 hw [] vcs wI wA cA G va ka x0 x1 x2 h0 n0 O0 VA) hZ hw81 hw58 (by decide) (by decide)) (g := (mkF m 15 #[vr va, vi (0 : Int32), .unset, .unset] [(.ref va)])) rfl (by rw [hml]; rfl) (argsL := [(.ref va)]) (rest := []) (lenOf pd_7 rfl) rfl (Nat.le_of_eq rfl) (hb hby d12_15) (fun _ _ => ⟨rfl, e157, (by decide : 0 + 0 ≤ _), (by decide : 0 + 0 ≤ _)⟩)
    dsimp only [Pt.U, Pt.locs, Pt.cells, Pt.slots] at X159 l159 y159 z159 st159 hQ159
    subst l159 y159 z159
    obtain ⟨r_159, rfl, rfl, e159, r159_0⟩ := hQ159
    try replace X159 := own_nil X159
    refine Go.by' st159 ?_
    rcases r159_0 with ⟨hL159_2, hL159_1, hL159_0, hz159⟩ | ⟨hL159_2, hL159_1, nL159_0, hz159⟩ | ⟨hL159_2, nL159_1, hz159⟩ | ⟨nL159_2, hz159⟩
    · exact absurd hL159_0 nF157_0
    · subst hz159
      show Go p.tables e below Pf (T159.setTop (mkF m 18 #[vr va, vi (0 : Int32), .unset, .unset] [(.int (1 : Int32))]))
      refine Go.by' (fun t k => (XS.istoreN X159.here hx rfl (hb hby d12_18) rfl (l' := #[vr va, vi (0 : Int32), vi (1 : Int32), .unset]) rfl (XS.iloadN X159.here hx rfl (hb hby d12_19) rfl (XS.ifNo X159.here hx rfl (hb hby d12_20) rfl ((if0 _ _).trans (flt (by decide)).2.2.1) (XS.iloadN X159.here hx rfl (hb hby d12_23) rfl (XS.aloadN X159.here hx rfl (hb hby d12_24) rfl rfl (own_alen X159 hx hZ e159 VA rfl rfl (hb hby d12_25) (XS.icmpNo X159.here hx rfl (hb hby d12_26) rfl (tlt (by decide)).2.1 (XS.iconst X159.here hx rfl (hb hby d12_29) k))))))))) ?_
      show Go p.tables e below Pf (T159.setTop (mkF m 30 #[vr va, vi (0 : Int32), vi (1 : Int32), .unset] [(.int (1 : Int32))]))
      refine Go.by' (fun t k => (XS.goto X159.here hx rfl (pc0 := 30) (pc' := 34) rfl (hb hby d12_30) (by decide) (by decide) (XS.istoreN X159.here hx rfl (hb hby d12_34) rfl (l' := #[vr va, vi (0 : Int32), vi (1 : Int32), vi (1 : Int32)]) rfl (XS.iloadN X159.here hx rfl (hb hby d12_35) rfl (XS.ifNo X159.here hx rfl (hb hby d12_36) rfl ((if0 _ _).trans (feq (by decide)).1) (XS.aloadN X159.here hx rfl (hb hby d12_39) rfl rfl (XS.iloadN X159.here hx rfl (hb hby d12_40) rfl (XS.iloadN X159.here hx rfl (hb hby d12_41) rfl (XS.iloadN X159.here hx rfl (hb hby d12_42) rfl k))))))))) ?_
      show Go p.tables e below Pf (T159.setTop (mkF m 43 #[vr va, vi (0 : Int32), vi (1 : Int32), vi (1 : Int32)] [(.int (0 : Int32)), (.int (1 : Int32)), (.int (0 : Int32)), (.ref va)]))
      refine Go.by' (fun t k => (XS.isub X159.here hx rfl (hb hby d12_43) rfl k)) ?_
      obtain ⟨_, _, ⟨T161, L161, k161, n161⟩, -, X161, ⟨Lc161, hQ161, l161, y161, z161⟩, st161⟩ := Jvm.LawKit.callS X159 hx (y := own_y11) hown (mvT hZ hw138) (mvT hZ hw139) (mvT hZ hw58) (mvT hZ hw140) (by decide) (backOf (W := 0) (rmNS l Z a0 hw [] vcs wI wA cA G va ((0 : Int32)) ((1 : Int32)) ka ((3 : Int32)) ([(Value.int x0), (Value.int x1), (Value.int x2)]) h0 n0 O0 VA (by decide) (by decide)) hZ hw140 hw58 (by decide) (by decide)) (g := (mkF m 44 #[vr va, vi (0 : Int32), vi (1 : Int32), vi (1 : Int32)] [(.int (1 : Int32)), (.int (0 : Int32)), (.ref va)])) rfl (by rw [hml]; rfl) (argsL := [(.ref va), (.int (0 : Int32)), (.int (1 : Int32))]) (rest := []) (lenOf pd_10 rfl) rfl (Nat.le_of_eq rfl) (hb hby d12_44) (fun _ _ => ⟨rfl, e159, (by decide : 0 + 2 ≤ _), (by decide : 0 + 7 ≤ _)⟩)
      dsimp only [Pt.U, Pt.locs, Pt.cells, Pt.slots] at X161 l161 y161 z161 st161 hQ161
      subst l161 y161 z161
      obtain ⟨r_161, rb_161, kb_161, zr_161, vsr_161, rfl, N161q, K161, f161_0, f161_1, f161_2, f161_3, f161_4, f161_5, r161_0⟩ := hQ161
      have N161 := Fr.app N0 N161q
      obtain ⟨lc161, X161, N161⟩ := own_pack X161 N161
      refine Go.by' st161 ?_
      have Sf_r_161 : Safe Z consts_1 s.vm h0 r_161 := Safe.new f161_0
      have g_r_161 : n0 ≤ r_161 := Nat.le_trans (own_le O0) f161_0
      have sz_r_161 : h0.size ≤ r_161 := Nat.le_trans KC0.1 f161_0
      have Sf_rb_161 : Safe Z consts_1 s.vm h0 rb_161 := Safe.new f161_5
      have g_rb_161 : n0 ≤ rb_161 := Nat.le_trans (own_le O0) f161_5
      have sz_rb_161 : h0.size ≤ rb_161 := Nat.le_trans KC0.1 f161_5
      have Sb161 := Sb0.keep K161 sf0
      have O161 := O0.keep K161 all0
      have KC161 : Keep h0 T161.heap [] := KC0.trans K161 all0
      show Go p.tables e below Pf (T161.setTop (mkF m 47 #[vr va, vi (0 : Int32), vi (1 : Int32), vi (1 : Int32)] [(.ref r_161)]))
      refine Go.by' (fun t k => (XS.goto X161.here hx rfl (pc0 := 47) (pc' := 51) rfl (hb hby d12_47) (by decide) (by decide) k)) ?_
      show Go p.tables e below Pf (T161.setTop (mkF m 51 #[vr va, vi (0 : Int32), vi (1 : Int32), vi (1 : Int32)] [(.ref r_161)]))
      rw [hPf]
      exact Go.retAS X161 hx hEL Sb161 rfl hh hret hlk rfl rfl (hb hby d12_51) (by decide) (by decide) ⟨r_161, rb_161, kb_161, zr_161, vsr_161, rfl, N161, KC161, f161_1, f161_2, f161_3, f161_4, (by rw [r161_0]; decide)⟩
    · subst hz159
      show Go p.tables e below Pf (T159.setTop (mkF m 18 #[vr va, vi (0 : Int32), .unset, .unset] [(.int (2 : Int32))]))
      refine Go.by' (fun t k => (XS.istoreN X159.here hx rfl (hb hby d12_18) rfl (l' := #[vr va, vi (0 : Int32), vi (2 : Int32), .unset]) rfl (XS.iloadN X159.here hx rfl (hb hby d12_19) rfl (XS.ifNo X159.here hx rfl (hb hby d12_20) rfl ((if0 _ _).trans (flt (by decide)).2.2.1) (XS.iloadN X159.here hx rfl (hb hby d12_23) rfl (XS.aloadN X159.here hx rfl (hb hby d12_24) rfl rfl (own_alen X159 hx hZ e159 VA rfl rfl (hb hby d12_25) (XS.icmpNo X159.here hx rfl (hb hby d12_26) rfl (tlt (by decide)).2.1 (XS.iconst X159.here hx rfl (hb hby d12_29) k))))))))) ?_
      show Go p.tables e below Pf (T159.setTop (mkF m 30 #[vr va, vi (0 : Int32), vi (2 : Int32), .unset] [(.int (1 : Int32))]))
      refine Go.by' (fun t k => (XS.goto X159.here hx rfl (pc0 := 30) (pc' := 34) rfl (hb hby d12_30) (by decide) (by decide) (XS.istoreN X159.here hx rfl (hb hby d12_34) rfl (l' := #[vr va, vi (0 : Int32), vi (2 : Int32), vi (1 : Int32)]) rfl (XS.iloadN X159.here hx rfl (hb hby d12_35) rfl (XS.ifNo X159.here hx rfl (hb hby d12_36) rfl ((if0 _ _).trans (feq (by decide)).1) (XS.aloadN X159.here hx rfl (hb hby d12_39) rfl rfl (XS.iloadN X159.here hx rfl (hb hby d12_40) rfl (XS.iloadN X159.here hx rfl (hb hby d12_41) rfl (XS.iloadN X159.here hx rfl (hb hby d12_42) rfl k))))))))) ?_
      show Go p.tables e below Pf (T159.setTop (mkF m 43 #[vr va, vi (0 : Int32), vi (2 : Int32), vi (1 : Int32)] [(.int (0 : Int32)), (.int (2 : Int32)), (.int (0 : Int32)), (.ref va)]))
      refine Go.by' (fun t k => (XS.isub X159.here hx rfl (hb hby d12_43) rfl k)) ?_
      obtain ⟨_, _, ⟨T163, L163, k163, n163⟩, -, X163, ⟨Lc163, hQ163, l163, y163, z163⟩, st163⟩ := Jvm.LawKit.callS X159 hx (y := own_y11) hown (mvT hZ hw138) (mvT hZ hw139) (mvT hZ hw58) (mvT hZ hw140) (by decide) (backOf (W := 0) (rmNS l Z a0 hw [] vcs wI wA cA G va ((0 : Int32)) ((2 : Int32)) ka ((3 : Int32)) ([(Value.int x0), (Value.int x1), (Value.int x2)]) h0 n0 O0 VA (by decide) (by decide)) hZ hw140 hw58 (by decide) (by decide)) (g := (mkF m 44 #[vr va, vi (0 : Int32), vi (2 : Int32), vi (1 : Int32)] [(.int (2 : Int32)), (.int (0 : Int32)), (.ref va)])) rfl (by rw [hml]; rfl) (argsL := [(.ref va), (.int (0 : Int32)), (.int (2 : Int32))]) (rest := []) (lenOf pd_10 rfl) rfl (Nat.le_of_eq rfl) (hb hby d12_44) (fun _ _ => ⟨rfl, e159, (by decide : 0 + 2 ≤ _), (by decide : 0 + 7 ≤ _)⟩)
      dsimp only [Pt.U, Pt.locs, Pt.cells, Pt.slots] at X163 l163 y163 z163 st163 hQ163
      subst l163 y163 z163
      obtain ⟨r_163, rb_163, kb_163, zr_163, vsr_163, rfl, N163q, K163, f163_0, f163_1, f163_2, f163_3, f163_4, f163_5, r163_0⟩ := hQ163
      have N163 := Fr.app N0 N163q
      obtain ⟨lc163, X163, N163⟩ := own_pack X163 N163
      refine Go.by' st163 ?_
      have Sf_r_163 : Safe Z consts_1 s.vm h0 r_163 := Safe.new f163_0
      have g_r_163 : n0 ≤ r_163 := Nat.le_trans (own_le O0) f163_0
      have sz_r_163 : h0.size ≤ r_163 := Nat.le_trans KC0.1 f163_0
      have Sf_rb_163 : Safe Z consts_1 s.vm h0 rb_163 := Safe.new f163_5
      have g_rb_163 : n0 ≤ rb_163 := Nat.le_trans (own_le O0) f163_5
      have sz_rb_163 : h0.size ≤ rb_163 := Nat.le_trans KC0.1 f163_5
      have Sb163 := Sb0.keep K163 sf0
      have O163 := O0.keep K163 all0
      have KC163 : Keep h0 T163.heap [] := KC0.trans K163 all0
      show Go p.tables e below Pf (T163.setTop (mkF m 47 #[vr va, vi (0 : Int32), vi (2 : Int32), vi (1 : Int32)] [(.ref r_163)]))
      refine Go.by' (fun t k => (XS.goto X163.here hx rfl (pc0 := 47) (pc' := 51) rfl (hb hby d12_47) (by decide) (by decide) k)) ?_
      show Go p.tables e below Pf (T163.setTop (mkF m 51 #[vr va, vi (0 : Int32), vi (2 : Int32), vi (1 : Int32)] [(.ref r_163)]))
      rw [hPf]
      exact Go.retAS X163 hx hEL Sb163 rfl hh hret hlk rfl rfl (hb hby d12_51) (by decide) (by decide) ⟨r_163, rb_163, kb_163, zr_163, vsr_163, rfl, N163, KC163, f163_1, f163_2, f163_3, f163_4, (by rw [r163_0]; decide)⟩
    · exact absurd hch (fun z => z.elim nF157_0 nL159_2)
  · subst hz157
    show Go p.tables e below Pf (T157.setTop (mkF m 4 #[vr va, .unset, .unset, .unset] [(.int (1 : Int32))]))
    refine Go.by' (fun t k => (XS.istoreN X157.here hx rfl (hb hby d12_4) rfl (l' := #[vr va, vi (1 : Int32), .unset, .unset]) rfl (XS.iloadN X157.here hx rfl (hb hby d12_5) rfl (XS.aloadN X157.here hx rfl (hb hby d12_6) rfl rfl (own_alen X157 hx hZ e157 VA rfl rfl (hb hby d12_7) (XS.icmpYes X157.here hx rfl (pc0 := 8) (pc' := 14) rfl (hb hby d12_8) rfl (feq (by decide)).2 (by decide) (by decide) (XS.aloadN X157.here hx rfl (hb hby d12_14) rfl rfl k))))))) ?_
    obtain ⟨_, _, ⟨T165, L165, k165, n165⟩, -, X165, ⟨Lc165, hQ165, l165, y165, z165⟩, st165⟩ := Jvm.LawKit.callS X157 hx (y := own_y5) hown (mvT hZ hw79) (mvT hZ hw80) (mvT hZ hw58) (mvT hZ hw81) (by decide) (backOf (W := 0) (rmLW_3 l Z a0 hw [] vcs wI wA cA G va ka x0 x1 x2 h0 n0 O0 VA) hZ hw81 hw58 (by decide) (by decide)) (g := (mkF m 15 #[vr va, vi (1 : Int32), .unset, .unset] [(.ref va)])) rfl (by rw [hml]; rfl) (argsL := [(.ref va)]) (rest := []) (lenOf pd_7 rfl) rfl (Nat.le_of_eq rfl) (hb hby d12_15) (fun _ _ => ⟨rfl, e157, (by decide : 0 + 0 ≤ _), (by decide : 0 + 0 ≤ _)⟩)
    dsimp only [Pt.U, Pt.locs, Pt.cells, Pt.slots] at X165 l165 y165 z165 st165 hQ165
    subst l165 y165 z165
    obtain ⟨r_165, rfl, rfl, e165, r165_0⟩ := hQ165
    try replace X165 := own_nil X165
    refine Go.by' st165 ?_
    rcases r165_0 with ⟨hL165_2, hL165_1, hL165_0, hz165⟩ | ⟨hL165_2, hL165_1, nL165_0, hz165⟩ | ⟨hL165_2, nL165_1, hz165⟩ | ⟨nL165_2, hz165⟩
    · exact absurd hL165_1 nF157_1
    · exact absurd hL165_1 nF157_1
    · subst hz165
      show Go p.tables e below Pf (T165.setTop (mkF m 18 #[vr va, vi (1 : Int32), .unset, .unset] [(.int (2 : Int32))]))
      refine Go.by' (fun t k => (XS.istoreN X165.here hx rfl (hb hby d12_18) rfl (l' := #[vr va, vi (1 : Int32), vi (2 : Int32), .unset]) rfl (XS.iloadN X165.here hx rfl (hb hby d12_19) rfl (XS.ifYes X165.here hx rfl (pc0 := 20) (pc' := 29) rfl (hb hby d12_20) rfl ((if0 _ _).trans (tlt (by decide)).2.2.1) (by decide) (by decide) (XS.iconst X165.here hx rfl (hb hby d12_29) (XS.goto X165.here hx rfl (pc0 := 30) (pc' := 34) rfl (hb hby d12_30) (by decide) (by decide) (XS.istoreN X165.here hx rfl (hb hby d12_34) rfl (l' := #[vr va, vi (1 : Int32), vi (2 : Int32), vi (1 : Int32)]) rfl (XS.iloadN X165.here hx rfl (hb hby d12_35) rfl (XS.ifNo X165.here hx rfl (hb hby d12_36) rfl ((if0 _ _).trans (feq (by decide)).1) k))))))))) ?_
      show Go p.tables e below Pf (T165.setTop (mkF m 39 #[vr va, vi (1 : Int32), vi (2 : Int32), vi (1 : Int32)] []))
      refine Go.by' (fun t k => (XS.aloadN X165.here hx rfl (hb hby d12_39) rfl rfl (XS.iloadN X165.here hx rfl (hb hby d12_40) rfl (XS.iloadN X165.here hx rfl (hb hby d12_41) rfl (XS.iloadN X165.here hx rfl (hb hby d12_42) rfl (XS.isub X165.here hx rfl (hb hby d12_43) rfl k)))))) ?_
      obtain ⟨_, _, ⟨T166, L166, k166, n166⟩, -, X166, ⟨Lc166, hQ166, l166, y166, z166⟩, st166⟩ := Jvm.LawKit.callS X165 hx (y := own_y11) hown (mvT hZ hw138) (mvT hZ hw139) (mvT hZ hw58) (mvT hZ hw140) (by decide) (backOf (W := 0) (rmNS l Z a0 hw [] vcs wI wA cA G va ((1 : Int32)) ((1 : Int32)) ka ((3 : Int32)) ([(Value.int x0), (Value.int x1), (Value.int x2)]) h0 n0 O0 VA (by decide) (by decide)) hZ hw140 hw58 (by decide) (by decide)) (g := (mkF m 44 #[vr va, vi (1 : Int32), vi (2 : Int32), vi (1 : Int32)] [(.int (1 : Int32)), (.int (1 : Int32)), (.ref va)])) rfl (by rw [hml]; rfl) (argsL := [(.ref va), (.int (1 : Int32)), (.int (1 : Int32))]) (rest := []) (lenOf pd_10 rfl) rfl (Nat.le_of_eq rfl) (hb hby d12_44) (fun _ _ => ⟨rfl, e165, (by decide : 0 + 2 ≤ _), (by decide : 0 + 7 ≤ _)⟩)
      dsimp only [Pt.U, Pt.locs, Pt.cells, Pt.slots] at X166 l166 y166 z166 st166 hQ166
      subst l166 y166 z166
      obtain ⟨r_166, rb_166, kb_166, zr_166, vsr_166, rfl, N166q, K166, f166_0, f166_1, f166_2, f166_3, f166_4, f166_5, r166_0⟩ := hQ166
      have N166 := Fr.app N0 N166q
      obtain ⟨lc166, X166, N166⟩ := own_pack X166 N166
      refine Go.by' st166 ?_
      have Sf_r_166 : Safe Z consts_1 s.vm h0 r_166 := Safe.new f166_0
      have g_r_166 : n0 ≤ r_166 := Nat.le_trans (own_le O0) f166_0
      have sz_r_166 : h0.size ≤ r_166 := Nat.le_trans KC0.1 f166_0
      have Sf_rb_166 : Safe Z consts_1 s.vm h0 rb_166 := Safe.new f166_5
      have g_rb_166 : n0 ≤ rb_166 := Nat.le_trans (own_le O0) f166_5
      have sz_rb_166 : h0.size ≤ rb_166 := Nat.le_trans KC0.1 f166_5
      have Sb166 := Sb0.keep K166 sf0
      have O166 := O0.keep K166 all0
      have KC166 : Keep h0 T166.heap [] := KC0.trans K166 all0
      show Go p.tables e below Pf (T166.setTop (mkF m 47 #[vr va, vi (1 : Int32), vi (2 : Int32), vi (1 : Int32)] [(.ref r_166)]))
      refine Go.by' (fun t k => (XS.goto X166.here hx rfl (pc0 := 47) (pc' := 51) rfl (hb hby d12_47) (by decide) (by decide) k)) ?_
      show Go p.tables e below Pf (T166.setTop (mkF m 51 #[vr va, vi (1 : Int32), vi (2 : Int32), vi (1 : Int32)] [(.ref r_166)]))
      rw [hPf]
      exact Go.retAS X166 hx hEL Sb166 rfl hh hret hlk rfl rfl (hb hby d12_51) (by decide) (by decide) ⟨r_166, rb_166, kb_166, zr_166, vsr_166, rfl, N166, KC166, f166_1, f166_2, f166_3, f166_4, (by rw [r166_0]; decide)⟩
    · subst hz165
      show Go p.tables e below Pf (T165.setTop (mkF m 18 #[vr va, vi (1 : Int32), .unset, .unset] [(.int (3 : Int32))]))
      refine Go.by' (fun t k => (XS.istoreN X165.here hx rfl (hb hby d12_18) rfl (l' := #[vr va, vi (1 : Int32), vi (3 : Int32), .unset]) rfl (XS.iloadN X165.here hx rfl (hb hby d12_19) rfl (XS.ifYes X165.here hx rfl (pc0 := 20) (pc' := 29) rfl (hb hby d12_20) rfl ((if0 _ _).trans (tlt (by decide)).2.2.1) (by decide) (by decide) (XS.iconst X165.here hx rfl (hb hby d12_29) (XS.goto X165.here hx rfl (pc0 := 30) (pc' := 34) rfl (hb hby d12_30) (by decide) (by decide) (XS.istoreN X165.here hx rfl (hb hby d12_34) rfl (l' := #[vr va, vi (1 : Int32), vi (3 : Int32), vi (1 : Int32)]) rfl (XS.iloadN X165.here hx rfl (hb hby d12_35) rfl (XS.ifNo X165.here hx rfl (hb hby d12_36) rfl ((if0 _ _).trans (feq (by decide)).1) k))))))))) ?_
      show Go p.tables e below Pf (T165.setTop (mkF m 39 #[vr va, vi (1 : Int32), vi (3 : Int32), vi (1 : Int32)] []))
      refine Go.by' (fun t k => (XS.aloadN X165.here hx rfl (hb hby d12_39) rfl rfl (XS.iloadN X165.here hx rfl (hb hby d12_40) rfl (XS.iloadN X165.here hx rfl (hb hby d12_41) rfl (XS.iloadN X165.here hx rfl (hb hby d12_42) rfl (XS.isub X165.here hx rfl (hb hby d12_43) rfl k)))))) ?_
      obtain ⟨_, _, ⟨T167, L167, k167, n167⟩, -, X167, ⟨Lc167, hQ167, l167, y167, z167⟩, st167⟩ := Jvm.LawKit.callS X165 hx (y := own_y11) hown (mvT hZ hw138) (mvT hZ hw139) (mvT hZ hw58) (mvT hZ hw140) (by decide) (backOf (W := 0) (rmNS l Z a0 hw [] vcs wI wA cA G va ((1 : Int32)) ((2 : Int32)) ka ((3 : Int32)) ([(Value.int x0), (Value.int x1), (Value.int x2)]) h0 n0 O0 VA (by decide) (by decide)) hZ hw140 hw58 (by decide) (by decide)) (g := (mkF m 44 #[vr va, vi (1 : Int32), vi (3 : Int32), vi (1 : Int32)] [(.int (2 : Int32)), (.int (1 : Int32)), (.ref va)])) rfl (by rw [hml]; rfl) (argsL := [(.ref va), (.int (1 : Int32)), (.int (2 : Int32))]) (rest := []) (lenOf pd_10 rfl) rfl (Nat.le_of_eq rfl) (hb hby d12_44) (fun _ _ => ⟨rfl, e165, (by decide : 0 + 2 ≤ _), (by decide : 0 + 7 ≤ _)⟩)
      dsimp only [Pt.U, Pt.locs, Pt.cells, Pt.slots] at X167 l167 y167 z167 st167 hQ167
      subst l167 y167 z167
      obtain ⟨r_167, rb_167, kb_167, zr_167, vsr_167, rfl, N167q, K167, f167_0, f167_1, f167_2, f167_3, f167_4, f167_5, r167_0⟩ := hQ167
      have N167 := Fr.app N0 N167q
      obtain ⟨lc167, X167, N167⟩ := own_pack X167 N167
      refine Go.by' st167 ?_
      have Sf_r_167 : Safe Z consts_1 s.vm h0 r_167 := Safe.new f167_0
      have g_r_167 : n0 ≤ r_167 := Nat.le_trans (own_le O0) f167_0
      have sz_r_167 : h0.size ≤ r_167 := Nat.le_trans KC0.1 f167_0
      have Sf_rb_167 : Safe Z consts_1 s.vm h0 rb_167 := Safe.new f167_5
      have g_rb_167 : n0 ≤ rb_167 := Nat.le_trans (own_le O0) f167_5
      have sz_rb_167 : h0.size ≤ rb_167 := Nat.le_trans KC0.1 f167_5
      have Sb167 := Sb0.keep K167 sf0
      have O167 := O0.keep K167 all0
      have KC167 : Keep h0 T167.heap [] := KC0.trans K167 all0
      show Go p.tables e below Pf (T167.setTop (mkF m 47 #[vr va, vi (1 : Int32), vi (3 : Int32), vi (1 : Int32)] [(.ref r_167)]))
      refine Go.by' (fun t k => (XS.goto X167.here hx rfl (pc0 := 47) (pc' := 51) rfl (hb hby d12_47) (by decide) (by decide) k)) ?_
      show Go p.tables e below Pf (T167.setTop (mkF m 51 #[vr va, vi (1 : Int32), vi (3 : Int32), vi (1 : Int32)] [(.ref r_167)]))
      rw [hPf]
      exact Go.retAS X167 hx hEL Sb167 rfl hh hret hlk rfl rfl (hb hby d12_51) (by decide) (by decide) ⟨r_167, rb_167, kb_167, zr_167, vsr_167, rfl, N167, KC167, f167_1, f167_2, f167_3, f167_4, (by rw [r167_0]; decide)⟩
  · subst hz157
    show Go p.tables e below Pf (T157.setTop (mkF m 4 #[vr va, .unset, .unset, .unset] [(.int (2 : Int32))]))
    refine Go.by' (fun t k => (XS.istoreN X157.here hx rfl (hb hby d12_4) rfl (l' := #[vr va, vi (2 : Int32), .unset, .unset]) rfl (XS.iloadN X157.here hx rfl (hb hby d12_5) rfl (XS.aloadN X157.here hx rfl (hb hby d12_6) rfl rfl (own_alen X157 hx hZ e157 VA rfl rfl (hb hby d12_7) (XS.icmpYes X157.here hx rfl (pc0 := 8) (pc' := 14) rfl (hb hby d12_8) rfl (feq (by decide)).2 (by decide) (by decide) (XS.aloadN X157.here hx rfl (hb hby d12_14) rfl rfl k))))))) ?_
    obtain ⟨_, _, ⟨T169, L169, k169, n169⟩, -, X169, ⟨Lc169, hQ169, l169, y169, z169⟩, st169⟩ := Jvm.LawKit.callS X157 hx (y := own_y5) hown (mvT hZ hw79) (mvT hZ hw80) (mvT hZ hw58) (mvT hZ hw81) (by decide) (backOf (W := 0) (rmLW_3 l Z a0 hw [] vcs wI wA cA G va ka x0 x1 x2 h0 n0 O0 VA) hZ hw81 hw58 (by decide) (by decide)) (g := (mkF m 15 #[vr va, vi (2 : Int32), .unset, .unset] [(.ref va)])) rfl (by rw [hml]; rfl) (argsL := [(.ref va)]) (rest := []) (lenOf pd_7 rfl) rfl (Nat.le_of_eq rfl) (hb hby d12_15) (fun _ _ => ⟨rfl, e157, (by decide : 0 + 0 ≤ _), (by decide : 0 + 0 ≤ _)⟩)
    dsimp only [Pt.U, Pt.locs, Pt.cells, Pt.slots] at X169 l169 y169 z169 st169 hQ169
    subst l169 y169 z169
    obtain ⟨r_169, rfl, rfl, e169, r169_0⟩ := hQ169
    try replace X169 := own_nil X169
    refine Go.by' st169 ?_
    rcases r169_0 with ⟨hL169_2, hL169_1, hL169_0, hz169⟩ | ⟨hL169_2, hL169_1, nL169_0, hz169⟩ | ⟨hL169_2, nL169_1, hz169⟩ | ⟨nL169_2, hz169⟩
    · exact absurd hL169_2 nF157_2
    · exact absurd hL169_2 nF157_2
    · exact absurd hL169_2 nF157_2
    · subst hz169
      show Go p.tables e below Pf (T169.setTop (mkF m 18 #[vr va, vi (2 : Int32), .unset, .unset] [(.int (3 : Int32))]))
      refine Go.by' (fun t k => (XS.istoreN X169.here hx rfl (hb hby d12_18) rfl (l' := #[vr va, vi (2 : Int32), vi (3 : Int32), .unset]) rfl (XS.iloadN X169.here hx rfl (hb hby d12_19) rfl (XS.ifYes X169.here hx rfl (pc0 := 20) (pc' := 29) rfl (hb hby d12_20) rfl ((if0 _ _).trans (tlt (by decide)).2.2.1) (by decide) (by decide) (XS.iconst X169.here hx rfl (hb hby d12_29) (XS.goto X169.here hx rfl (pc0 := 30) (pc' := 34) rfl (hb hby d12_30) (by decide) (by decide) (XS.istoreN X169.here hx rfl (hb hby d12_34) rfl (l' := #[vr va, vi (2 : Int32), vi (3 : Int32), vi (1 : Int32)]) rfl (XS.iloadN X169.here hx rfl (hb hby d12_35) rfl (XS.ifNo X169.here hx rfl (hb hby d12_36) rfl ((if0 _ _).trans (feq (by decide)).1) k))))))))) ?_
      show Go p.tables e below Pf (T169.setTop (mkF m 39 #[vr va, vi (2 : Int32), vi (3 : Int32), vi (1 : Int32)] []))
      refine Go.by' (fun t k => (XS.aloadN X169.here hx rfl (hb hby d12_39) rfl rfl (XS.iloadN X169.here hx rfl (hb hby d12_40) rfl (XS.iloadN X169.here hx rfl (hb hby d12_41) rfl (XS.iloadN X169.here hx rfl (hb hby d12_42) rfl (XS.isub X169.here hx rfl (hb hby d12_43) rfl k)))))) ?_
      obtain ⟨_, _, ⟨T170, L170, k170, n170⟩, -, X170, ⟨Lc170, hQ170, l170, y170, z170⟩, st170⟩ := Jvm.LawKit.callS X169 hx (y := own_y11) hown (mvT hZ hw138) (mvT hZ hw139) (mvT hZ hw58) (mvT hZ hw140) (by decide) (backOf (W := 0) (rmNS l Z a0 hw [] vcs wI wA cA G va ((2 : Int32)) ((1 : Int32)) ka ((3 : Int32)) ([(Value.int x0), (Value.int x1), (Value.int x2)]) h0 n0 O0 VA (by decide) (by decide)) hZ hw140 hw58 (by decide) (by decide)) (g := (mkF m 44 #[vr va, vi (2 : Int32), vi (3 : Int32), vi (1 : Int32)] [(.int (1 : Int32)), (.int (2 : Int32)), (.ref va)])) rfl (by rw [hml]; rfl) (argsL := [(.ref va), (.int (2 : Int32)), (.int (1 : Int32))]) (rest := []) (lenOf pd_10 rfl) rfl (Nat.le_of_eq rfl) (hb hby d12_44) (fun _ _ => ⟨rfl, e169, (by decide : 0 + 2 ≤ _), (by decide : 0 + 7 ≤ _)⟩)
      dsimp only [Pt.U, Pt.locs, Pt.cells, Pt.slots] at X170 l170 y170 z170 st170 hQ170
      subst l170 y170 z170
      obtain ⟨r_170, rb_170, kb_170, zr_170, vsr_170, rfl, N170q, K170, f170_0, f170_1, f170_2, f170_3, f170_4, f170_5, r170_0⟩ := hQ170
      have N170 := Fr.app N0 N170q
      obtain ⟨lc170, X170, N170⟩ := own_pack X170 N170
      refine Go.by' st170 ?_
      have Sf_r_170 : Safe Z consts_1 s.vm h0 r_170 := Safe.new f170_0
      have g_r_170 : n0 ≤ r_170 := Nat.le_trans (own_le O0) f170_0
      have sz_r_170 : h0.size ≤ r_170 := Nat.le_trans KC0.1 f170_0
      have Sf_rb_170 : Safe Z consts_1 s.vm h0 rb_170 := Safe.new f170_5
      have g_rb_170 : n0 ≤ rb_170 := Nat.le_trans (own_le O0) f170_5
      have sz_rb_170 : h0.size ≤ rb_170 := Nat.le_trans KC0.1 f170_5
      have Sb170 := Sb0.keep K170 sf0
      have O170 := O0.keep K170 all0
      have KC170 : Keep h0 T170.heap [] := KC0.trans K170 all0
      show Go p.tables e below Pf (T170.setTop (mkF m 47 #[vr va, vi (2 : Int32), vi (3 : Int32), vi (1 : Int32)] [(.ref r_170)]))
      refine Go.by' (fun t k => (XS.goto X170.here hx rfl (pc0 := 47) (pc' := 51) rfl (hb hby d12_47) (by decide) (by decide) k)) ?_
      show Go p.tables e below Pf (T170.setTop (mkF m 51 #[vr va, vi (2 : Int32), vi (3 : Int32), vi (1 : Int32)] [(.ref r_170)]))
      rw [hPf]
      exact Go.retAS X170 hx hEL Sb170 rfl hh hret hlk rfl rfl (hb hby d12_51) (by decide) (by decide) ⟨r_170, rb_170, kb_170, zr_170, vsr_170, rfl, N170, KC170, f170_1, f170_2, f170_3, f170_4, (by rw [r170_0]; decide)⟩
  · subst hz157
    show Go p.tables e below Pf (T157.setTop (mkF m 4 #[vr va, .unset, .unset, .unset] [(.int (3 : Int32))]))
    refine Go.by' (fun t k => (XS.istoreN X157.here hx rfl (hb hby d12_4) rfl (l' := #[vr va, vi (3 : Int32), .unset, .unset]) rfl (XS.iloadN X157.here hx rfl (hb hby d12_5) rfl (XS.aloadN X157.here hx rfl (hb hby d12_6) rfl rfl (own_alen X157 hx hZ e157 VA rfl rfl (hb hby d12_7) (XS.icmpNo X157.here hx rfl (hb hby d12_8) rfl (teq (by decide)).2 k)))))) ?_
    obtain ⟨T172, h172, a172, bb172, kb172, X172, e172, E172, Sb172, A172, Ex172, Fc172, Fv172, Vb172, Ne172, st172⟩ := own_ldc X157 hx Sb0 hw167 hSA e157 hEL (List.mem_of_getElem? (i := 3) rfl) (vs := []) (z := (0 : Int32)) (by decide +kernel) (by decide) rfl (g := (mkF m 11 #[vr va, vi (3 : Int32), .unset, .unset] [])) rfl (hb hby d12_11) (n := 0) (by decide +kernel) (by decide) (by decide) (by decide)
    refine Go.by' st172 ?_
    have O172 := O0.ext E172
    have KC172 : Keep h0 h172 [] := KC0.ext E172
    have hZ172 := Sb172.hZ
    have hO172 := Sb172.hO
    show Go p.tables e below Pf (T172.setTop (mkF m 13 #[vr va, vi (3 : Int32), .unset, .unset] [(.ref a172)]))
    rw [hPf]
    exact Go.retAS X172 hx hEL Sb172 e172 hh hret hlk rfl rfl (hb hby d12_13) (by decide) (by decide) ⟨a172, bb172, kb172, (0 : Int32), [], rfl, N0, (by rw [e172]; exact KC172), (by rw [e172]; exact Ex172), (by rw [e172]; exact Fv172), (by rw [e172]; exact Fc172), (by rw [e172]; exact Vb172), (by decide)⟩
theorem ef_rmSTC_3 (m : MethodId) {sa : Addr} : entryFrame m #[(.ref sa)] 2 = mkF m 0 #[vr sa, .unset] [] := by first | (simp [entryFrame, mkF, argsToLocals, Value.category]; done) | rfl
def QrmSTC_3 (Z : State) (vcs : Int32) (wI : Addr) (wA : Addr) (cA : Cell) (sa : Addr) (va : Addr) (ka : ClassId) (x0 : Int32) (x1 : Int32) (x2 : Int32) (h0 : Heap) (n0 : Nat) (v : Option Value) (h : Heap) (vm : Vm) (L : List Loc) : Prop := ∃ (r : Addr) (rb : Addr) (kb : ClassId) (zr : Int32) (vsr : (List Value)), (v = some (.ref r)) ∧ (Fr n0 L) ∧ (Keep h0 h []) ∧ (Exa Z h r "java/lang/String") ∧ (Fld Z h r "java/lang/String" "value" "[B" (.ref rb)) ∧ (Fld Z h r "java/lang/String" "coder" "B" (.int (0 : Int32))) ∧ (Arv Z h rb kb .byte zr vsr (.int (0 : Int32))) ∧ (¬ (zr = (3 : Int32)))
theorem rmSTC_3 (l : Launch) (Z : State) (a0 : Array Value) (hw : ∀ d ∈ tables_1, d.before a0 Z = true) (ws : List Jvm.Cond) (vcs : Int32) (wI : Addr) (wA : Addr) (cA : Cell) (G : Gh Z vcs wI wA cA) (sa : Addr) (va : Addr) (ka : ClassId) (x0 : Int32) (x1 : Int32) (x2 : Int32) (h0 : Heap) (n0 : Nat) (O0 : Old Z n0 h0) (EA : Exa Z h0 sa "java/lang/String") (FA : Fld Z h0 sa "java/lang/String" "value" "[B" (.ref va)) (CA : Fld Z h0 sa "java/lang/String" "coder" "B" (.int (0 : Int32))) (VA : Arv Z h0 va ka .byte (3 : Int32) [(.int x0), (.int x1), (.int x2)] (.int (0 : Int32))) (hch : Ws (x0 &&& (255 : Int32)) ∨ Ws (x2 &&& (255 : Int32))) :
    MetFree l own_y14 (head1 (Jvm.Cond.code own_y14 jdk_42_method_114_code 2 (some (.object "java/lang/String")) :: ws) ({ frames := 5, cells := 2, slots := 7, locals := 101 } : Room)) (fun aa' UU' => aa' = #[(.ref sa)] ∧ Z.Warmed39 UU'.vm ∧ UU'.heap = h0 ∧ CHv Z consts_1 UU'.vm h0 ∧ ∀ x ∈ ([] : List Addr), Safe Z consts_1 UU'.vm h0 x) (fun _ _ _ _ _ => True) (fun _ UU' oo' VV' => ∃ v' L', oo' = .returned v' ∧ QrmSTC_3 Z vcs wI wA cA sa va ka x0 x1 x2 h0 n0 v' VV'.heap VV'.vm L' ∧ CHr Z consts_1 UU'.vm UU'.heap VV'.vm VV'.heap ∧ ReturnedEndW UU' oo' VV' L' ({ frames := 5, cells := 2, slots := 7, locals := 101 } : Room).cells ({ frames := 5, cells := 2, slots := 7, locals := 101 } : Room).slots) := by
  refine MetFree.of_bodySF (plainFor_of_name pn_10) hisR ?_
  intro p e s m args below meth c s₁ Bd hml0 hP hK
  obtain ⟨rfl, hZ, hh, hCH, hSf⟩ := hP
  have hml : c.maxLocals = 2 := hml0
  obtain ⟨hx, hby, hlk, hown, hnm, hret, X0, e0⟩ := own_hd Bd hh
  replace X0 : Stand p l e ({ frames := 5, cells := 2, slots := 7, locals := 101 } : Room) (s.setVm s.vm) m _ below meth c s₁ [] 0 0 := X0
  have N0 := Fr.nil n0
  have KC0 : Keep h0 h0 [] := Keep.refl _ _
  have Sb0 := Sb.start hZ hown hCH
  have hEL := own_EW hw
  have hSA := own_SA hw
  refine Go.bodyS ?_
  obtain ⟨Pf, hPf⟩ : ∃ P, P = FinS Z consts_1 s below ({ frames := 5, cells := 2, slots := 7, locals := 101 } : Room).cells ({ frames := 5, cells := 2, slots := 7, locals := 101 } : Room).slots (QrmSTC_3 Z vcs wI wA cA sa va ka x0 x1 x2 h0 n0) := ⟨_, rfl⟩
  rw [← hPf]
  refine Go.cast (ef_rmSTC_3 m) ?_
  have hw3 := own_w hw 3 rfl
  have hw20 := own_w hw 20 rfl
  have hw51 := own_w hw 51 rfl
  have hw52 := own_w hw 52 rfl
  have hw53 := own_w hw 53 rfl
  have hw54 := own_w hw 54 rfl
  have hw55 := own_w hw 55 rfl
  have hw56 := own_w hw 56 rfl
  have hw57 := own_w hw 57 rfl
  have hw58 := own_w hw 58 rfl
  have hw59 := own_w hw 59 rfl
  show Go p.tables e below Pf (s₁.setTop (mkF m 0 #[vr sa, .unset] []))
  refine Go.by' (fun t k => (XS.aloadN X0.here hx rfl (hb hby d10_0) rfl rfl k)) ?_
  obtain ⟨cq173, kq173, q173a, q173b, q173c⟩ := isOf hZ e0 EA
  obtain ⟨_, _, ⟨T173, L173, k173, n173⟩, -, X173, ⟨Lc173, hQ173, l173, y173, z173⟩, st173⟩ := X0.virtualBack hx (y := own_y12) (z := own_y12) hown (mvT hZ hw51) (mvT hZ hw52) (notFace_of_selects (args := #[]) (mvT hZ hw54)) (mvT hZ hw54) (mvT hZ hw53) (by decide) (backOf (W := 0) (rmSL l Z a0 hw [] vcs wI wA cA G sa h0 n0 O0 CA) hZ hw55 hw3 (by decide) (by decide)) q173a q173c (g := (mkF m 1 #[vr sa, .unset] [(.ref sa)])) rfl (by rw [hml]; rfl) (Steps.refl _) (argsL := []) (rest := []) (lenOf pd_8 rfl) rfl (Nat.le_of_eq rfl) (hb hby d10_1) (fun _ _ => ⟨rfl, e0, (by decide : 0 + 0 ≤ _), (by decide : 0 + 0 ≤ _)⟩)
  dsimp only [Pt.U, Pt.locs, Pt.cells, Pt.slots] at X173 l173 y173 z173 st173 hQ173
  subst l173 y173 z173
  obtain ⟨rfl, rfl, e173⟩ := hQ173
  try replace X173 := own_nil X173
  refine Go.by' (fun t k => st173.trans k) ?_
  show Go p.tables e below Pf (T173.setTop (mkF m 4 #[vr sa, .unset] [(.int (1 : Int32))]))
  refine Go.by' (fun t k => (XS.ifNo X173.here hx rfl (hb hby d10_4) rfl ((if0 _ _).trans (feq (by decide)).1) (XS.aloadN X173.here hx rfl (hb hby d10_7) rfl rfl k))) ?_
  obtain ⟨T174, X174, e174, st174⟩ := getF X173 hx hZ hown (host := "") (Or.inl hw20) Via.refl e173 FA (g := (mkF m 8 #[vr sa, .unset] [(.ref sa)])) rfl rfl (hb hby d10_8)
  refine Go.by' st174 ?_
  obtain ⟨_, _, ⟨T175, L175, k175, n175⟩, -, X175, Si175, Gr175, ⟨Lc175, hQ175, l175, y175, z175, A175⟩, st175⟩ := callSS X174 hx (y := own_y13) hown (mvT hZ hw56) (mvT hZ hw57) (mvT hZ hw58) (mvT hZ hw59) (by decide) (own_backS (W := 0) (rmLSC_3 l Z a0 hw [] vcs wI wA cA G va ka x0 x1 x2 h0 n0 O0 VA hch) Sb0 hw59 hw58 (by decide) (by decide) hEL all0) (g := (mkF m 11 #[vr sa, .unset] [(.ref va)])) rfl (by rw [hml]; rfl) (argsL := [(.ref va)]) (rest := []) (lenOf pd_9 rfl) rfl (Nat.le_of_eq rfl) (hb hby d10_11) (fun _ _ => ⟨rfl, e174, (by decide : 0 + 2 ≤ _), (by decide : 0 + 7 ≤ _)⟩)
  dsimp only [Pt.U, Pt.locs, Pt.cells, Pt.slots] at X175 l175 y175 z175 st175 hQ175 Si175 Gr175 A175
  subst l175 y175 z175
  obtain ⟨r_175, rb_175, kb_175, zr_175, vsr_175, rfl, N175q, K175, f175_0, f175_1, f175_2, f175_3, r175_0⟩ := hQ175
  have N175 := Fr.app N0 N175q
  obtain ⟨lc175, X175, N175⟩ := own_pack X175 N175
  replace X175 := own_reb X175
  have Sb175 := Sb0.called Si175 (by rw [← e174]; exact Gr175) A175
  have hZ175 := Sb175.hZ
  have hO175 := Sb175.hO
  refine Go.by' (fun t k => st175.trans k) ?_
  have O175 := O0.keep K175 all0
  have KC175 : Keep h0 T175.heap [] := KC0.trans K175 all0
  show Go p.tables e below Pf (T175.setTop (mkF m 14 #[vr sa, .unset] [(.ref r_175)]))
  refine Go.by' (fun t k => (XS.goto X175.here hx rfl (pc0 := 14) (pc' := 24) rfl (hb hby d10_14) (by decide) (by decide) (XS.astoreN X175.here hx rfl (hb hby d10_24) rfl rfl (l' := #[vr sa, vr r_175]) rfl (XS.aloadN X175.here hx rfl (hb hby d10_25) rfl rfl (XS.ifnonnullYes X175.here hx rfl (pc0 := 26) (pc' := 33) rfl (hb hby d10_26) rfl (by decide) (by decide) (XS.aloadN X175.here hx rfl (hb hby d10_33) rfl rfl k)))))) ?_
  show Go p.tables e below Pf (T175.setTop (mkF m 34 #[vr sa, vr r_175] [(.ref r_175)]))
  rw [hPf]
  exact Go.retAS X175 hx hEL Sb175 rfl hh hret hlk rfl rfl (hb hby d10_34) (by decide) (by decide) ⟨r_175, rb_175, kb_175, zr_175, vsr_175, rfl, N175, KC175, f175_0, f175_1, f175_2, f175_3, r175_0⟩
theorem d18_0 : decode jdk_42_method_66_code 0 = .ok (.aload_n 0, 1) := by decide +kernel
theorem d18_1 : decode jdk_42_method_66_code 1 = .ok (.aload_n 1, 1) := by decide +kernel
theorem d18_2 : decode jdk_42_method_66_code 2 = .ok (.if_acmp .ne 5, 3) := by decide +kernel
theorem d18_5 : decode jdk_42_method_66_code 5 = .ok (.iconst 1, 1) := by decide +kernel
theorem d18_6 : decode jdk_42_method_66_code 6 = .ok (.ireturn, 1) := by decide +kernel
theorem pn_18 : plainName "java/lang/String" = true := by first | (simp [plainName, overriddenIn]; done) | decide +kernel
theorem ef_rmEI (m : MethodId) {sa : Addr} : entryFrame m #[(.ref sa), (.ref sa)] 3 = mkF m 0 #[vr sa, vr sa, .unset] [] := by first | (simp [entryFrame, mkF, argsToLocals, Value.category]; done) | rfl
abbrev own_y15 : MethodName := ⟨"java/lang/String", "equals", "(Ljava/lang/Object;)Z"⟩
def QrmEI (Z : State) (vcs : Int32) (wI : Addr) (wA : Addr) (cA : Cell) (sa : Addr) (h0 : Heap) (n0 : Nat) (v : Option Value) (h : Heap) (L : List Loc) : Prop := (v = some (.int (1 : Int32))) ∧ (L = []) ∧ (h = h0)
theorem rmEI (l : Launch) (Z : State) (a0 : Array Value) (hw : ∀ d ∈ tables_1, d.before a0 Z = true) (ws : List Jvm.Cond) (vcs : Int32) (wI : Addr) (wA : Addr) (cA : Cell) (G : Gh Z vcs wI wA cA) (sa : Addr) (h0 : Heap) (n0 : Nat) (O0 : Old Z n0 h0) :
    MetFree l own_y15 (head1 (Jvm.Cond.code own_y15 jdk_42_method_66_code 3 (some .boolean) :: ws) ({ frames := 0, cells := 0, slots := 0, locals := 0 } : Room)) (fun aa' UU' => aa' = #[(.ref sa), (.ref sa)] ∧ Z.Warmed39 UU'.vm ∧ UU'.heap = h0) (fun _ _ _ _ _ => True) (fun _ UU' oo' VV' => ∃ v' L', oo' = .returned v' ∧ QrmEI Z vcs wI wA cA sa h0 n0 v' VV'.heap L' ∧ FrameEnd UU' oo' VV' L' ({ frames := 0, cells := 0, slots := 0, locals := 0 } : Room).cells ({ frames := 0, cells := 0, slots := 0, locals := 0 } : Room).slots) := by
  refine MetFree.of_bodySF (plainFor_of_name pn_18) hisR ?_
  intro p e s m args below meth c s₁ Bd hml0 hP hK
  obtain ⟨rfl, hZ, hh⟩ := hP
  have hml : c.maxLocals = 3 := hml0
  obtain ⟨hx, hby, hlk, hown, hnm, hret, X0, e0⟩ := own_hd Bd hh
  have N0 := Fr.nil n0
  refine Go.body ?_
  obtain ⟨Pf, hPf⟩ : ∃ P, P = Fin' s below ({ frames := 0, cells := 0, slots := 0, locals := 0 } : Room).cells ({ frames := 0, cells := 0, slots := 0, locals := 0 } : Room).slots (QrmEI Z vcs wI wA cA sa h0 n0) := ⟨_, rfl⟩
  rw [← hPf]
  refine Go.cast (ef_rmEI m) ?_
  show Go p.tables e below Pf (s₁.setTop (mkF m 0 #[vr sa, vr sa, .unset] []))
  refine Go.by' (fun t k => (XS.aloadN X0.here hx rfl (hb hby d18_0) rfl rfl (XS.aloadN X0.here hx rfl (hb hby d18_1) rfl rfl k))) ?_
  refine Go.by' (fun t k => Jvm.RoadKit.acmp (g := (mkF m 2 #[vr sa, vr sa, .unset] [(.ref sa), (.ref sa)])) X0 hx rfl rfl rfl (pc0 := 2) (pc' := 5) (same := true) rfl (hb hby d18_2) rfl (decide_eq_true rfl) (by decide) (by decide) k) ?_
  show Go p.tables e below Pf (s₁.setTop (mkF m 5 #[vr sa, vr sa, .unset] []))
  refine Go.by' (fun t k => (XS.iconst X0.here hx rfl (hb hby d18_5) k)) ?_
  show Go p.tables e below Pf (s₁.setTop (mkF m 6 #[vr sa, vr sa, .unset] [(.int (1 : Int32))]))
  rw [hPf]
  exact Go.retI' X0 hx hret hlk (by simp) rfl (hb hby d18_6) (by decide) (by decide) ⟨rfl, rfl, e0⟩
theorem d35_0 : decode jdk_43_method_13_code 0 = .ok (.aload_n 0, 1) := by decide +kernel
theorem d35_1 : decode jdk_43_method_13_code 1 = .ok (.arraylength, 1) := by decide +kernel
theorem d35_2 : decode jdk_43_method_13_code 2 = .ok (.aload_n 1, 1) := by decide +kernel
theorem d35_3 : decode jdk_43_method_13_code 3 = .ok (.arraylength, 1) := by decide +kernel
theorem d35_4 : decode jdk_43_method_13_code 4 = .ok (.if_icmp .ne 30, 3) := by decide +kernel
theorem d35_34 : decode jdk_43_method_13_code 34 = .ok (.iconst 0, 1) := by decide +kernel
theorem d35_35 : decode jdk_43_method_13_code 35 = .ok (.ireturn, 1) := by decide +kernel
theorem pn_35 : plainName "java/lang/StringLatin1" = true := by first | (simp [plainName, overriddenIn]; done) | decide +kernel
theorem ef_rmLE (m : MethodId) {va : Addr} {vb : Addr} : entryFrame m #[(.ref va), (.ref vb)] 3 = mkF m 0 #[vr va, vr vb, .unset] [] := by first | (simp [entryFrame, mkF, argsToLocals, Value.category]; done) | rfl
abbrev own_y16 : MethodName := ⟨"java/lang/StringLatin1", "equals", "([B[B)Z"⟩
def QrmLE (Z : State) (vcs : Int32) (wI : Addr) (wA : Addr) (cA : Cell) (va : Addr) (vb : Addr) (ka : ClassId) (kb : ClassId) (za : Int32) (zb : Int32) (vsa : (List Value)) (vsb : (List Value)) (h0 : Heap) (n0 : Nat) (v : Option Value) (h : Heap) (L : List Loc) : Prop := (v = some (.int (0 : Int32))) ∧ (L = []) ∧ (h = h0)
theorem rmLE (l : Launch) (Z : State) (a0 : Array Value) (hw : ∀ d ∈ tables_1, d.before a0 Z = true) (ws : List Jvm.Cond) (vcs : Int32) (wI : Addr) (wA : Addr) (cA : Cell) (G : Gh Z vcs wI wA cA) (va : Addr) (vb : Addr) (ka : ClassId) (kb : ClassId) (za : Int32) (zb : Int32) (vsa : (List Value)) (vsb : (List Value)) (h0 : Heap) (n0 : Nat) (O0 : Old Z n0 h0) (VA : Arv Z h0 va ka .byte za vsa (.int (0 : Int32))) (VB : Arv Z h0 vb kb .byte zb vsb (.int (0 : Int32))) (hz : ¬ (za = zb)) :
    MetFree l own_y16 (head1 (Jvm.Cond.code own_y16 jdk_43_method_13_code 3 (some .boolean) :: ws) ({ frames := 0, cells := 0, slots := 0, locals := 0 } : Room)) (fun aa' UU' => aa' = #[(.ref va), (.ref vb)] ∧ Z.Warmed39 UU'.vm ∧ UU'.heap = h0) (fun _ _ _ _ _ => True) (fun _ UU' oo' VV' => ∃ v' L', oo' = .returned v' ∧ QrmLE Z vcs wI wA cA va vb ka kb za zb vsa vsb h0 n0 v' VV'.heap L' ∧ FrameEnd UU' oo' VV' L' ({ frames := 0, cells := 0, slots := 0, locals := 0 } : Room).cells ({ frames := 0, cells := 0, slots := 0, locals := 0 } : Room).slots) := by
  refine MetFree.of_bodySF (plainFor_of_name pn_35) hisR ?_
  intro p e s m args below meth c s₁ Bd hml0 hP hK
  obtain ⟨rfl, hZ, hh⟩ := hP
  have hml : c.maxLocals = 3 := hml0
  obtain ⟨hx, hby, hlk, hown, hnm, hret, X0, e0⟩ := own_hd Bd hh
  have N0 := Fr.nil n0
  refine Go.body ?_
  obtain ⟨Pf, hPf⟩ : ∃ P, P = Fin' s below ({ frames := 0, cells := 0, slots := 0, locals := 0 } : Room).cells ({ frames := 0, cells := 0, slots := 0, locals := 0 } : Room).slots (QrmLE Z vcs wI wA cA va vb ka kb za zb vsa vsb h0 n0) := ⟨_, rfl⟩
  rw [← hPf]
  refine Go.cast (ef_rmLE m) ?_
  show Go p.tables e below Pf (s₁.setTop (mkF m 0 #[vr va, vr vb, .unset] []))
  refine Go.by' (fun t k => (XS.aloadN X0.here hx rfl (hb hby d35_0) rfl rfl (own_alen X0 hx hZ e0 VA rfl rfl (hb hby d35_1) (XS.aloadN X0.here hx rfl (hb hby d35_2) rfl rfl (own_alen X0 hx hZ e0 VB rfl rfl (hb hby d35_3) (XS.icmpYes X0.here hx rfl (pc0 := 4) (pc' := 34) rfl (hb hby d35_4) rfl (feq hz).2 (by decide) (by decide) (XS.iconst X0.here hx rfl (hb hby d35_34) k))))))) ?_
  show Go p.tables e below Pf (s₁.setTop (mkF m 35 #[vr va, vr vb, .unset] [(.int (0 : Int32))]))
  rw [hPf]
  exact Go.retI' X0 hx hret hlk (by simp) rfl (hb hby d35_35) (by decide) (by decide) ⟨rfl, rfl, e0⟩
theorem d18_7 : decode jdk_42_method_66_code 7 = .ok (.aload_n 1, 1) := by decide +kernel
theorem d18_8 : decode jdk_42_method_66_code 8 = .ok (.instanceof 10, 3) := by decide +kernel
theorem d18_11 : decode jdk_42_method_66_code 11 = .ok (.ifCond .eq 43, 3) := by decide +kernel
theorem d18_14 : decode jdk_42_method_66_code 14 = .ok (.aload_n 1, 1) := by decide +kernel
theorem d18_15 : decode jdk_42_method_66_code 15 = .ok (.checkcast 10, 3) := by decide +kernel
theorem d18_18 : decode jdk_42_method_66_code 18 = .ok (.astore_n 2, 1) := by decide +kernel
theorem d18_19 : decode jdk_42_method_66_code 19 = .ok (.getstatic 38, 3) := by decide +kernel
theorem d18_22 : decode jdk_42_method_66_code 22 = .ok (.ifCond .eq 14, 3) := by decide +kernel
theorem d18_25 : decode jdk_42_method_66_code 25 = .ok (.aload_n 0, 1) := by decide +kernel
theorem d18_26 : decode jdk_42_method_66_code 26 = .ok (.getfield 15, 3) := by decide +kernel
theorem d18_29 : decode jdk_42_method_66_code 29 = .ok (.aload_n 2, 1) := by decide +kernel
theorem d18_30 : decode jdk_42_method_66_code 30 = .ok (.getfield 15, 3) := by decide +kernel
theorem d18_33 : decode jdk_42_method_66_code 33 = .ok (.if_icmp .ne 21, 3) := by decide +kernel
theorem d18_36 : decode jdk_42_method_66_code 36 = .ok (.aload_n 0, 1) := by decide +kernel
theorem d18_37 : decode jdk_42_method_66_code 37 = .ok (.getfield 9, 3) := by decide +kernel
theorem d18_40 : decode jdk_42_method_66_code 40 = .ok (.aload_n 2, 1) := by decide +kernel
theorem d18_41 : decode jdk_42_method_66_code 41 = .ok (.getfield 9, 3) := by decide +kernel
theorem d18_44 : decode jdk_42_method_66_code 44 = .ok (.invokestatic 541, 3) := by decide +kernel
theorem pd_11 : parseMethodDescriptor "([B[B)Z" = some ⟨[(.array .byte), (.array .byte)], some .boolean⟩ := by decide +kernel
theorem d18_47 : decode jdk_42_method_66_code 47 = .ok (.ifCond .eq 7, 3) := by decide +kernel
theorem d18_54 : decode jdk_42_method_66_code 54 = .ok (.iconst 0, 1) := by decide +kernel
theorem d18_55 : decode jdk_42_method_66_code 55 = .ok (.ireturn, 1) := by decide +kernel
theorem ef_rmED (m : MethodId) {sa : Addr} {sb : Addr} : entryFrame m #[(.ref sa), (.ref sb)] 3 = mkF m 0 #[vr sa, vr sb, .unset] [] := by first | (simp [entryFrame, mkF, argsToLocals, Value.category]; done) | rfl
def QrmED (Z : State) (vcs : Int32) (wI : Addr) (wA : Addr) (cA : Cell) (sa : Addr) (sb : Addr) (va : Addr) (vb : Addr) (ka : ClassId) (kb : ClassId) (za : Int32) (zb : Int32) (vsa : (List Value)) (vsb : (List Value)) (h0 : Heap) (n0 : Nat) (v : Option Value) (h : Heap) (L : List Loc) : Prop := (v = some (.int (0 : Int32))) ∧ (L = []) ∧ (h = h0)
theorem rmED (l : Launch) (Z : State) (a0 : Array Value) (hw : ∀ d ∈ tables_1, d.before a0 Z = true) (ws : List Jvm.Cond) (vcs : Int32) (wI : Addr) (wA : Addr) (cA : Cell) (G : Gh Z vcs wI wA cA) (sa : Addr) (sb : Addr) (va : Addr) (vb : Addr) (ka : ClassId) (kb : ClassId) (za : Int32) (zb : Int32) (vsa : (List Value)) (vsb : (List Value)) (h0 : Heap) (n0 : Nat) (O0 : Old Z n0 h0) (EA : Exa Z h0 sa "java/lang/String") (EB : Exa Z h0 sb "java/lang/String") (FA : Fld Z h0 sa "java/lang/String" "value" "[B" (.ref va)) (FB : Fld Z h0 sb "java/lang/String" "value" "[B" (.ref vb)) (CA : Fld Z h0 sa "java/lang/String" "coder" "B" (.int (0 : Int32))) (CB : Fld Z h0 sb "java/lang/String" "coder" "B" (.int (0 : Int32))) (hne : sa ≠ sb) (VA : Arv Z h0 va ka .byte za vsa (.int (0 : Int32))) (VB : Arv Z h0 vb kb .byte zb vsb (.int (0 : Int32))) (hz : ¬ (za = zb)) :
    MetFree l own_y15 (head1 (Jvm.Cond.code own_y15 jdk_42_method_66_code 3 (some .boolean) :: ws) ({ frames := 1, cells := 0, slots := 0, locals := 14 } : Room)) (fun aa' UU' => aa' = #[(.ref sa), (.ref sb)] ∧ Z.Warmed39 UU'.vm ∧ UU'.heap = h0) (fun _ _ _ _ _ => True) (fun _ UU' oo' VV' => ∃ v' L', oo' = .returned v' ∧ QrmED Z vcs wI wA cA sa sb va vb ka kb za zb vsa vsb h0 n0 v' VV'.heap L' ∧ FrameEnd UU' oo' VV' L' ({ frames := 1, cells := 0, slots := 0, locals := 14 } : Room).cells ({ frames := 1, cells := 0, slots := 0, locals := 14 } : Room).slots) := by
  refine MetFree.of_bodySF (plainFor_of_name pn_18) hisR ?_
  intro p e s m args below meth c s₁ Bd hml0 hP hK
  obtain ⟨rfl, hZ, hh⟩ := hP
  have hml : c.maxLocals = 3 := hml0
  obtain ⟨hx, hby, hlk, hown, hnm, hret, X0, e0⟩ := own_hd Bd hh
  have N0 := Fr.nil n0
  refine Go.body ?_
  obtain ⟨Pf, hPf⟩ : ∃ P, P = Fin' s below ({ frames := 1, cells := 0, slots := 0, locals := 14 } : Room).cells ({ frames := 1, cells := 0, slots := 0, locals := 14 } : Room).slots (QrmED Z vcs wI wA cA sa sb va vb ka kb za zb vsa vsb h0 n0) := ⟨_, rfl⟩
  rw [← hPf]
  refine Go.cast (ef_rmED m) ?_
  have hw20 := own_w hw 20 rfl
  have hw21 := own_w hw 21 rfl
  have hw31 := own_w hw 31 rfl
  have hw58 := own_w hw 58 rfl
  have hw163 := own_w hw 163 rfl
  have hw164 := own_w hw 164 rfl
  have hw165 := own_w hw 165 rfl
  have hw166 := own_w hw 166 rfl
  show Go p.tables e below Pf (s₁.setTop (mkF m 0 #[vr sa, vr sb, .unset] []))
  refine Go.by' (fun t k => (XS.aloadN X0.here hx rfl (hb hby d18_0) rfl rfl (XS.aloadN X0.here hx rfl (hb hby d18_1) rfl rfl k))) ?_
  refine Go.by' (fun t k => Jvm.RoadKit.acmp (g := (mkF m 2 #[vr sa, vr sb, .unset] [(.ref sb), (.ref sa)])) X0 hx rfl rfl rfl (pc0 := 2) (pc' := 7) (same := false) rfl (hb hby d18_2) rfl (decide_eq_false (fun q => hne (Value.ref.inj q))) (by decide) (by decide) k) ?_
  show Go p.tables e below Pf (s₁.setTop (mkF m 7 #[vr sa, vr sb, .unset] []))
  refine Go.by' (fun t k => (XS.aloadN X0.here hx rfl (hb hby d18_7) rfl rfl k)) ?_
  obtain ⟨T178, X178, e178, st178⟩ := instY X0 hx hZ hown hw163 e0 (Ins.self EB) (g := (mkF m 8 #[vr sa, vr sb, .unset] [(.ref sb)])) rfl rfl (hb hby d18_8)
  refine Go.by' st178 ?_
  show Go p.tables e below Pf (T178.setTop (mkF m 11 #[vr sa, vr sb, .unset] [(.int (1 : Int32))]))
  refine Go.by' (fun t k => (XS.ifNo X178.here hx rfl (hb hby d18_11) rfl ((if0 _ _).trans (feq (by decide)).1) (XS.aloadN X178.here hx rfl (hb hby d18_14) rfl rfl k))) ?_
  obtain ⟨T179, X179, e179, st179⟩ := castY X178 hx hZ hown hw163 e178 (Ins.self EB) (g := (mkF m 15 #[vr sa, vr sb, .unset] [(.ref sb)])) rfl rfl (hb hby d18_15)
  refine Go.by' st179 ?_
  show Go p.tables e below Pf (T179.setTop (mkF m 18 #[vr sa, vr sb, .unset] [(.ref sb)]))
  refine Go.by' (fun t k => (XS.astoreN X179.here hx rfl (hb hby d18_18) rfl rfl (l' := #[vr sa, vr sb, vr sb]) rfl k)) ?_
  obtain ⟨T180, X180, e180, st180⟩ := getS2 X179 hx hZ hown (host := "") (Or.inl hw31) Via.refl e179 (G.1.ext O0.2) (g := (mkF m 19 #[vr sa, vr sb, vr sb] [])) rfl (hb hby d18_19)
  refine Go.by' st180 ?_
  show Go p.tables e below Pf (T180.setTop (mkF m 22 #[vr sa, vr sb, vr sb] [(.int vcs)]))
  refine Go.by' (fun t k => (XS.ifNo X180.here hx rfl (hb hby d18_22) rfl ((if0 _ _).trans (feq G.2.1).1) (XS.aloadN X180.here hx rfl (hb hby d18_25) rfl rfl k))) ?_
  obtain ⟨T181, X181, e181, st181⟩ := getF X180 hx hZ hown (host := "") (Or.inl hw21) Via.refl e180 CA (g := (mkF m 26 #[vr sa, vr sb, vr sb] [(.ref sa)])) rfl rfl (hb hby d18_26)
  refine Go.by' st181 ?_
  show Go p.tables e below Pf (T181.setTop (mkF m 29 #[vr sa, vr sb, vr sb] [(.int (0 : Int32))]))
  refine Go.by' (fun t k => (XS.aloadN X181.here hx rfl (hb hby d18_29) rfl rfl k)) ?_
  obtain ⟨T182, X182, e182, st182⟩ := getF X181 hx hZ hown (host := "") (Or.inl hw21) Via.refl e181 CB (g := (mkF m 30 #[vr sa, vr sb, vr sb] [(.ref sb), (.int (0 : Int32))])) rfl rfl (hb hby d18_30)
  refine Go.by' st182 ?_
  show Go p.tables e below Pf (T182.setTop (mkF m 33 #[vr sa, vr sb, vr sb] [(.int (0 : Int32)), (.int (0 : Int32))]))
  refine Go.by' (fun t k => (XS.icmpNo X182.here hx rfl (hb hby d18_33) rfl (teq (by decide)).2 (XS.aloadN X182.here hx rfl (hb hby d18_36) rfl rfl k))) ?_
  obtain ⟨T183, X183, e183, st183⟩ := getF X182 hx hZ hown (host := "") (Or.inl hw20) Via.refl e182 FA (g := (mkF m 37 #[vr sa, vr sb, vr sb] [(.ref sa)])) rfl rfl (hb hby d18_37)
  refine Go.by' st183 ?_
  show Go p.tables e below Pf (T183.setTop (mkF m 40 #[vr sa, vr sb, vr sb] [(.ref va)]))
  refine Go.by' (fun t k => (XS.aloadN X183.here hx rfl (hb hby d18_40) rfl rfl k)) ?_
  obtain ⟨T184, X184, e184, st184⟩ := getF X183 hx hZ hown (host := "") (Or.inl hw20) Via.refl e183 FB (g := (mkF m 41 #[vr sa, vr sb, vr sb] [(.ref sb), (.ref va)])) rfl rfl (hb hby d18_41)
  refine Go.by' st184 ?_
  obtain ⟨_, _, ⟨T185, L185, k185, n185⟩, -, X185, ⟨Lc185, hQ185, l185, y185, z185⟩, st185⟩ := Jvm.LawKit.callS X184 hx (y := own_y16) hown (mvT hZ hw164) (mvT hZ hw165) (mvT hZ hw58) (mvT hZ hw166) (by decide) (backOf (W := 0) (rmLE l Z a0 hw [] vcs wI wA cA G va vb ka kb za zb vsa vsb h0 n0 O0 VA VB hz) hZ hw166 hw58 (by decide) (by decide)) (g := (mkF m 44 #[vr sa, vr sb, vr sb] [(.ref vb), (.ref va)])) rfl (by rw [hml]; rfl) (argsL := [(.ref va), (.ref vb)]) (rest := []) (lenOf pd_11 rfl) rfl (Nat.le_of_eq rfl) (hb hby d18_44) (fun _ _ => ⟨rfl, e184, (by decide : 0 + 0 ≤ _), (by decide : 0 + 0 ≤ _)⟩)
  dsimp only [Pt.U, Pt.locs, Pt.cells, Pt.slots] at X185 l185 y185 z185 st185 hQ185
  subst l185 y185 z185
  obtain ⟨rfl, rfl, e185⟩ := hQ185
  try replace X185 := own_nil X185
  refine Go.by' st185 ?_
  show Go p.tables e below Pf (T185.setTop (mkF m 47 #[vr sa, vr sb, vr sb] [(.int (0 : Int32))]))
  refine Go.by' (fun t k => (XS.ifYes X185.here hx rfl (pc0 := 47) (pc' := 54) rfl (hb hby d18_47) rfl ((if0 _ _).trans (teq (by decide)).1) (by decide) (by decide) (XS.iconst X185.here hx rfl (hb hby d18_54) k))) ?_
  show Go p.tables e below Pf (T185.setTop (mkF m 55 #[vr sa, vr sb, vr sb] [(.int (0 : Int32))]))
  rw [hPf]
  exact Go.retI' X185 hx hret hlk (by simp) rfl (hb hby d18_55) (by decide) (by decide) ⟨rfl, rfl, e185⟩
theorem d22_0 : decode jdk_42_method_152_code 0 = .ok (.getstatic 38, 3) := by decide +kernel
theorem d22_3 : decode jdk_42_method_152_code 3 = .ok (.ifCond .eq 10, 3) := by decide +kernel
theorem d22_6 : decode jdk_42_method_152_code 6 = .ok (.aload_n 0, 1) := by decide +kernel
theorem d22_7 : decode jdk_42_method_152_code 7 = .ok (.getfield 15, 3) := by decide +kernel
theorem d22_10 : decode jdk_42_method_152_code 10 = .ok (.goto 4, 3) := by decide +kernel
theorem d22_14 : decode jdk_42_method_152_code 14 = .ok (.ireturn, 1) := by decide +kernel
theorem pn_22 : plainName "java/lang/String" = true := by first | (simp [plainName, overriddenIn]; done) | decide +kernel
theorem ef_rmCo (m : MethodId) {sa : Addr} : entryFrame m #[(.ref sa)] 1 = mkF m 0 #[vr sa] [] := by first | (simp [entryFrame, mkF, argsToLocals, Value.category]; done) | rfl
abbrev own_y17 : MethodName := ⟨"java/lang/String", "coder", "()B"⟩
def QrmCo (Z : State) (vcs : Int32) (wI : Addr) (wA : Addr) (cA : Cell) (sa : Addr) (h0 : Heap) (n0 : Nat) (v : Option Value) (h : Heap) (L : List Loc) : Prop := (v = some (.int (0 : Int32))) ∧ (L = []) ∧ (h = h0)
theorem rmCo (l : Launch) (Z : State) (a0 : Array Value) (hw : ∀ d ∈ tables_1, d.before a0 Z = true) (ws : List Jvm.Cond) (vcs : Int32) (wI : Addr) (wA : Addr) (cA : Cell) (G : Gh Z vcs wI wA cA) (sa : Addr) (h0 : Heap) (n0 : Nat) (O0 : Old Z n0 h0) (CA : Fld Z h0 sa "java/lang/String" "coder" "B" (.int (0 : Int32))) :
    MetFree l own_y17 (head1 (Jvm.Cond.code own_y17 jdk_42_method_152_code 1 (some .byte) :: ws) ({ frames := 0, cells := 0, slots := 0, locals := 0 } : Room)) (fun aa' UU' => aa' = #[(.ref sa)] ∧ Z.Warmed39 UU'.vm ∧ UU'.heap = h0) (fun _ _ _ _ _ => True) (fun _ UU' oo' VV' => ∃ v' L', oo' = .returned v' ∧ QrmCo Z vcs wI wA cA sa h0 n0 v' VV'.heap L' ∧ FrameEnd UU' oo' VV' L' ({ frames := 0, cells := 0, slots := 0, locals := 0 } : Room).cells ({ frames := 0, cells := 0, slots := 0, locals := 0 } : Room).slots) := by
  refine MetFree.of_bodySF (plainFor_of_name pn_22) hisR ?_
  intro p e s m args below meth c s₁ Bd hml0 hP hK
  obtain ⟨rfl, hZ, hh⟩ := hP
  have hml : c.maxLocals = 1 := hml0
  obtain ⟨hx, hby, hlk, hown, hnm, hret, X0, e0⟩ := own_hd Bd hh
  have N0 := Fr.nil n0
  refine Go.body ?_
  obtain ⟨Pf, hPf⟩ : ∃ P, P = Fin' s below ({ frames := 0, cells := 0, slots := 0, locals := 0 } : Room).cells ({ frames := 0, cells := 0, slots := 0, locals := 0 } : Room).slots (QrmCo Z vcs wI wA cA sa h0 n0) := ⟨_, rfl⟩
  rw [← hPf]
  refine Go.cast (ef_rmCo m) ?_
  have hw21 := own_w hw 21 rfl
  have hw31 := own_w hw 31 rfl
  obtain ⟨T186, X186, e186, st186⟩ := getS2 X0 hx hZ hown (host := "") (Or.inl hw31) Via.refl e0 (G.1.ext O0.2) (g := (mkF m 0 #[vr sa] [])) rfl (hb hby d22_0)
  refine Go.by' st186 ?_
  show Go p.tables e below Pf (T186.setTop (mkF m 3 #[vr sa] [(.int vcs)]))
  refine Go.by' (fun t k => (XS.ifNo X186.here hx rfl (hb hby d22_3) rfl ((if0 _ _).trans (feq G.2.1).1) (XS.aloadN X186.here hx rfl (hb hby d22_6) rfl rfl k))) ?_
  obtain ⟨T187, X187, e187, st187⟩ := getF X186 hx hZ hown (host := "") (Or.inl hw21) Via.refl e186 CA (g := (mkF m 7 #[vr sa] [(.ref sa)])) rfl rfl (hb hby d22_7)
  refine Go.by' st187 ?_
  show Go p.tables e below Pf (T187.setTop (mkF m 10 #[vr sa] [(.int (0 : Int32))]))
  refine Go.by' (fun t k => (XS.goto X187.here hx rfl (pc0 := 10) (pc' := 14) rfl (hb hby d22_10) (by decide) (by decide) k)) ?_
  show Go p.tables e below Pf (T187.setTop (mkF m 14 #[vr sa] [(.int (0 : Int32))]))
  rw [hPf]
  exact Go.retI' X187 hx hret hlk (by simp) rfl (hb hby d22_14) (by decide) (by decide) ⟨rfl, rfl, e187⟩
theorem d20_0 : decode jdk_42_method_126_code 0 = .ok (.aload_n 0, 1) := by decide +kernel
theorem d20_1 : decode jdk_42_method_126_code 1 = .ok (.areturn, 1) := by decide +kernel
theorem pn_20 : plainName "java/lang/String" = true := by first | (simp [plainName, overriddenIn]; done) | decide +kernel
theorem ef_rmTo (m : MethodId) {sa : Addr} : entryFrame m #[(.ref sa)] 1 = mkF m 0 #[vr sa] [] := by first | (simp [entryFrame, mkF, argsToLocals, Value.category]; done) | rfl
abbrev own_y18 : MethodName := ⟨"java/lang/String", "toString", "()Ljava/lang/String;"⟩
def QrmTo (Z : State) (vcs : Int32) (wI : Addr) (wA : Addr) (cA : Cell) (sa : Addr) (h0 : Heap) (n0 : Nat) (v : Option Value) (h : Heap) (L : List Loc) : Prop := (v = some (.ref sa)) ∧ (L = []) ∧ (h = h0)
theorem rmTo (l : Launch) (Z : State) (a0 : Array Value) (hw : ∀ d ∈ tables_1, d.before a0 Z = true) (ws : List Jvm.Cond) (vcs : Int32) (wI : Addr) (wA : Addr) (cA : Cell) (G : Gh Z vcs wI wA cA) (sa : Addr) (h0 : Heap) (n0 : Nat) (O0 : Old Z n0 h0) :
    MetFree l own_y18 (head1 (Jvm.Cond.code own_y18 jdk_42_method_126_code 1 (some (.object "java/lang/String")) :: ws) ({ frames := 0, cells := 0, slots := 0, locals := 0 } : Room)) (fun aa' UU' => aa' = #[(.ref sa)] ∧ Z.Warmed39 UU'.vm ∧ UU'.heap = h0) (fun _ _ _ _ _ => True) (fun _ UU' oo' VV' => ∃ v' L', oo' = .returned v' ∧ QrmTo Z vcs wI wA cA sa h0 n0 v' VV'.heap L' ∧ FrameEnd UU' oo' VV' L' ({ frames := 0, cells := 0, slots := 0, locals := 0 } : Room).cells ({ frames := 0, cells := 0, slots := 0, locals := 0 } : Room).slots) := by
  refine MetFree.of_bodySF (plainFor_of_name pn_20) hisR ?_
  intro p e s m args below meth c s₁ Bd hml0 hP hK
  obtain ⟨rfl, hZ, hh⟩ := hP
  have hml : c.maxLocals = 1 := hml0
  obtain ⟨hx, hby, hlk, hown, hnm, hret, X0, e0⟩ := own_hd Bd hh
  have N0 := Fr.nil n0
  refine Go.body ?_
  obtain ⟨Pf, hPf⟩ : ∃ P, P = Fin' s below ({ frames := 0, cells := 0, slots := 0, locals := 0 } : Room).cells ({ frames := 0, cells := 0, slots := 0, locals := 0 } : Room).slots (QrmTo Z vcs wI wA cA sa h0 n0) := ⟨_, rfl⟩
  rw [← hPf]
  refine Go.cast (ef_rmTo m) ?_
  show Go p.tables e below Pf (s₁.setTop (mkF m 0 #[vr sa] []))
  refine Go.by' (fun t k => (XS.aloadN X0.here hx rfl (hb hby d20_0) rfl rfl k)) ?_
  show Go p.tables e below Pf (s₁.setTop (mkF m 1 #[vr sa] [(.ref sa)]))
  rw [hPf]
  exact Go.retA' X0 hx hret hlk rfl rfl (hb hby d20_1) (by decide) (by decide) ⟨rfl, rfl, e0⟩
theorem d27_0 : decode jdk_42_method_54_code 0 = .ok (.aload_n 0, 1) := by decide +kernel
theorem d27_1 : decode jdk_42_method_54_code 1 = .ok (.getfield 9, 3) := by decide +kernel
theorem d27_4 : decode jdk_42_method_54_code 4 = .ok (.arraylength, 1) := by decide +kernel
theorem d27_5 : decode jdk_42_method_54_code 5 = .ok (.aload_n 0, 1) := by decide +kernel
theorem d27_6 : decode jdk_42_method_54_code 6 = .ok (.invokevirtual 335, 3) := by decide +kernel
theorem pd_12 : parseMethodDescriptor "()B" = some ⟨[], some .byte⟩ := by decide +kernel
theorem d27_9 : decode jdk_42_method_54_code 9 = .ok (.ishr, 1) := by decide +kernel
theorem d27_10 : decode jdk_42_method_54_code 10 = .ok (.ireturn, 1) := by decide +kernel
theorem pn_27 : plainName "java/lang/String" = true := by first | (simp [plainName, overriddenIn]; done) | decide +kernel
theorem ef_rmLn (m : MethodId) {sa : Addr} : entryFrame m #[(.ref sa)] 1 = mkF m 0 #[vr sa] [] := by first | (simp [entryFrame, mkF, argsToLocals, Value.category]; done) | rfl
abbrev own_y19 : MethodName := ⟨"java/lang/String", "length", "()I"⟩
def QrmLn (Z : State) (vcs : Int32) (wI : Addr) (wA : Addr) (cA : Cell) (sa : Addr) (va : Addr) (ka : ClassId) (mm : Int32) (vsa : (List Value)) (h0 : Heap) (n0 : Nat) (v : Option Value) (h : Heap) (L : List Loc) : Prop := (v = some (.int mm)) ∧ (L = []) ∧ (h = h0)
theorem rmLn (l : Launch) (Z : State) (a0 : Array Value) (hw : ∀ d ∈ tables_1, d.before a0 Z = true) (ws : List Jvm.Cond) (vcs : Int32) (wI : Addr) (wA : Addr) (cA : Cell) (G : Gh Z vcs wI wA cA) (sa : Addr) (va : Addr) (ka : ClassId) (mm : Int32) (vsa : (List Value)) (h0 : Heap) (n0 : Nat) (O0 : Old Z n0 h0) (EA : Exa Z h0 sa "java/lang/String") (FA : Fld Z h0 sa "java/lang/String" "value" "[B" (.ref va)) (CA : Fld Z h0 sa "java/lang/String" "coder" "B" (.int (0 : Int32))) (VA : Arv Z h0 va ka .byte mm vsa (.int (0 : Int32))) :
    MetFree l own_y19 (head1 (Jvm.Cond.code own_y19 jdk_42_method_54_code 1 (some .int) :: ws) ({ frames := 1, cells := 0, slots := 0, locals := 13 } : Room)) (fun aa' UU' => aa' = #[(.ref sa)] ∧ Z.Warmed39 UU'.vm ∧ UU'.heap = h0) (fun _ _ _ _ _ => True) (fun _ UU' oo' VV' => ∃ v' L', oo' = .returned v' ∧ QrmLn Z vcs wI wA cA sa va ka mm vsa h0 n0 v' VV'.heap L' ∧ FrameEnd UU' oo' VV' L' ({ frames := 1, cells := 0, slots := 0, locals := 13 } : Room).cells ({ frames := 1, cells := 0, slots := 0, locals := 13 } : Room).slots) := by
  refine MetFree.of_bodySF (plainFor_of_name pn_27) hisR ?_
  intro p e s m args below meth c s₁ Bd hml0 hP hK
  obtain ⟨rfl, hZ, hh⟩ := hP
  have hml : c.maxLocals = 1 := hml0
  obtain ⟨hx, hby, hlk, hown, hnm, hret, X0, e0⟩ := own_hd Bd hh
  have N0 := Fr.nil n0
  refine Go.body ?_
  obtain ⟨Pf, hPf⟩ : ∃ P, P = Fin' s below ({ frames := 1, cells := 0, slots := 0, locals := 13 } : Room).cells ({ frames := 1, cells := 0, slots := 0, locals := 13 } : Room).slots (QrmLn Z vcs wI wA cA sa va ka mm vsa h0 n0) := ⟨_, rfl⟩
  rw [← hPf]
  refine Go.cast (ef_rmLn m) ?_
  have hw3 := own_w hw 3 rfl
  have hw20 := own_w hw 20 rfl
  have hw107 := own_w hw 107 rfl
  have hw108 := own_w hw 108 rfl
  have hw109 := own_w hw 109 rfl
  have hw110 := own_w hw 110 rfl
  have hw111 := own_w hw 111 rfl
  show Go p.tables e below Pf (s₁.setTop (mkF m 0 #[vr sa] []))
  refine Go.by' (fun t k => (XS.aloadN X0.here hx rfl (hb hby d27_0) rfl rfl k)) ?_
  obtain ⟨T188, X188, e188, st188⟩ := getF X0 hx hZ hown (host := "") (Or.inl hw20) Via.refl e0 FA (g := (mkF m 1 #[vr sa] [(.ref sa)])) rfl rfl (hb hby d27_1)
  refine Go.by' st188 ?_
  show Go p.tables e below Pf (T188.setTop (mkF m 4 #[vr sa] [(.ref va)]))
  refine Go.by' (fun t k => (own_alen X188 hx hZ e188 VA rfl rfl (hb hby d27_4) (XS.aloadN X188.here hx rfl (hb hby d27_5) rfl rfl k))) ?_
  obtain ⟨cq190, kq190, q190a, q190b, q190c⟩ := isOf hZ e188 EA
  obtain ⟨_, _, ⟨T190, L190, k190, n190⟩, -, X190, ⟨Lc190, hQ190, l190, y190, z190⟩, st190⟩ := X188.virtualBack hx (y := own_y17) (z := own_y17) hown (mvT hZ hw107) (mvT hZ hw108) (notFace_of_selects (args := #[]) (mvT hZ hw110)) (mvT hZ hw110) (mvT hZ hw109) (by decide) (backOf (W := 1) (rmCo l Z a0 hw [] vcs wI wA cA G sa h0 n0 O0 CA) hZ hw111 hw3 (by decide) (by decide)) q190a q190c (g := (mkF m 6 #[vr sa] [(.ref sa), (.int mm)])) rfl (by rw [hml]; rfl) (Steps.refl _) (argsL := []) (rest := [(.int mm)]) (lenOf pd_12 rfl) rfl (Nat.le_of_eq rfl) (hb hby d27_6) (fun _ _ => ⟨rfl, e188, (by decide : 0 + 0 ≤ _), (by decide : 0 + 0 ≤ _)⟩)
  dsimp only [Pt.U, Pt.locs, Pt.cells, Pt.slots] at X190 l190 y190 z190 st190 hQ190
  subst l190 y190 z190
  obtain ⟨rfl, rfl, e190⟩ := hQ190
  try replace X190 := own_nil X190
  refine Go.by' (fun t k => st190.trans k) ?_
  show Go p.tables e below Pf (T190.setTop (mkF m 9 #[vr sa] [(.int (0 : Int32)), (.int mm)]))
  refine Go.by' (fun t k => (XS.ishr X190.here hx rfl (hb hby d27_9) rfl k)) ?_
  show Go p.tables e below Pf (T190.setTop (mkF m 10 #[vr sa] [(.int (mm >>> ((0 : Int32) &&& 31)))]))
  refine Go.castF (a := (mm >>> ((0 : Int32) &&& 31))) (b := mm) (fun z' : Int32 => mkF m 10 #[vr sa] [(.int z')]) (own_shr0 _) ?_
  show Go p.tables e below Pf (T190.setTop (mkF m 10 #[vr sa] [(.int mm)]))
  rw [hPf]
  exact Go.retI' X190 hx hret hlk (by simp) rfl (hb hby d27_10) (by decide) (by decide) ⟨rfl, rfl, e190⟩
theorem own_bk {x k : Int32} (h0 : ¬ x < (0 : Int32)) (h1 : ¬ (255 : Int32) < x) (k0 : ¬ k < (0 : Int32)) (k1 : ¬ (255 : Int32) < k) (hk : (k.toInt8.toInt32) = k) : ((x.toInt8.toInt32) = k) ↔ x = k := by
  have h := own_b8 h0 h1 k0 k1
  rw [hk] at h
  exact h
theorem own_sne {Z : State} {h : Heap} {a b va vb : Addr} {ka kb : ClassId} {za zb : Int32} {vsa vsb : List Value} (F : Fld Z h a "java/lang/String" "value" "[B" (.ref va)) (G : Fld Z h b "java/lang/String" "value" "[B" (.ref vb)) (A : Arv Z h va ka .byte za vsa (.int 0)) (B : Arv Z h vb kb .byte zb vsb (.int 0)) (hz : ¬ za = zb) : a ≠ b := by
  refine F.ne G fun q => hz ?_
  cases q
  obtain ⟨c1, A1, -, A3, A4, -⟩ := A
  obtain ⟨c2, B1, -, B3, B4, -⟩ := B
  cases A1.1.symm.trans B1.1
  rw [(back32 A4).1.symm, (back32 B4).1.symm, ← A3, ← B3]
theorem d5_0 : decode jdk_42_method_55_code 0 = .ok (.aload_n 0, 1) := by decide +kernel
theorem d5_1 : decode jdk_42_method_55_code 1 = .ok (.getfield 9, 3) := by decide +kernel
theorem d5_4 : decode jdk_42_method_55_code 4 = .ok (.arraylength, 1) := by decide +kernel
theorem d5_5 : decode jdk_42_method_55_code 5 = .ok (.ifCond .ne 7, 3) := by decide +kernel
theorem d5_8 : decode jdk_42_method_55_code 8 = .ok (.iconst 1, 1) := by decide +kernel
theorem d5_9 : decode jdk_42_method_55_code 9 = .ok (.goto 4, 3) := by decide +kernel
theorem d5_13 : decode jdk_42_method_55_code 13 = .ok (.ireturn, 1) := by decide +kernel
theorem pn_5 : plainName "java/lang/String" = true := by first | (simp [plainName, overriddenIn]; done) | decide +kernel
theorem ef_rmEm_0 (m : MethodId) {sa : Addr} : entryFrame m #[(.ref sa)] 1 = mkF m 0 #[vr sa] [] := by first | (simp [entryFrame, mkF, argsToLocals, Value.category]; done) | rfl
abbrev own_y20 : MethodName := ⟨"java/lang/String", "isEmpty", "()Z"⟩
def QrmEm_0 (Z : State) (vcs : Int32) (wI : Addr) (wA : Addr) (cA : Cell) (sa : Addr) (va : Addr) (ka : ClassId) (h0 : Heap) (n0 : Nat) (v : Option Value) (h : Heap) (L : List Loc) : Prop := (v = some (.int (1 : Int32))) ∧ (L = []) ∧ (h = h0)
theorem rmEm_0 (l : Launch) (Z : State) (a0 : Array Value) (hw : ∀ d ∈ tables_1, d.before a0 Z = true) (ws : List Jvm.Cond) (vcs : Int32) (wI : Addr) (wA : Addr) (cA : Cell) (G : Gh Z vcs wI wA cA) (sa : Addr) (va : Addr) (ka : ClassId) (h0 : Heap) (n0 : Nat) (O0 : Old Z n0 h0) (EA : Exa Z h0 sa "java/lang/String") (FA : Fld Z h0 sa "java/lang/String" "value" "[B" (.ref va)) (CA : Fld Z h0 sa "java/lang/String" "coder" "B" (.int (0 : Int32))) (VA : Arv Z h0 va ka .byte (0 : Int32) [] (.int (0 : Int32))) :
    MetFree l own_y20 (head1 (Jvm.Cond.code own_y20 jdk_42_method_55_code 1 (some .boolean) :: ws) ({ frames := 0, cells := 0, slots := 0, locals := 0 } : Room)) (fun aa' UU' => aa' = #[(.ref sa)] ∧ Z.Warmed39 UU'.vm ∧ UU'.heap = h0) (fun _ _ _ _ _ => True) (fun _ UU' oo' VV' => ∃ v' L', oo' = .returned v' ∧ QrmEm_0 Z vcs wI wA cA sa va ka h0 n0 v' VV'.heap L' ∧ FrameEnd UU' oo' VV' L' ({ frames := 0, cells := 0, slots := 0, locals := 0 } : Room).cells ({ frames := 0, cells := 0, slots := 0, locals := 0 } : Room).slots) := by
  refine MetFree.of_bodySF (plainFor_of_name pn_5) hisR ?_
  intro p e s m args below meth c s₁ Bd hml0 hP hK
  obtain ⟨rfl, hZ, hh⟩ := hP
  have hml : c.maxLocals = 1 := hml0
  obtain ⟨hx, hby, hlk, hown, hnm, hret, X0, e0⟩ := own_hd Bd hh
  have N0 := Fr.nil n0
  refine Go.body ?_
  obtain ⟨Pf, hPf⟩ : ∃ P, P = Fin' s below ({ frames := 0, cells := 0, slots := 0, locals := 0 } : Room).cells ({ frames := 0, cells := 0, slots := 0, locals := 0 } : Room).slots (QrmEm_0 Z vcs wI wA cA sa va ka h0 n0) := ⟨_, rfl⟩
  rw [← hPf]
  refine Go.cast (ef_rmEm_0 m) ?_
  have hw20 := own_w hw 20 rfl
  show Go p.tables e below Pf (s₁.setTop (mkF m 0 #[vr sa] []))
  refine Go.by' (fun t k => (XS.aloadN X0.here hx rfl (hb hby d5_0) rfl rfl k)) ?_
  obtain ⟨T191, X191, e191, st191⟩ := getF X0 hx hZ hown (host := "") (Or.inl hw20) Via.refl e0 FA (g := (mkF m 1 #[vr sa] [(.ref sa)])) rfl rfl (hb hby d5_1)
  refine Go.by' st191 ?_
  show Go p.tables e below Pf (T191.setTop (mkF m 4 #[vr sa] [(.ref va)]))
  refine Go.by' (fun t k => (own_alen X191 hx hZ e191 VA rfl rfl (hb hby d5_4) (XS.ifNo X191.here hx rfl (hb hby d5_5) rfl ((if0 _ _).trans (teq (by decide)).2) (XS.iconst X191.here hx rfl (hb hby d5_8) (XS.goto X191.here hx rfl (pc0 := 9) (pc' := 13) rfl (hb hby d5_9) (by decide) (by decide) k))))) ?_
  show Go p.tables e below Pf (T191.setTop (mkF m 13 #[vr sa] [(.int (1 : Int32))]))
  rw [hPf]
  exact Go.retI' X191 hx hret hlk (by simp) rfl (hb hby d5_13) (by decide) (by decide) ⟨rfl, rfl, e191⟩
theorem d5_12 : decode jdk_42_method_55_code 12 = .ok (.iconst 0, 1) := by decide +kernel
theorem ef_rmEm_1 (m : MethodId) {sa : Addr} : entryFrame m #[(.ref sa)] 1 = mkF m 0 #[vr sa] [] := by first | (simp [entryFrame, mkF, argsToLocals, Value.category]; done) | rfl
def QrmEm_1 (Z : State) (vcs : Int32) (wI : Addr) (wA : Addr) (cA : Cell) (sa : Addr) (va : Addr) (ka : ClassId) (x0 : Int32) (h0 : Heap) (n0 : Nat) (v : Option Value) (h : Heap) (L : List Loc) : Prop := (v = some (.int (0 : Int32))) ∧ (L = []) ∧ (h = h0)
theorem rmEm_1 (l : Launch) (Z : State) (a0 : Array Value) (hw : ∀ d ∈ tables_1, d.before a0 Z = true) (ws : List Jvm.Cond) (vcs : Int32) (wI : Addr) (wA : Addr) (cA : Cell) (G : Gh Z vcs wI wA cA) (sa : Addr) (va : Addr) (ka : ClassId) (x0 : Int32) (h0 : Heap) (n0 : Nat) (O0 : Old Z n0 h0) (EA : Exa Z h0 sa "java/lang/String") (FA : Fld Z h0 sa "java/lang/String" "value" "[B" (.ref va)) (CA : Fld Z h0 sa "java/lang/String" "coder" "B" (.int (0 : Int32))) (VA : Arv Z h0 va ka .byte (1 : Int32) [(.int x0)] (.int (0 : Int32))) :
    MetFree l own_y20 (head1 (Jvm.Cond.code own_y20 jdk_42_method_55_code 1 (some .boolean) :: ws) ({ frames := 0, cells := 0, slots := 0, locals := 0 } : Room)) (fun aa' UU' => aa' = #[(.ref sa)] ∧ Z.Warmed39 UU'.vm ∧ UU'.heap = h0) (fun _ _ _ _ _ => True) (fun _ UU' oo' VV' => ∃ v' L', oo' = .returned v' ∧ QrmEm_1 Z vcs wI wA cA sa va ka x0 h0 n0 v' VV'.heap L' ∧ FrameEnd UU' oo' VV' L' ({ frames := 0, cells := 0, slots := 0, locals := 0 } : Room).cells ({ frames := 0, cells := 0, slots := 0, locals := 0 } : Room).slots) := by
  refine MetFree.of_bodySF (plainFor_of_name pn_5) hisR ?_
  intro p e s m args below meth c s₁ Bd hml0 hP hK
  obtain ⟨rfl, hZ, hh⟩ := hP
  have hml : c.maxLocals = 1 := hml0
  obtain ⟨hx, hby, hlk, hown, hnm, hret, X0, e0⟩ := own_hd Bd hh
  have N0 := Fr.nil n0
  refine Go.body ?_
  obtain ⟨Pf, hPf⟩ : ∃ P, P = Fin' s below ({ frames := 0, cells := 0, slots := 0, locals := 0 } : Room).cells ({ frames := 0, cells := 0, slots := 0, locals := 0 } : Room).slots (QrmEm_1 Z vcs wI wA cA sa va ka x0 h0 n0) := ⟨_, rfl⟩
  rw [← hPf]
  refine Go.cast (ef_rmEm_1 m) ?_
  have hw20 := own_w hw 20 rfl
  show Go p.tables e below Pf (s₁.setTop (mkF m 0 #[vr sa] []))
  refine Go.by' (fun t k => (XS.aloadN X0.here hx rfl (hb hby d5_0) rfl rfl k)) ?_
  obtain ⟨T193, X193, e193, st193⟩ := getF X0 hx hZ hown (host := "") (Or.inl hw20) Via.refl e0 FA (g := (mkF m 1 #[vr sa] [(.ref sa)])) rfl rfl (hb hby d5_1)
  refine Go.by' st193 ?_
  show Go p.tables e below Pf (T193.setTop (mkF m 4 #[vr sa] [(.ref va)]))
  refine Go.by' (fun t k => (own_alen X193 hx hZ e193 VA rfl rfl (hb hby d5_4) (XS.ifYes X193.here hx rfl (pc0 := 5) (pc' := 12) rfl (hb hby d5_5) rfl ((if0 _ _).trans (feq (by decide)).2) (by decide) (by decide) (XS.iconst X193.here hx rfl (hb hby d5_12) k)))) ?_
  show Go p.tables e below Pf (T193.setTop (mkF m 13 #[vr sa] [(.int (0 : Int32))]))
  rw [hPf]
  exact Go.retI' X193 hx hret hlk (by simp) rfl (hb hby d5_13) (by decide) (by decide) ⟨rfl, rfl, e193⟩
theorem d24_0 : decode jdk_43_method_25_code 0 = .ok (.aload_n 2, 1) := by decide +kernel
theorem d24_1 : decode jdk_43_method_25_code 1 = .ok (.iconst 0, 1) := by decide +kernel
theorem d24_2 : decode jdk_43_method_25_code 2 = .ok (.baload, 1) := by decide +kernel
theorem d24_3 : decode jdk_43_method_25_code 3 = .ok (.istore 5, 2) := by decide +kernel
theorem d24_5 : decode jdk_43_method_25_code 5 = .ok (.iload_n 1, 1) := by decide +kernel
theorem d24_6 : decode jdk_43_method_25_code 6 = .ok (.iload_n 3, 1) := by decide +kernel
theorem d24_7 : decode jdk_43_method_25_code 7 = .ok (.isub, 1) := by decide +kernel
theorem d24_8 : decode jdk_43_method_25_code 8 = .ok (.istore 6, 2) := by decide +kernel
theorem d24_10 : decode jdk_43_method_25_code 10 = .ok (.iload 4, 2) := by decide +kernel
theorem d24_12 : decode jdk_43_method_25_code 12 = .ok (.istore 7, 2) := by decide +kernel
theorem d24_14 : decode jdk_43_method_25_code 14 = .ok (.iload 7, 2) := by decide +kernel
theorem d24_16 : decode jdk_43_method_25_code 16 = .ok (.iload 6, 2) := by decide +kernel
theorem d24_18 : decode jdk_43_method_25_code 18 = .ok (.if_icmp .gt 101, 3) := by decide +kernel
theorem d24_21 : decode jdk_43_method_25_code 21 = .ok (.aload_n 0, 1) := by decide +kernel
theorem d24_22 : decode jdk_43_method_25_code 22 = .ok (.iload 7, 2) := by decide +kernel
theorem d24_24 : decode jdk_43_method_25_code 24 = .ok (.baload, 1) := by decide +kernel
theorem d24_25 : decode jdk_43_method_25_code 25 = .ok (.iload 5, 2) := by decide +kernel
theorem d24_27 : decode jdk_43_method_25_code 27 = .ok (.if_icmp .eq 25, 3) := by decide +kernel
theorem d24_52 : decode jdk_43_method_25_code 52 = .ok (.iload 7, 2) := by decide +kernel
theorem d24_54 : decode jdk_43_method_25_code 54 = .ok (.iload 6, 2) := by decide +kernel
theorem d24_56 : decode jdk_43_method_25_code 56 = .ok (.if_icmp .gt 57, 3) := by decide +kernel
theorem d24_59 : decode jdk_43_method_25_code 59 = .ok (.iload 7, 2) := by decide +kernel
theorem d24_61 : decode jdk_43_method_25_code 61 = .ok (.iconst 1, 1) := by decide +kernel
theorem d24_62 : decode jdk_43_method_25_code 62 = .ok (.iadd, 1) := by decide +kernel
theorem d24_63 : decode jdk_43_method_25_code 63 = .ok (.istore 8, 2) := by decide +kernel
theorem d24_65 : decode jdk_43_method_25_code 65 = .ok (.iload 8, 2) := by decide +kernel
theorem d24_67 : decode jdk_43_method_25_code 67 = .ok (.iload_n 3, 1) := by decide +kernel
theorem d24_68 : decode jdk_43_method_25_code 68 = .ok (.iadd, 1) := by decide +kernel
theorem d24_69 : decode jdk_43_method_25_code 69 = .ok (.iconst 1, 1) := by decide +kernel
theorem d24_70 : decode jdk_43_method_25_code 70 = .ok (.isub, 1) := by decide +kernel
theorem d24_71 : decode jdk_43_method_25_code 71 = .ok (.istore 9, 2) := by decide +kernel
theorem d24_73 : decode jdk_43_method_25_code 73 = .ok (.iconst 1, 1) := by decide +kernel
theorem d24_74 : decode jdk_43_method_25_code 74 = .ok (.istore 10, 2) := by decide +kernel
theorem d24_76 : decode jdk_43_method_25_code 76 = .ok (.iload 8, 2) := by decide +kernel
theorem d24_78 : decode jdk_43_method_25_code 78 = .ok (.iload 9, 2) := by decide +kernel
theorem d24_80 : decode jdk_43_method_25_code 80 = .ok (.if_icmp .ge 23, 3) := by decide +kernel
theorem d24_103 : decode jdk_43_method_25_code 103 = .ok (.iload 8, 2) := by decide +kernel
theorem d24_105 : decode jdk_43_method_25_code 105 = .ok (.iload 9, 2) := by decide +kernel
theorem d24_107 : decode jdk_43_method_25_code 107 = .ok (.if_icmp .ne 6, 3) := by decide +kernel
theorem d24_110 : decode jdk_43_method_25_code 110 = .ok (.iload 7, 2) := by decide +kernel
theorem d24_112 : decode jdk_43_method_25_code 112 = .ok (.ireturn, 1) := by decide +kernel
theorem d24_30 : decode jdk_43_method_25_code 30 = .ok (.iinc 7 1, 3) := by decide +kernel
theorem d24_33 : decode jdk_43_method_25_code 33 = .ok (.iload 7, 2) := by decide +kernel
theorem d24_35 : decode jdk_43_method_25_code 35 = .ok (.iload 6, 2) := by decide +kernel
theorem d24_37 : decode jdk_43_method_25_code 37 = .ok (.if_icmp .gt 15, 3) := by decide +kernel
theorem d24_113 : decode jdk_43_method_25_code 113 = .ok (.iinc 7 1, 3) := by decide +kernel
theorem d24_116 : decode jdk_43_method_25_code 116 = .ok (.goto (-102), 3) := by decide +kernel
theorem d24_119 : decode jdk_43_method_25_code 119 = .ok (.iconst (-1), 1) := by decide +kernel
theorem d24_120 : decode jdk_43_method_25_code 120 = .ok (.ireturn, 1) := by decide +kernel
theorem pn_24 : plainName "java/lang/StringLatin1" = true := by first | (simp [plainName, overriddenIn]; done) | decide +kernel
theorem ef_rmI5_1 (m : MethodId) {va : Addr} {vb : Addr} : entryFrame m #[(.ref va), (.int (1 : Int32)), (.ref vb), (.int (1 : Int32)), (.int (0 : Int32))] 11 = mkF m 0 #[vr va, vi (1 : Int32), vr vb, vi (1 : Int32), vi (0 : Int32), .unset, .unset, .unset, .unset, .unset, .unset] [] := by first | (simp [entryFrame, mkF, argsToLocals, Value.category]; done) | rfl
abbrev own_y21 : MethodName := ⟨"java/lang/StringLatin1", "indexOf", "([BI[BII)I"⟩
def QrmI5_1 (Z : State) (vcs : Int32) (wI : Addr) (wA : Addr) (cA : Cell) (va : Addr) (vb : Addr) (ka : ClassId) (kb : ClassId) (x0 : Int32) (h0 : Heap) (n0 : Nat) (v : Option Value) (h : Heap) (L : List Loc) : Prop := ∃ (r : Int32), (v = some (.int r)) ∧ (L = []) ∧ (h = h0) ∧ (((x0 = (44 : Int32)) ∧ ¬ (r < (0 : Int32))) ∨ (¬ (x0 = (44 : Int32)) ∧ r < (0 : Int32)))
theorem rmI5_1 (l : Launch) (Z : State) (a0 : Array Value) (hw : ∀ d ∈ tables_1, d.before a0 Z = true) (ws : List Jvm.Cond) (vcs : Int32) (wI : Addr) (wA : Addr) (cA : Cell) (G : Gh Z vcs wI wA cA) (va : Addr) (vb : Addr) (ka : ClassId) (kb : ClassId) (x0 : Int32) (h0 : Heap) (n0 : Nat) (O0 : Old Z n0 h0) (VA : Arv Z h0 va ka .byte (1 : Int32) [(.int x0)] (.int (0 : Int32))) (VB : Arv Z h0 vb kb .byte (1 : Int32) [(.int (44 : Int32))] (.int (0 : Int32))) :
    MetFree l own_y21 (head1 (Jvm.Cond.code own_y21 jdk_43_method_25_code 11 (some .int) :: ws) ({ frames := 0, cells := 0, slots := 0, locals := 0 } : Room)) (fun aa' UU' => aa' = #[(.ref va), (.int (1 : Int32)), (.ref vb), (.int (1 : Int32)), (.int (0 : Int32))] ∧ Z.Warmed39 UU'.vm ∧ UU'.heap = h0) (fun _ _ _ _ _ => True) (fun _ UU' oo' VV' => ∃ v' L', oo' = .returned v' ∧ QrmI5_1 Z vcs wI wA cA va vb ka kb x0 h0 n0 v' VV'.heap L' ∧ FrameEnd UU' oo' VV' L' ({ frames := 0, cells := 0, slots := 0, locals := 0 } : Room).cells ({ frames := 0, cells := 0, slots := 0, locals := 0 } : Room).slots) := by
  refine MetFree.of_bodySF (plainFor_of_name pn_24) hisR ?_
  intro p e s m args below meth c s₁ Bd hml0 hP hK
  obtain ⟨rfl, hZ, hh⟩ := hP
  have hml : c.maxLocals = 11 := hml0
  obtain ⟨hx, hby, hlk, hown, hnm, hret, X0, e0⟩ := own_hd Bd hh
  have N0 := Fr.nil n0
  refine Go.body ?_
  obtain ⟨Pf, hPf⟩ : ∃ P, P = Fin' s below ({ frames := 0, cells := 0, slots := 0, locals := 0 } : Room).cells ({ frames := 0, cells := 0, slots := 0, locals := 0 } : Room).slots (QrmI5_1 Z vcs wI wA cA va vb ka kb x0 h0 n0) := ⟨_, rfl⟩
  rw [← hPf]
  refine Go.cast (ef_rmI5_1 m) ?_
  show Go p.tables e below Pf (s₁.setTop (mkF m 0 #[vr va, vi (1 : Int32), vr vb, vi (1 : Int32), vi (0 : Int32), .unset, .unset, .unset, .unset, .unset, .unset] []))
  refine Go.by' (fun t k => (XS.aloadN X0.here hx rfl (hb hby d24_0) rfl rfl (XS.iconst X0.here hx rfl (hb hby d24_1) (own_bal X0 hx hZ e0 VB (j := (0 : Int32)) (v := (.int (44 : Int32))) ⟨by decide, by decide⟩ rfl rfl rfl (hb hby d24_2) (XS.istore X0.here hx rfl (hb hby d24_3) rfl (l' := #[vr va, vi (1 : Int32), vr vb, vi (1 : Int32), vi (0 : Int32), vi (44 : Int32), .unset, .unset, .unset, .unset, .unset]) rfl (XS.iloadN X0.here hx rfl (hb hby d24_5) rfl (XS.iloadN X0.here hx rfl (hb hby d24_6) rfl (XS.isub X0.here hx rfl (hb hby d24_7) rfl (XS.istore X0.here hx rfl (hb hby d24_8) rfl (l' := #[vr va, vi (1 : Int32), vr vb, vi (1 : Int32), vi (0 : Int32), vi (44 : Int32), vi (0 : Int32), .unset, .unset, .unset, .unset]) rfl k))))))))) ?_
  show Go p.tables e below Pf (s₁.setTop (mkF m 10 #[vr va, vi (1 : Int32), vr vb, vi (1 : Int32), vi (0 : Int32), vi (44 : Int32), vi (0 : Int32), .unset, .unset, .unset, .unset] []))
  refine Go.by' (fun t k => (XS.iload X0.here hx rfl (hb hby d24_10) rfl (XS.istore X0.here hx rfl (hb hby d24_12) rfl (l' := #[vr va, vi (1 : Int32), vr vb, vi (1 : Int32), vi (0 : Int32), vi (44 : Int32), vi (0 : Int32), vi (0 : Int32), .unset, .unset, .unset]) rfl (XS.iload X0.here hx rfl (hb hby d24_14) rfl (XS.iload X0.here hx rfl (hb hby d24_16) rfl (XS.icmpNo X0.here hx rfl (hb hby d24_18) rfl (flt (by decide)).2.2.1 (XS.aloadN X0.here hx rfl (hb hby d24_21) rfl rfl (XS.iload X0.here hx rfl (hb hby d24_22) rfl (own_bal X0 hx hZ e0 VA (j := (0 : Int32)) (v := (.int x0)) ⟨by decide, by decide⟩ rfl rfl rfl (hb hby d24_24) k))))))))) ?_
  show Go p.tables e below Pf (s₁.setTop (mkF m 25 #[vr va, vi (1 : Int32), vr vb, vi (1 : Int32), vi (0 : Int32), vi (44 : Int32), vi (0 : Int32), vi (0 : Int32), .unset, .unset, .unset] [(.int x0)]))
  refine Go.by' (fun t k => (XS.iload X0.here hx rfl (hb hby d24_25) rfl k)) ?_
  show Go p.tables e below Pf (s₁.setTop (mkF m 27 #[vr va, vi (1 : Int32), vr vb, vi (1 : Int32), vi (0 : Int32), vi (44 : Int32), vi (0 : Int32), vi (0 : Int32), .unset, .unset, .unset] [(.int (44 : Int32)), (.int x0)]))
  by_cases hc197 : x0 = (44 : Int32)
  · refine Go.by' (fun t k => (XS.icmpYes X0.here hx rfl (pc0 := 27) (pc' := 52) rfl (hb hby d24_27) rfl (teq hc197).1 (by decide) (by decide) (XS.iload X0.here hx rfl (hb hby d24_52) rfl (XS.iload X0.here hx rfl (hb hby d24_54) rfl (XS.icmpNo X0.here hx rfl (hb hby d24_56) rfl (flt (by decide)).2.2.1 (XS.iload X0.here hx rfl (hb hby d24_59) rfl (XS.iconst X0.here hx rfl (hb hby d24_61) (XS.iadd X0.here hx rfl (hb hby d24_62) rfl (XS.istore X0.here hx rfl (hb hby d24_63) rfl (l' := #[vr va, vi (1 : Int32), vr vb, vi (1 : Int32), vi (0 : Int32), vi (44 : Int32), vi (0 : Int32), vi (0 : Int32), vi (1 : Int32), .unset, .unset]) rfl k))))))))) ?_
    show Go p.tables e below Pf (s₁.setTop (mkF m 65 #[vr va, vi (1 : Int32), vr vb, vi (1 : Int32), vi (0 : Int32), vi (44 : Int32), vi (0 : Int32), vi (0 : Int32), vi (1 : Int32), .unset, .unset] []))
    refine Go.by' (fun t k => (XS.iload X0.here hx rfl (hb hby d24_65) rfl (XS.iloadN X0.here hx rfl (hb hby d24_67) rfl (XS.iadd X0.here hx rfl (hb hby d24_68) rfl (XS.iconst X0.here hx rfl (hb hby d24_69) (XS.isub X0.here hx rfl (hb hby d24_70) rfl (XS.istore X0.here hx rfl (hb hby d24_71) rfl (l' := #[vr va, vi (1 : Int32), vr vb, vi (1 : Int32), vi (0 : Int32), vi (44 : Int32), vi (0 : Int32), vi (0 : Int32), vi (1 : Int32), vi (1 : Int32), .unset]) rfl (XS.iconst X0.here hx rfl (hb hby d24_73) (XS.istore X0.here hx rfl (hb hby d24_74) rfl (l' := #[vr va, vi (1 : Int32), vr vb, vi (1 : Int32), vi (0 : Int32), vi (44 : Int32), vi (0 : Int32), vi (0 : Int32), vi (1 : Int32), vi (1 : Int32), vi (1 : Int32)]) rfl k))))))))) ?_
    show Go p.tables e below Pf (s₁.setTop (mkF m 76 #[vr va, vi (1 : Int32), vr vb, vi (1 : Int32), vi (0 : Int32), vi (44 : Int32), vi (0 : Int32), vi (0 : Int32), vi (1 : Int32), vi (1 : Int32), vi (1 : Int32)] []))
    refine Go.by' (fun t k => (XS.iload X0.here hx rfl (hb hby d24_76) rfl (XS.iload X0.here hx rfl (hb hby d24_78) rfl (XS.icmpYes X0.here hx rfl (pc0 := 80) (pc' := 103) rfl (hb hby d24_80) rfl (flt (by decide)).2.1 (by decide) (by decide) (XS.iload X0.here hx rfl (hb hby d24_103) rfl (XS.iload X0.here hx rfl (hb hby d24_105) rfl (XS.icmpNo X0.here hx rfl (hb hby d24_107) rfl (teq (by decide)).2 (XS.iload X0.here hx rfl (hb hby d24_110) rfl k)))))))) ?_
    show Go p.tables e below Pf (s₁.setTop (mkF m 112 #[vr va, vi (1 : Int32), vr vb, vi (1 : Int32), vi (0 : Int32), vi (44 : Int32), vi (0 : Int32), vi (0 : Int32), vi (1 : Int32), vi (1 : Int32), vi (1 : Int32)] [(.int (0 : Int32))]))
    rw [hPf]
    exact Go.retI' X0 hx hret hlk (by simp) rfl (hb hby d24_112) (by decide) (by decide) ⟨(0 : Int32), rfl, rfl, e0, (Or.inl ⟨hc197, by decide⟩)⟩
  · refine Go.by' (fun t k => (XS.icmpNo X0.here hx rfl (hb hby d24_27) rfl (feq hc197).1 (XS.iinc X0.here hx rfl (hb hby d24_30) rfl (l' := #[vr va, vi (1 : Int32), vr vb, vi (1 : Int32), vi (0 : Int32), vi (44 : Int32), vi (0 : Int32), vi (1 : Int32), .unset, .unset, .unset]) rfl (XS.iload X0.here hx rfl (hb hby d24_33) rfl (XS.iload X0.here hx rfl (hb hby d24_35) rfl (XS.icmpYes X0.here hx rfl (pc0 := 37) (pc' := 52) rfl (hb hby d24_37) rfl (tlt (by decide)).2.2.1 (by decide) (by decide) (XS.iload X0.here hx rfl (hb hby d24_52) rfl (XS.iload X0.here hx rfl (hb hby d24_54) rfl (XS.icmpYes X0.here hx rfl (pc0 := 56) (pc' := 113) rfl (hb hby d24_56) rfl (tlt (by decide)).2.2.1 (by decide) (by decide) k))))))))) ?_
    show Go p.tables e below Pf (s₁.setTop (mkF m 113 #[vr va, vi (1 : Int32), vr vb, vi (1 : Int32), vi (0 : Int32), vi (44 : Int32), vi (0 : Int32), vi (1 : Int32), .unset, .unset, .unset] []))
    refine Go.by' (fun t k => (XS.iinc X0.here hx rfl (hb hby d24_113) rfl (l' := #[vr va, vi (1 : Int32), vr vb, vi (1 : Int32), vi (0 : Int32), vi (44 : Int32), vi (0 : Int32), vi (2 : Int32), .unset, .unset, .unset]) rfl (XS.goto X0.here hx rfl (pc0 := 116) (pc' := 14) rfl (hb hby d24_116) (by decide) (by decide) (XS.iload X0.here hx rfl (hb hby d24_14) rfl (XS.iload X0.here hx rfl (hb hby d24_16) rfl (XS.icmpYes X0.here hx rfl (pc0 := 18) (pc' := 119) rfl (hb hby d24_18) rfl (tlt (by decide)).2.2.1 (by decide) (by decide) (XS.iconst X0.here hx rfl (hb hby d24_119) k))))))) ?_
    show Go p.tables e below Pf (s₁.setTop (mkF m 120 #[vr va, vi (1 : Int32), vr vb, vi (1 : Int32), vi (0 : Int32), vi (44 : Int32), vi (0 : Int32), vi (2 : Int32), .unset, .unset, .unset] [(.int (-1 : Int32))]))
    rw [hPf]
    exact Go.retI' X0 hx hret hlk (by simp) rfl (hb hby d24_120) (by decide) (by decide) ⟨(-1 : Int32), rfl, rfl, e0, (Or.inr ⟨hc197, by decide⟩)⟩
theorem d23_0 : decode jdk_43_method_24_code 0 = .ok (.aload_n 1, 1) := by decide +kernel
theorem d23_1 : decode jdk_43_method_24_code 1 = .ok (.arraylength, 1) := by decide +kernel
theorem d23_2 : decode jdk_43_method_24_code 2 = .ok (.ifCond .ne 5, 3) := by decide +kernel
theorem d23_7 : decode jdk_43_method_24_code 7 = .ok (.aload_n 0, 1) := by decide +kernel
theorem d23_8 : decode jdk_43_method_24_code 8 = .ok (.arraylength, 1) := by decide +kernel
theorem d23_9 : decode jdk_43_method_24_code 9 = .ok (.ifCond .ne 5, 3) := by decide +kernel
theorem d23_14 : decode jdk_43_method_24_code 14 = .ok (.aload_n 0, 1) := by decide +kernel
theorem d23_15 : decode jdk_43_method_24_code 15 = .ok (.aload_n 0, 1) := by decide +kernel
theorem d23_16 : decode jdk_43_method_24_code 16 = .ok (.arraylength, 1) := by decide +kernel
theorem d23_17 : decode jdk_43_method_24_code 17 = .ok (.aload_n 1, 1) := by decide +kernel
theorem d23_18 : decode jdk_43_method_24_code 18 = .ok (.aload_n 1, 1) := by decide +kernel
theorem d23_19 : decode jdk_43_method_24_code 19 = .ok (.arraylength, 1) := by decide +kernel
theorem d23_20 : decode jdk_43_method_24_code 20 = .ok (.iconst 0, 1) := by decide +kernel
theorem d23_21 : decode jdk_43_method_24_code 21 = .ok (.invokestatic 99, 3) := by decide +kernel
theorem pd_13 : parseMethodDescriptor "([BI[BII)I" = some ⟨[(.array .byte), .int, (.array .byte), .int, .int], some .int⟩ := by decide +kernel
theorem d23_24 : decode jdk_43_method_24_code 24 = .ok (.ireturn, 1) := by decide +kernel
theorem pn_23 : plainName "java/lang/StringLatin1" = true := by first | (simp [plainName, overriddenIn]; done) | decide +kernel
theorem ef_rmI2_1 (m : MethodId) {va : Addr} {vb : Addr} : entryFrame m #[(.ref va), (.ref vb)] 2 = mkF m 0 #[vr va, vr vb] [] := by first | (simp [entryFrame, mkF, argsToLocals, Value.category]; done) | rfl
abbrev own_y22 : MethodName := ⟨"java/lang/StringLatin1", "indexOf", "([B[B)I"⟩
def QrmI2_1 (Z : State) (vcs : Int32) (wI : Addr) (wA : Addr) (cA : Cell) (va : Addr) (vb : Addr) (ka : ClassId) (kb : ClassId) (x0 : Int32) (h0 : Heap) (n0 : Nat) (v : Option Value) (h : Heap) (L : List Loc) : Prop := ∃ (r : Int32), (v = some (.int r)) ∧ (L = []) ∧ (h = h0) ∧ (((x0 = (44 : Int32)) ∧ ¬ (r < (0 : Int32))) ∨ (¬ (x0 = (44 : Int32)) ∧ r < (0 : Int32)))
theorem rmI2_1 (l : Launch) (Z : State) (a0 : Array Value) (hw : ∀ d ∈ tables_1, d.before a0 Z = true) (ws : List Jvm.Cond) (vcs : Int32) (wI : Addr) (wA : Addr) (cA : Cell) (G : Gh Z vcs wI wA cA) (va : Addr) (vb : Addr) (ka : ClassId) (kb : ClassId) (x0 : Int32) (h0 : Heap) (n0 : Nat) (O0 : Old Z n0 h0) (VA : Arv Z h0 va ka .byte (1 : Int32) [(.int x0)] (.int (0 : Int32))) (VB : Arv Z h0 vb kb .byte (1 : Int32) [(.int (44 : Int32))] (.int (0 : Int32))) :
    MetFree l own_y22 (head1 (Jvm.Cond.code own_y22 jdk_43_method_24_code 2 (some .int) :: ws) ({ frames := 1, cells := 0, slots := 0, locals := 22 } : Room)) (fun aa' UU' => aa' = #[(.ref va), (.ref vb)] ∧ Z.Warmed39 UU'.vm ∧ UU'.heap = h0) (fun _ _ _ _ _ => True) (fun _ UU' oo' VV' => ∃ v' L', oo' = .returned v' ∧ QrmI2_1 Z vcs wI wA cA va vb ka kb x0 h0 n0 v' VV'.heap L' ∧ FrameEnd UU' oo' VV' L' ({ frames := 1, cells := 0, slots := 0, locals := 22 } : Room).cells ({ frames := 1, cells := 0, slots := 0, locals := 22 } : Room).slots) := by
  refine MetFree.of_bodySF (plainFor_of_name pn_23) hisR ?_
  intro p e s m args below meth c s₁ Bd hml0 hP hK
  obtain ⟨rfl, hZ, hh⟩ := hP
  have hml : c.maxLocals = 2 := hml0
  obtain ⟨hx, hby, hlk, hown, hnm, hret, X0, e0⟩ := own_hd Bd hh
  have N0 := Fr.nil n0
  refine Go.body ?_
  obtain ⟨Pf, hPf⟩ : ∃ P, P = Fin' s below ({ frames := 1, cells := 0, slots := 0, locals := 22 } : Room).cells ({ frames := 1, cells := 0, slots := 0, locals := 22 } : Room).slots (QrmI2_1 Z vcs wI wA cA va vb ka kb x0 h0 n0) := ⟨_, rfl⟩
  rw [← hPf]
  refine Go.cast (ef_rmI2_1 m) ?_
  have hw58 := own_w hw 58 rfl
  have hw115 := own_w hw 115 rfl
  have hw116 := own_w hw 116 rfl
  have hw117 := own_w hw 117 rfl
  show Go p.tables e below Pf (s₁.setTop (mkF m 0 #[vr va, vr vb] []))
  refine Go.by' (fun t k => (XS.aloadN X0.here hx rfl (hb hby d23_0) rfl rfl (own_alen X0 hx hZ e0 VB rfl rfl (hb hby d23_1) (XS.ifYes X0.here hx rfl (pc0 := 2) (pc' := 7) rfl (hb hby d23_2) rfl ((if0 _ _).trans (feq (by decide)).2) (by decide) (by decide) (XS.aloadN X0.here hx rfl (hb hby d23_7) rfl rfl (own_alen X0 hx hZ e0 VA rfl rfl (hb hby d23_8) (XS.ifYes X0.here hx rfl (pc0 := 9) (pc' := 14) rfl (hb hby d23_9) rfl ((if0 _ _).trans (feq (by decide)).2) (by decide) (by decide) (XS.aloadN X0.here hx rfl (hb hby d23_14) rfl rfl (XS.aloadN X0.here hx rfl (hb hby d23_15) rfl rfl k))))))))) ?_
  show Go p.tables e below Pf (s₁.setTop (mkF m 16 #[vr va, vr vb] [(.ref va), (.ref va)]))
  refine Go.by' (fun t k => (own_alen X0 hx hZ e0 VA rfl rfl (hb hby d23_16) (XS.aloadN X0.here hx rfl (hb hby d23_17) rfl rfl (XS.aloadN X0.here hx rfl (hb hby d23_18) rfl rfl (own_alen X0 hx hZ e0 VB rfl rfl (hb hby d23_19) (XS.iconst X0.here hx rfl (hb hby d23_20) k)))))) ?_
  obtain ⟨_, _, ⟨T202, L202, k202, n202⟩, -, X202, ⟨Lc202, hQ202, l202, y202, z202⟩, st202⟩ := Jvm.LawKit.callS X0 hx (y := own_y21) hown (mvT hZ hw115) (mvT hZ hw116) (mvT hZ hw58) (mvT hZ hw117) (by decide) (backOf (W := 0) (rmI5_1 l Z a0 hw [] vcs wI wA cA G va vb ka kb x0 h0 n0 O0 VA VB) hZ hw117 hw58 (by decide) (by decide)) (g := (mkF m 21 #[vr va, vr vb] [(.int (0 : Int32)), (.int (1 : Int32)), (.ref vb), (.int (1 : Int32)), (.ref va)])) rfl (by rw [hml]; rfl) (argsL := [(.ref va), (.int (1 : Int32)), (.ref vb), (.int (1 : Int32)), (.int (0 : Int32))]) (rest := []) (lenOf pd_13 rfl) rfl (Nat.le_of_eq rfl) (hb hby d23_21) (fun _ _ => ⟨rfl, e0, (by decide : 0 + 0 ≤ _), (by decide : 0 + 0 ≤ _)⟩)
  dsimp only [Pt.U, Pt.locs, Pt.cells, Pt.slots] at X202 l202 y202 z202 st202 hQ202
  subst l202 y202 z202
  obtain ⟨r_202, rfl, rfl, e202, r202_0⟩ := hQ202
  try replace X202 := own_nil X202
  refine Go.by' st202 ?_
  show Go p.tables e below Pf (T202.setTop (mkF m 24 #[vr va, vr vb] [(.int r_202)]))
  rw [hPf]
  exact Go.retI' X202 hx hret hlk (by simp) rfl (hb hby d23_24) (by decide) (by decide) ⟨r_202, rfl, rfl, e202, r202_0⟩
theorem d21_0 : decode jdk_42_method_84_code 0 = .ok (.aload_n 0, 1) := by decide +kernel
theorem d21_1 : decode jdk_42_method_84_code 1 = .ok (.invokevirtual 335, 3) := by decide +kernel
theorem d21_4 : decode jdk_42_method_84_code 4 = .ok (.istore_n 2, 1) := by decide +kernel
theorem d21_5 : decode jdk_42_method_84_code 5 = .ok (.iload_n 2, 1) := by decide +kernel
theorem d21_6 : decode jdk_42_method_84_code 6 = .ok (.aload_n 1, 1) := by decide +kernel
theorem d21_7 : decode jdk_42_method_84_code 7 = .ok (.invokevirtual 335, 3) := by decide +kernel
theorem d21_10 : decode jdk_42_method_84_code 10 = .ok (.if_icmp .ne 36, 3) := by decide +kernel
theorem d21_13 : decode jdk_42_method_84_code 13 = .ok (.aload_n 0, 1) := by decide +kernel
theorem d21_14 : decode jdk_42_method_84_code 14 = .ok (.invokevirtual 492, 3) := by decide +kernel
theorem d21_17 : decode jdk_42_method_84_code 17 = .ok (.ifCond .eq 17, 3) := by decide +kernel
theorem d21_20 : decode jdk_42_method_84_code 20 = .ok (.aload_n 0, 1) := by decide +kernel
theorem d21_21 : decode jdk_42_method_84_code 21 = .ok (.getfield 9, 3) := by decide +kernel
theorem d21_24 : decode jdk_42_method_84_code 24 = .ok (.aload_n 1, 1) := by decide +kernel
theorem d21_25 : decode jdk_42_method_84_code 25 = .ok (.getfield 9, 3) := by decide +kernel
theorem d21_28 : decode jdk_42_method_84_code 28 = .ok (.invokestatic 647, 3) := by decide +kernel
theorem pd_14 : parseMethodDescriptor "([B[B)I" = some ⟨[(.array .byte), (.array .byte)], some .int⟩ := by decide +kernel
theorem d21_31 : decode jdk_42_method_84_code 31 = .ok (.goto 14, 3) := by decide +kernel
theorem d21_45 : decode jdk_42_method_84_code 45 = .ok (.ireturn, 1) := by decide +kernel
theorem pn_21 : plainName "java/lang/String" = true := by first | (simp [plainName, overriddenIn]; done) | decide +kernel
theorem ef_rmI1_1 (m : MethodId) {sa : Addr} {sb : Addr} : entryFrame m #[(.ref sa), (.ref sb)] 3 = mkF m 0 #[vr sa, vr sb, .unset] [] := by first | (simp [entryFrame, mkF, argsToLocals, Value.category]; done) | rfl
abbrev own_y23 : MethodName := ⟨"java/lang/String", "indexOf", "(Ljava/lang/String;)I"⟩
def QrmI1_1 (Z : State) (vcs : Int32) (wI : Addr) (wA : Addr) (cA : Cell) (sa : Addr) (sb : Addr) (va : Addr) (vb : Addr) (ka : ClassId) (kb : ClassId) (x0 : Int32) (h0 : Heap) (n0 : Nat) (v : Option Value) (h : Heap) (L : List Loc) : Prop := ∃ (r : Int32), (v = some (.int r)) ∧ (L = []) ∧ (h = h0) ∧ (((x0 = (44 : Int32)) ∧ ¬ (r < (0 : Int32))) ∨ (¬ (x0 = (44 : Int32)) ∧ r < (0 : Int32)))
theorem rmI1_1 (l : Launch) (Z : State) (a0 : Array Value) (hw : ∀ d ∈ tables_1, d.before a0 Z = true) (ws : List Jvm.Cond) (vcs : Int32) (wI : Addr) (wA : Addr) (cA : Cell) (G : Gh Z vcs wI wA cA) (sa : Addr) (sb : Addr) (va : Addr) (vb : Addr) (ka : ClassId) (kb : ClassId) (x0 : Int32) (h0 : Heap) (n0 : Nat) (O0 : Old Z n0 h0) (EA : Exa Z h0 sa "java/lang/String") (FA : Fld Z h0 sa "java/lang/String" "value" "[B" (.ref va)) (CA : Fld Z h0 sa "java/lang/String" "coder" "B" (.int (0 : Int32))) (VA : Arv Z h0 va ka .byte (1 : Int32) [(.int x0)] (.int (0 : Int32))) (EB : Exa Z h0 sb "java/lang/String") (FB : Fld Z h0 sb "java/lang/String" "value" "[B" (.ref vb)) (CB : Fld Z h0 sb "java/lang/String" "coder" "B" (.int (0 : Int32))) (VB : Arv Z h0 vb kb .byte (1 : Int32) [(.int (44 : Int32))] (.int (0 : Int32))) :
    MetFree l own_y23 (head1 (Jvm.Cond.code own_y23 jdk_42_method_84_code 3 (some .int) :: ws) ({ frames := 2, cells := 0, slots := 0, locals := 35 } : Room)) (fun aa' UU' => aa' = #[(.ref sa), (.ref sb)] ∧ Z.Warmed39 UU'.vm ∧ UU'.heap = h0) (fun _ _ _ _ _ => True) (fun _ UU' oo' VV' => ∃ v' L', oo' = .returned v' ∧ QrmI1_1 Z vcs wI wA cA sa sb va vb ka kb x0 h0 n0 v' VV'.heap L' ∧ FrameEnd UU' oo' VV' L' ({ frames := 2, cells := 0, slots := 0, locals := 35 } : Room).cells ({ frames := 2, cells := 0, slots := 0, locals := 35 } : Room).slots) := by
  refine MetFree.of_bodySF (plainFor_of_name pn_21) hisR ?_
  intro p e s m args below meth c s₁ Bd hml0 hP hK
  obtain ⟨rfl, hZ, hh⟩ := hP
  have hml : c.maxLocals = 3 := hml0
  obtain ⟨hx, hby, hlk, hown, hnm, hret, X0, e0⟩ := own_hd Bd hh
  have N0 := Fr.nil n0
  refine Go.body ?_
  obtain ⟨Pf, hPf⟩ : ∃ P, P = Fin' s below ({ frames := 2, cells := 0, slots := 0, locals := 35 } : Room).cells ({ frames := 2, cells := 0, slots := 0, locals := 35 } : Room).slots (QrmI1_1 Z vcs wI wA cA sa sb va vb ka kb x0 h0 n0) := ⟨_, rfl⟩
  rw [← hPf]
  refine Go.cast (ef_rmI1_1 m) ?_
  have hw3 := own_w hw 3 rfl
  have hw20 := own_w hw 20 rfl
  have hw51 := own_w hw 51 rfl
  have hw52 := own_w hw 52 rfl
  have hw53 := own_w hw 53 rfl
  have hw54 := own_w hw 54 rfl
  have hw55 := own_w hw 55 rfl
  have hw58 := own_w hw 58 rfl
  have hw107 := own_w hw 107 rfl
  have hw108 := own_w hw 108 rfl
  have hw109 := own_w hw 109 rfl
  have hw110 := own_w hw 110 rfl
  have hw111 := own_w hw 111 rfl
  have hw112 := own_w hw 112 rfl
  have hw113 := own_w hw 113 rfl
  have hw114 := own_w hw 114 rfl
  show Go p.tables e below Pf (s₁.setTop (mkF m 0 #[vr sa, vr sb, .unset] []))
  refine Go.by' (fun t k => (XS.aloadN X0.here hx rfl (hb hby d21_0) rfl rfl k)) ?_
  obtain ⟨cq203, kq203, q203a, q203b, q203c⟩ := isOf hZ e0 EA
  obtain ⟨_, _, ⟨T203, L203, k203, n203⟩, -, X203, ⟨Lc203, hQ203, l203, y203, z203⟩, st203⟩ := X0.virtualBack hx (y := own_y17) (z := own_y17) hown (mvT hZ hw107) (mvT hZ hw108) (notFace_of_selects (args := #[]) (mvT hZ hw110)) (mvT hZ hw110) (mvT hZ hw109) (by decide) (backOf (W := 0) (rmCo l Z a0 hw [] vcs wI wA cA G sa h0 n0 O0 CA) hZ hw111 hw3 (by decide) (by decide)) q203a q203c (g := (mkF m 1 #[vr sa, vr sb, .unset] [(.ref sa)])) rfl (by rw [hml]; rfl) (Steps.refl _) (argsL := []) (rest := []) (lenOf pd_12 rfl) rfl (Nat.le_of_eq rfl) (hb hby d21_1) (fun _ _ => ⟨rfl, e0, (by decide : 0 + 0 ≤ _), (by decide : 0 + 0 ≤ _)⟩)
  dsimp only [Pt.U, Pt.locs, Pt.cells, Pt.slots] at X203 l203 y203 z203 st203 hQ203
  subst l203 y203 z203
  obtain ⟨rfl, rfl, e203⟩ := hQ203
  try replace X203 := own_nil X203
  refine Go.by' (fun t k => st203.trans k) ?_
  show Go p.tables e below Pf (T203.setTop (mkF m 4 #[vr sa, vr sb, .unset] [(.int (0 : Int32))]))
  refine Go.by' (fun t k => (XS.istoreN X203.here hx rfl (hb hby d21_4) rfl (l' := #[vr sa, vr sb, vi (0 : Int32)]) rfl (XS.iloadN X203.here hx rfl (hb hby d21_5) rfl (XS.aloadN X203.here hx rfl (hb hby d21_6) rfl rfl k)))) ?_
  obtain ⟨cq204, kq204, q204a, q204b, q204c⟩ := isOf hZ e203 EB
  obtain ⟨_, _, ⟨T204, L204, k204, n204⟩, -, X204, ⟨Lc204, hQ204, l204, y204, z204⟩, st204⟩ := X203.virtualBack hx (y := own_y17) (z := own_y17) hown (mvT hZ hw107) (mvT hZ hw108) (notFace_of_selects (args := #[]) (mvT hZ hw110)) (mvT hZ hw110) (mvT hZ hw109) (by decide) (backOf (W := 1) (rmCo l Z a0 hw [] vcs wI wA cA G sb h0 n0 O0 CB) hZ hw111 hw3 (by decide) (by decide)) q204a q204c (g := (mkF m 7 #[vr sa, vr sb, vi (0 : Int32)] [(.ref sb), (.int (0 : Int32))])) rfl (by rw [hml]; rfl) (Steps.refl _) (argsL := []) (rest := [(.int (0 : Int32))]) (lenOf pd_12 rfl) rfl (Nat.le_of_eq rfl) (hb hby d21_7) (fun _ _ => ⟨rfl, e203, (by decide : 0 + 0 ≤ _), (by decide : 0 + 0 ≤ _)⟩)
  dsimp only [Pt.U, Pt.locs, Pt.cells, Pt.slots] at X204 l204 y204 z204 st204 hQ204
  subst l204 y204 z204
  obtain ⟨rfl, rfl, e204⟩ := hQ204
  try replace X204 := own_nil X204
  refine Go.by' (fun t k => st204.trans k) ?_
  show Go p.tables e below Pf (T204.setTop (mkF m 10 #[vr sa, vr sb, vi (0 : Int32)] [(.int (0 : Int32)), (.int (0 : Int32))]))
  refine Go.by' (fun t k => (XS.icmpNo X204.here hx rfl (hb hby d21_10) rfl (teq (by decide)).2 (XS.aloadN X204.here hx rfl (hb hby d21_13) rfl rfl k))) ?_
  obtain ⟨cq205, kq205, q205a, q205b, q205c⟩ := isOf hZ e204 EA
  obtain ⟨_, _, ⟨T205, L205, k205, n205⟩, -, X205, ⟨Lc205, hQ205, l205, y205, z205⟩, st205⟩ := X204.virtualBack hx (y := own_y12) (z := own_y12) hown (mvT hZ hw51) (mvT hZ hw52) (notFace_of_selects (args := #[]) (mvT hZ hw54)) (mvT hZ hw54) (mvT hZ hw53) (by decide) (backOf (W := 0) (rmSL l Z a0 hw [] vcs wI wA cA G sa h0 n0 O0 CA) hZ hw55 hw3 (by decide) (by decide)) q205a q205c (g := (mkF m 14 #[vr sa, vr sb, vi (0 : Int32)] [(.ref sa)])) rfl (by rw [hml]; rfl) (Steps.refl _) (argsL := []) (rest := []) (lenOf pd_8 rfl) rfl (Nat.le_of_eq rfl) (hb hby d21_14) (fun _ _ => ⟨rfl, e204, (by decide : 0 + 0 ≤ _), (by decide : 0 + 0 ≤ _)⟩)
  dsimp only [Pt.U, Pt.locs, Pt.cells, Pt.slots] at X205 l205 y205 z205 st205 hQ205
  subst l205 y205 z205
  obtain ⟨rfl, rfl, e205⟩ := hQ205
  try replace X205 := own_nil X205
  refine Go.by' (fun t k => st205.trans k) ?_
  show Go p.tables e below Pf (T205.setTop (mkF m 17 #[vr sa, vr sb, vi (0 : Int32)] [(.int (1 : Int32))]))
  refine Go.by' (fun t k => (XS.ifNo X205.here hx rfl (hb hby d21_17) rfl ((if0 _ _).trans (feq (by decide)).1) (XS.aloadN X205.here hx rfl (hb hby d21_20) rfl rfl k))) ?_
  obtain ⟨T206, X206, e206, st206⟩ := getF X205 hx hZ hown (host := "") (Or.inl hw20) Via.refl e205 FA (g := (mkF m 21 #[vr sa, vr sb, vi (0 : Int32)] [(.ref sa)])) rfl rfl (hb hby d21_21)
  refine Go.by' st206 ?_
  show Go p.tables e below Pf (T206.setTop (mkF m 24 #[vr sa, vr sb, vi (0 : Int32)] [(.ref va)]))
  refine Go.by' (fun t k => (XS.aloadN X206.here hx rfl (hb hby d21_24) rfl rfl k)) ?_
  obtain ⟨T207, X207, e207, st207⟩ := getF X206 hx hZ hown (host := "") (Or.inl hw20) Via.refl e206 FB (g := (mkF m 25 #[vr sa, vr sb, vi (0 : Int32)] [(.ref sb), (.ref va)])) rfl rfl (hb hby d21_25)
  refine Go.by' st207 ?_
  obtain ⟨_, _, ⟨T208, L208, k208, n208⟩, -, X208, ⟨Lc208, hQ208, l208, y208, z208⟩, st208⟩ := Jvm.LawKit.callS X207 hx (y := own_y22) hown (mvT hZ hw112) (mvT hZ hw113) (mvT hZ hw58) (mvT hZ hw114) (by decide) (backOf (W := 0) (rmI2_1 l Z a0 hw [] vcs wI wA cA G va vb ka kb x0 h0 n0 O0 VA VB) hZ hw114 hw58 (by decide) (by decide)) (g := (mkF m 28 #[vr sa, vr sb, vi (0 : Int32)] [(.ref vb), (.ref va)])) rfl (by rw [hml]; rfl) (argsL := [(.ref va), (.ref vb)]) (rest := []) (lenOf pd_14 rfl) rfl (Nat.le_of_eq rfl) (hb hby d21_28) (fun _ _ => ⟨rfl, e207, (by decide : 0 + 0 ≤ _), (by decide : 0 + 0 ≤ _)⟩)
  dsimp only [Pt.U, Pt.locs, Pt.cells, Pt.slots] at X208 l208 y208 z208 st208 hQ208
  subst l208 y208 z208
  obtain ⟨r_208, rfl, rfl, e208, r208_0⟩ := hQ208
  try replace X208 := own_nil X208
  refine Go.by' st208 ?_
  show Go p.tables e below Pf (T208.setTop (mkF m 31 #[vr sa, vr sb, vi (0 : Int32)] [(.int r_208)]))
  refine Go.by' (fun t k => (XS.goto X208.here hx rfl (pc0 := 31) (pc' := 45) rfl (hb hby d21_31) (by decide) (by decide) k)) ?_
  show Go p.tables e below Pf (T208.setTop (mkF m 45 #[vr sa, vr sb, vi (0 : Int32)] [(.int r_208)]))
  rw [hPf]
  exact Go.retI' X208 hx hret hlk (by simp) rfl (hb hby d21_45) (by decide) (by decide) ⟨r_208, rfl, rfl, e208, r208_0⟩
theorem d19_0 : decode jdk_42_method_97_code 0 = .ok (.aload_n 0, 1) := by decide +kernel
theorem d19_1 : decode jdk_42_method_97_code 1 = .ok (.aload_n 1, 1) := by decide +kernel
theorem d19_2 : decode jdk_42_method_97_code 2 = .ok (.invokeinterface 710 1, 5) := by decide +kernel
theorem pd_15 : parseMethodDescriptor "()Ljava/lang/String;" = some ⟨[], some (.object "java/lang/String")⟩ := by decide +kernel
abbrev own_y24 : MethodName := ⟨"java/lang/CharSequence", "toString", "()Ljava/lang/String;"⟩
theorem d19_7 : decode jdk_42_method_97_code 7 = .ok (.invokevirtual 711, 3) := by decide +kernel
theorem pd_16 : parseMethodDescriptor "(Ljava/lang/String;)I" = some ⟨[(.object "java/lang/String")], some .int⟩ := by decide +kernel
theorem d19_10 : decode jdk_42_method_97_code 10 = .ok (.ifCond .lt 7, 3) := by decide +kernel
theorem d19_13 : decode jdk_42_method_97_code 13 = .ok (.iconst 1, 1) := by decide +kernel
theorem d19_14 : decode jdk_42_method_97_code 14 = .ok (.goto 4, 3) := by decide +kernel
theorem d19_18 : decode jdk_42_method_97_code 18 = .ok (.ireturn, 1) := by decide +kernel
theorem d19_17 : decode jdk_42_method_97_code 17 = .ok (.iconst 0, 1) := by decide +kernel
theorem pn_19 : plainName "java/lang/String" = true := by first | (simp [plainName, overriddenIn]; done) | decide +kernel
theorem ef_rmCn_1 (m : MethodId) {sa : Addr} {sb : Addr} : entryFrame m #[(.ref sa), (.ref sb)] 2 = mkF m 0 #[vr sa, vr sb] [] := by first | (simp [entryFrame, mkF, argsToLocals, Value.category]; done) | rfl
abbrev own_y25 : MethodName := ⟨"java/lang/String", "contains", "(Ljava/lang/CharSequence;)Z"⟩
def QrmCn_1 (Z : State) (vcs : Int32) (wI : Addr) (wA : Addr) (cA : Cell) (sa : Addr) (sb : Addr) (va : Addr) (vb : Addr) (ka : ClassId) (kb : ClassId) (x0 : Int32) (h0 : Heap) (n0 : Nat) (v : Option Value) (h : Heap) (L : List Loc) : Prop := ∃ (r : Int32), (v = some (.int r)) ∧ (L = []) ∧ (h = h0) ∧ (((x0 = (44 : Int32)) ∧ r = (1 : Int32)) ∨ (¬ (x0 = (44 : Int32)) ∧ r = (0 : Int32)))
theorem rmCn_1 (l : Launch) (Z : State) (a0 : Array Value) (hw : ∀ d ∈ tables_1, d.before a0 Z = true) (ws : List Jvm.Cond) (vcs : Int32) (wI : Addr) (wA : Addr) (cA : Cell) (G : Gh Z vcs wI wA cA) (sa : Addr) (sb : Addr) (va : Addr) (vb : Addr) (ka : ClassId) (kb : ClassId) (x0 : Int32) (h0 : Heap) (n0 : Nat) (O0 : Old Z n0 h0) (EA : Exa Z h0 sa "java/lang/String") (FA : Fld Z h0 sa "java/lang/String" "value" "[B" (.ref va)) (CA : Fld Z h0 sa "java/lang/String" "coder" "B" (.int (0 : Int32))) (VA : Arv Z h0 va ka .byte (1 : Int32) [(.int x0)] (.int (0 : Int32))) (EB : Exa Z h0 sb "java/lang/String") (FB : Fld Z h0 sb "java/lang/String" "value" "[B" (.ref vb)) (CB : Fld Z h0 sb "java/lang/String" "coder" "B" (.int (0 : Int32))) (VB : Arv Z h0 vb kb .byte (1 : Int32) [(.int (44 : Int32))] (.int (0 : Int32))) :
    MetFree l own_y25 (head1 (Jvm.Cond.code own_y25 jdk_42_method_97_code 2 (some .boolean) :: ws) ({ frames := 3, cells := 0, slots := 0, locals := 49 } : Room)) (fun aa' UU' => aa' = #[(.ref sa), (.ref sb)] ∧ Z.Warmed39 UU'.vm ∧ UU'.heap = h0) (fun _ _ _ _ _ => True) (fun _ UU' oo' VV' => ∃ v' L', oo' = .returned v' ∧ QrmCn_1 Z vcs wI wA cA sa sb va vb ka kb x0 h0 n0 v' VV'.heap L' ∧ FrameEnd UU' oo' VV' L' ({ frames := 3, cells := 0, slots := 0, locals := 49 } : Room).cells ({ frames := 3, cells := 0, slots := 0, locals := 49 } : Room).slots) := by
  refine MetFree.of_bodySF (plainFor_of_name pn_19) hisR ?_
  intro p e s m args below meth c s₁ Bd hml0 hP hK
  obtain ⟨rfl, hZ, hh⟩ := hP
  have hml : c.maxLocals = 2 := hml0
  obtain ⟨hx, hby, hlk, hown, hnm, hret, X0, e0⟩ := own_hd Bd hh
  have N0 := Fr.nil n0
  refine Go.body ?_
  obtain ⟨Pf, hPf⟩ : ∃ P, P = Fin' s below ({ frames := 3, cells := 0, slots := 0, locals := 49 } : Room).cells ({ frames := 3, cells := 0, slots := 0, locals := 49 } : Room).slots (QrmCn_1 Z vcs wI wA cA sa sb va vb ka kb x0 h0 n0) := ⟨_, rfl⟩
  rw [← hPf]
  refine Go.cast (ef_rmCn_1 m) ?_
  have hw3 := own_w hw 3 rfl
  have hw93 := own_w hw 93 rfl
  have hw94 := own_w hw 94 rfl
  have hw95 := own_w hw 95 rfl
  have hw96 := own_w hw 96 rfl
  have hw97 := own_w hw 97 rfl
  have hw98 := own_w hw 98 rfl
  have hw99 := own_w hw 99 rfl
  have hw100 := own_w hw 100 rfl
  have hw101 := own_w hw 101 rfl
  have hw102 := own_w hw 102 rfl
  have hw103 := own_w hw 103 rfl
  have hw104 := own_w hw 104 rfl
  have hw105 := own_w hw 105 rfl
  have hw106 := own_w hw 106 rfl
  show Go p.tables e below Pf (s₁.setTop (mkF m 0 #[vr sa, vr sb] []))
  refine Go.by' (fun t k => (XS.aloadN X0.here hx rfl (hb hby d19_0) rfl rfl (XS.aloadN X0.here hx rfl (hb hby d19_1) rfl rfl k))) ?_
  obtain ⟨cq209, kq209, q209a, q209b, q209c⟩ := isOf hZ e0 EB
  obtain ⟨_, _, ⟨T209, L209, k209, n209⟩, -, X209, ⟨Lc209, hQ209, l209, y209, z209⟩, st209⟩ := X0.interfaceBack hx (xi := own_y24) (y := own_y18) hown (mvT hZ hw93) (mvT hZ hw94) (mvT hZ hw95) (mvT hZ hw96) (mvT hZ hw97) (mvT hZ hw98) (mvT hZ hw99) (mvT hZ hw100) (by decide) (backOf (W := 1) (rmTo l Z a0 hw [] vcs wI wA cA G sb h0 n0 O0 ) hZ hw101 hw3 (by decide) (by decide)) q209a q209b q209c (g := (mkF m 2 #[vr sa, vr sb] [(.ref sb), (.ref sa)])) rfl (by rw [hml]; rfl) (Steps.refl _) (argsL := []) (rest := [(.ref sa)]) (lenOf pd_15 rfl) rfl (Nat.le_of_eq rfl) (hb hby d19_2) (fun _ _ => ⟨rfl, e0, (by decide : 0 + 0 ≤ _), (by decide : 0 + 0 ≤ _)⟩)
  dsimp only [Pt.U, Pt.locs, Pt.cells, Pt.slots] at X209 l209 y209 z209 st209 hQ209
  subst l209 y209 z209
  obtain ⟨rfl, rfl, e209⟩ := hQ209
  try replace X209 := own_nil X209
  refine Go.by' (fun t k => st209.trans k) ?_
  obtain ⟨cq210, kq210, q210a, q210b, q210c⟩ := isOf hZ e209 EA
  obtain ⟨_, _, ⟨T210, L210, k210, n210⟩, -, X210, ⟨Lc210, hQ210, l210, y210, z210⟩, st210⟩ := X209.virtualBack hx (y := own_y23) (z := own_y23) hown (mvT hZ hw102) (mvT hZ hw103) (notFace_of_selects (args := #[]) (mvT hZ hw105)) (mvT hZ hw105) (mvT hZ hw104) (by decide) (backOf (W := 0) (rmI1_1 l Z a0 hw [] vcs wI wA cA G sa sb va vb ka kb x0 h0 n0 O0 EA FA CA VA EB FB CB VB) hZ hw106 hw3 (by decide) (by decide)) q210a q210c (g := (mkF m 7 #[vr sa, vr sb] [(.ref sb), (.ref sa)])) rfl (by rw [hml]; rfl) (Steps.refl _) (argsL := [(.ref sb)]) (rest := []) (lenOf pd_16 rfl) rfl (Nat.le_of_eq rfl) (hb hby d19_7) (fun _ _ => ⟨rfl, e209, (by decide : 0 + 0 ≤ _), (by decide : 0 + 0 ≤ _)⟩)
  dsimp only [Pt.U, Pt.locs, Pt.cells, Pt.slots] at X210 l210 y210 z210 st210 hQ210
  subst l210 y210 z210
  obtain ⟨r_210, rfl, rfl, e210, r210_0⟩ := hQ210
  try replace X210 := own_nil X210
  refine Go.by' (fun t k => st210.trans k) ?_
  rcases r210_0 with ⟨hE210, hl210⟩ | ⟨hE210, hl210⟩
  · show Go p.tables e below Pf (T210.setTop (mkF m 10 #[vr sa, vr sb] [(.int r_210)]))
    refine Go.by' (fun t k => (XS.ifNo X210.here hx rfl (hb hby d19_10) rfl ((if0 _ _).trans (flt hl210).1) (XS.iconst X210.here hx rfl (hb hby d19_13) (XS.goto X210.here hx rfl (pc0 := 14) (pc' := 18) rfl (hb hby d19_14) (by decide) (by decide) k)))) ?_
    show Go p.tables e below Pf (T210.setTop (mkF m 18 #[vr sa, vr sb] [(.int (1 : Int32))]))
    rw [hPf]
    exact Go.retI' X210 hx hret hlk (by simp) rfl (hb hby d19_18) (by decide) (by decide) ⟨(1 : Int32), rfl, rfl, e210, (Or.inl ⟨hE210, rfl⟩)⟩
  · show Go p.tables e below Pf (T210.setTop (mkF m 10 #[vr sa, vr sb] [(.int r_210)]))
    refine Go.by' (fun t k => (XS.ifYes X210.here hx rfl (pc0 := 10) (pc' := 17) rfl (hb hby d19_10) rfl ((if0 _ _).trans (tlt hl210).1) (by decide) (by decide) (XS.iconst X210.here hx rfl (hb hby d19_17) k))) ?_
    show Go p.tables e below Pf (T210.setTop (mkF m 18 #[vr sa, vr sb] [(.int (0 : Int32))]))
    rw [hPf]
    exact Go.retI' X210 hx hret hlk (by simp) rfl (hb hby d19_18) (by decide) (by decide) ⟨(0 : Int32), rfl, rfl, e210, (Or.inr ⟨hE210, rfl⟩)⟩
theorem d28_0 : decode jdk_48_method_14_code 0 = .ok (.iconst 0, 1) := by decide +kernel
theorem d28_1 : decode jdk_48_method_14_code 1 = .ok (.istore 5, 2) := by decide +kernel
theorem d28_3 : decode jdk_48_method_14_code 3 = .ok (.iload 4, 2) := by decide +kernel
theorem d28_5 : decode jdk_48_method_14_code 5 = .ok (.bipush 7, 2) := by decide +kernel
theorem d28_7 : decode jdk_48_method_14_code 7 = .ok (.if_icmp .le 63, 3) := by decide +kernel
theorem d28_70 : decode jdk_48_method_14_code 70 = .ok (.iload 5, 2) := by decide +kernel
theorem d28_72 : decode jdk_48_method_14_code 72 = .ok (.iload 4, 2) := by decide +kernel
theorem d28_74 : decode jdk_48_method_14_code 74 = .ok (.if_icmp .ge 27, 3) := by decide +kernel
theorem d28_77 : decode jdk_48_method_14_code 77 = .ok (.aload_n 0, 1) := by decide +kernel
theorem d28_78 : decode jdk_48_method_14_code 78 = .ok (.iload_n 1, 1) := by decide +kernel
theorem d28_79 : decode jdk_48_method_14_code 79 = .ok (.iload 5, 2) := by decide +kernel
theorem d28_81 : decode jdk_48_method_14_code 81 = .ok (.iadd, 1) := by decide +kernel
theorem d28_82 : decode jdk_48_method_14_code 82 = .ok (.baload, 1) := by decide +kernel
theorem d28_83 : decode jdk_48_method_14_code 83 = .ok (.aload_n 2, 1) := by decide +kernel
theorem d28_84 : decode jdk_48_method_14_code 84 = .ok (.iload_n 3, 1) := by decide +kernel
theorem d28_85 : decode jdk_48_method_14_code 85 = .ok (.iload 5, 2) := by decide +kernel
theorem d28_87 : decode jdk_48_method_14_code 87 = .ok (.iadd, 1) := by decide +kernel
theorem d28_88 : decode jdk_48_method_14_code 88 = .ok (.baload, 1) := by decide +kernel
theorem d28_89 : decode jdk_48_method_14_code 89 = .ok (.if_icmp .eq 6, 3) := by decide +kernel
theorem d28_95 : decode jdk_48_method_14_code 95 = .ok (.iinc 5 1, 3) := by decide +kernel
theorem d28_98 : decode jdk_48_method_14_code 98 = .ok (.goto (-28), 3) := by decide +kernel
theorem d28_101 : decode jdk_48_method_14_code 101 = .ok (.iconst (-1), 1) := by decide +kernel
theorem d28_102 : decode jdk_48_method_14_code 102 = .ok (.ireturn, 1) := by decide +kernel
theorem d28_92 : decode jdk_48_method_14_code 92 = .ok (.iload 5, 2) := by decide +kernel
theorem d28_94 : decode jdk_48_method_14_code 94 = .ok (.ireturn, 1) := by decide +kernel
theorem pn_28 : plainName "jdk/internal/util/ArraysSupport" = true := by first | (simp [plainName, overriddenIn]; done) | decide +kernel
theorem ef_rmMm_1 (m : MethodId) {va : Addr} {vb : Addr} : entryFrame m #[(.ref va), (.int (0 : Int32)), (.ref vb), (.int (0 : Int32)), (.int (1 : Int32))] 8 = mkF m 0 #[vr va, vi (0 : Int32), vr vb, vi (0 : Int32), vi (1 : Int32), .unset, .unset, .unset] [] := by first | (simp [entryFrame, mkF, argsToLocals, Value.category]; done) | rfl
abbrev own_y26 : MethodName := ⟨"jdk/internal/util/ArraysSupport", "mismatch", "([BI[BII)I"⟩
def QrmMm_1 (Z : State) (vcs : Int32) (wI : Addr) (wA : Addr) (cA : Cell) (va : Addr) (vb : Addr) (ka : ClassId) (kb : ClassId) (x0 : Int32) (h0 : Heap) (n0 : Nat) (v : Option Value) (h : Heap) (L : List Loc) : Prop := ∃ (r : Int32), (v = some (.int r)) ∧ (L = []) ∧ (h = h0) ∧ ((x0 = (33 : Int32) ∧ r = (-1 : Int32)) ∨ (¬ (x0 = (33 : Int32)) ∧ r = (0 : Int32)))
theorem rmMm_1 (l : Launch) (Z : State) (a0 : Array Value) (hw : ∀ d ∈ tables_1, d.before a0 Z = true) (ws : List Jvm.Cond) (vcs : Int32) (wI : Addr) (wA : Addr) (cA : Cell) (G : Gh Z vcs wI wA cA) (va : Addr) (vb : Addr) (ka : ClassId) (kb : ClassId) (x0 : Int32) (h0 : Heap) (n0 : Nat) (O0 : Old Z n0 h0) (VA : Arv Z h0 va ka .byte (1 : Int32) [(.int x0)] (.int (0 : Int32))) (VB : Arv Z h0 vb kb .byte (1 : Int32) [(.int (33 : Int32))] (.int (0 : Int32))) :
    MetFree l own_y26 (head1 (Jvm.Cond.code own_y26 jdk_48_method_14_code 8 (some .int) :: ws) ({ frames := 0, cells := 0, slots := 0, locals := 0 } : Room)) (fun aa' UU' => aa' = #[(.ref va), (.int (0 : Int32)), (.ref vb), (.int (0 : Int32)), (.int (1 : Int32))] ∧ Z.Warmed39 UU'.vm ∧ UU'.heap = h0) (fun _ _ _ _ _ => True) (fun _ UU' oo' VV' => ∃ v' L', oo' = .returned v' ∧ QrmMm_1 Z vcs wI wA cA va vb ka kb x0 h0 n0 v' VV'.heap L' ∧ FrameEnd UU' oo' VV' L' ({ frames := 0, cells := 0, slots := 0, locals := 0 } : Room).cells ({ frames := 0, cells := 0, slots := 0, locals := 0 } : Room).slots) := by
  refine MetFree.of_bodySF (plainFor_of_name pn_28) hisR ?_
  intro p e s m args below meth c s₁ Bd hml0 hP hK
  obtain ⟨rfl, hZ, hh⟩ := hP
  have hml : c.maxLocals = 8 := hml0
  obtain ⟨hx, hby, hlk, hown, hnm, hret, X0, e0⟩ := own_hd Bd hh
  have N0 := Fr.nil n0
  refine Go.body ?_
  obtain ⟨Pf, hPf⟩ : ∃ P, P = Fin' s below ({ frames := 0, cells := 0, slots := 0, locals := 0 } : Room).cells ({ frames := 0, cells := 0, slots := 0, locals := 0 } : Room).slots (QrmMm_1 Z vcs wI wA cA va vb ka kb x0 h0 n0) := ⟨_, rfl⟩
  rw [← hPf]
  refine Go.cast (ef_rmMm_1 m) ?_
  show Go p.tables e below Pf (s₁.setTop (mkF m 0 #[vr va, vi (0 : Int32), vr vb, vi (0 : Int32), vi (1 : Int32), .unset, .unset, .unset] []))
  refine Go.by' (fun t k => (XS.iconst X0.here hx rfl (hb hby d28_0) (XS.istore X0.here hx rfl (hb hby d28_1) rfl (l' := #[vr va, vi (0 : Int32), vr vb, vi (0 : Int32), vi (1 : Int32), vi (0 : Int32), .unset, .unset]) rfl (XS.iload X0.here hx rfl (hb hby d28_3) rfl (XS.bipush X0.here hx rfl (hb hby d28_5) (XS.icmpYes X0.here hx rfl (pc0 := 7) (pc' := 70) rfl (hb hby d28_7) rfl (flt (by decide)).2.2.2 (by decide) (by decide) (XS.iload X0.here hx rfl (hb hby d28_70) rfl (XS.iload X0.here hx rfl (hb hby d28_72) rfl (XS.icmpNo X0.here hx rfl (hb hby d28_74) rfl (tlt (by decide)).2.1 k))))))))) ?_
  show Go p.tables e below Pf (s₁.setTop (mkF m 77 #[vr va, vi (0 : Int32), vr vb, vi (0 : Int32), vi (1 : Int32), vi (0 : Int32), .unset, .unset] []))
  refine Go.by' (fun t k => (XS.aloadN X0.here hx rfl (hb hby d28_77) rfl rfl (XS.iloadN X0.here hx rfl (hb hby d28_78) rfl (XS.iload X0.here hx rfl (hb hby d28_79) rfl (XS.iadd X0.here hx rfl (hb hby d28_81) rfl (own_bal X0 hx hZ e0 VA (j := (0 : Int32)) (v := (.int x0)) ⟨by decide, by decide⟩ rfl rfl rfl (hb hby d28_82) (XS.aloadN X0.here hx rfl (hb hby d28_83) rfl rfl (XS.iloadN X0.here hx rfl (hb hby d28_84) rfl (XS.iload X0.here hx rfl (hb hby d28_85) rfl k))))))))) ?_
  show Go p.tables e below Pf (s₁.setTop (mkF m 87 #[vr va, vi (0 : Int32), vr vb, vi (0 : Int32), vi (1 : Int32), vi (0 : Int32), .unset, .unset] [(.int (0 : Int32)), (.int (0 : Int32)), (.ref vb), (.int x0)]))
  refine Go.by' (fun t k => (XS.iadd X0.here hx rfl (hb hby d28_87) rfl (own_bal X0 hx hZ e0 VB (j := (0 : Int32)) (v := (.int (33 : Int32))) ⟨by decide, by decide⟩ rfl rfl rfl (hb hby d28_88) k))) ?_
  show Go p.tables e below Pf (s₁.setTop (mkF m 89 #[vr va, vi (0 : Int32), vr vb, vi (0 : Int32), vi (1 : Int32), vi (0 : Int32), .unset, .unset] [(.int (33 : Int32)), (.int x0)]))
  by_cases hc213 : x0 = (33 : Int32)
  · refine Go.by' (fun t k => (XS.icmpYes X0.here hx rfl (pc0 := 89) (pc' := 95) rfl (hb hby d28_89) rfl (teq hc213).1 (by decide) (by decide) (XS.iinc X0.here hx rfl (hb hby d28_95) rfl (l' := #[vr va, vi (0 : Int32), vr vb, vi (0 : Int32), vi (1 : Int32), vi (1 : Int32), .unset, .unset]) rfl (XS.goto X0.here hx rfl (pc0 := 98) (pc' := 70) rfl (hb hby d28_98) (by decide) (by decide) (XS.iload X0.here hx rfl (hb hby d28_70) rfl (XS.iload X0.here hx rfl (hb hby d28_72) rfl (XS.icmpYes X0.here hx rfl (pc0 := 74) (pc' := 101) rfl (hb hby d28_74) rfl (flt (by decide)).2.1 (by decide) (by decide) (XS.iconst X0.here hx rfl (hb hby d28_101) k)))))))) ?_
    show Go p.tables e below Pf (s₁.setTop (mkF m 102 #[vr va, vi (0 : Int32), vr vb, vi (0 : Int32), vi (1 : Int32), vi (1 : Int32), .unset, .unset] [(.int (-1 : Int32))]))
    rw [hPf]
    exact Go.retI' X0 hx hret hlk (by simp) rfl (hb hby d28_102) (by decide) (by decide) ⟨(-1 : Int32), rfl, rfl, e0, (Or.inl ⟨hc213, rfl⟩)⟩
  · refine Go.by' (fun t k => (XS.icmpNo X0.here hx rfl (hb hby d28_89) rfl (feq hc213).1 (XS.iload X0.here hx rfl (hb hby d28_92) rfl k))) ?_
    show Go p.tables e below Pf (s₁.setTop (mkF m 94 #[vr va, vi (0 : Int32), vr vb, vi (0 : Int32), vi (1 : Int32), vi (0 : Int32), .unset, .unset] [(.int (0 : Int32))]))
    rw [hPf]
    exact Go.retI' X0 hx hret hlk (by simp) rfl (hb hby d28_94) (by decide) (by decide) ⟨(0 : Int32), rfl, rfl, e0, (Or.inr ⟨hc213, rfl⟩)⟩
theorem d26_0 : decode jdk_42_method_75_code 0 = .ok (.iload_n 2, 1) := by decide +kernel
theorem d26_1 : decode jdk_42_method_75_code 1 = .ok (.ifCond .lt 16, 3) := by decide +kernel
theorem d26_4 : decode jdk_42_method_75_code 4 = .ok (.iload_n 2, 1) := by decide +kernel
theorem d26_5 : decode jdk_42_method_75_code 5 = .ok (.aload_n 0, 1) := by decide +kernel
theorem d26_6 : decode jdk_42_method_75_code 6 = .ok (.invokevirtual 505, 3) := by decide +kernel
theorem pd_17 : parseMethodDescriptor "()I" = some ⟨[], some .int⟩ := by decide +kernel
theorem d26_9 : decode jdk_42_method_75_code 9 = .ok (.aload_n 1, 1) := by decide +kernel
theorem d26_10 : decode jdk_42_method_75_code 10 = .ok (.invokevirtual 505, 3) := by decide +kernel
theorem d26_13 : decode jdk_42_method_75_code 13 = .ok (.isub, 1) := by decide +kernel
theorem d26_14 : decode jdk_42_method_75_code 14 = .ok (.if_icmp .le 5, 3) := by decide +kernel
theorem d26_19 : decode jdk_42_method_75_code 19 = .ok (.aload_n 0, 1) := by decide +kernel
theorem d26_20 : decode jdk_42_method_75_code 20 = .ok (.getfield 9, 3) := by decide +kernel
theorem d26_23 : decode jdk_42_method_75_code 23 = .ok (.astore_n 3, 1) := by decide +kernel
theorem d26_24 : decode jdk_42_method_75_code 24 = .ok (.aload_n 1, 1) := by decide +kernel
theorem d26_25 : decode jdk_42_method_75_code 25 = .ok (.getfield 9, 3) := by decide +kernel
theorem d26_28 : decode jdk_42_method_75_code 28 = .ok (.astore 4, 2) := by decide +kernel
theorem d26_30 : decode jdk_42_method_75_code 30 = .ok (.iconst 0, 1) := by decide +kernel
theorem d26_31 : decode jdk_42_method_75_code 31 = .ok (.istore 5, 2) := by decide +kernel
theorem d26_33 : decode jdk_42_method_75_code 33 = .ok (.aload 4, 2) := by decide +kernel
theorem d26_35 : decode jdk_42_method_75_code 35 = .ok (.arraylength, 1) := by decide +kernel
theorem d26_36 : decode jdk_42_method_75_code 36 = .ok (.istore 6, 2) := by decide +kernel
theorem d26_38 : decode jdk_42_method_75_code 38 = .ok (.aload_n 0, 1) := by decide +kernel
theorem d26_39 : decode jdk_42_method_75_code 39 = .ok (.invokevirtual 335, 3) := by decide +kernel
theorem d26_42 : decode jdk_42_method_75_code 42 = .ok (.istore 7, 2) := by decide +kernel
theorem d26_44 : decode jdk_42_method_75_code 44 = .ok (.iload 7, 2) := by decide +kernel
theorem d26_46 : decode jdk_42_method_75_code 46 = .ok (.aload_n 1, 1) := by decide +kernel
theorem d26_47 : decode jdk_42_method_75_code 47 = .ok (.invokevirtual 335, 3) := by decide +kernel
theorem d26_50 : decode jdk_42_method_75_code 50 = .ok (.if_icmp .ne 32, 3) := by decide +kernel
theorem d26_53 : decode jdk_42_method_75_code 53 = .ok (.iload 7, 2) := by decide +kernel
theorem d26_55 : decode jdk_42_method_75_code 55 = .ok (.iconst 1, 1) := by decide +kernel
theorem d26_56 : decode jdk_42_method_75_code 56 = .ok (.if_icmp .ne 7, 3) := by decide +kernel
theorem d26_63 : decode jdk_42_method_75_code 63 = .ok (.aload_n 3, 1) := by decide +kernel
theorem d26_64 : decode jdk_42_method_75_code 64 = .ok (.iload_n 2, 1) := by decide +kernel
theorem d26_65 : decode jdk_42_method_75_code 65 = .ok (.aload 4, 2) := by decide +kernel
theorem d26_67 : decode jdk_42_method_75_code 67 = .ok (.iconst 0, 1) := by decide +kernel
theorem d26_68 : decode jdk_42_method_75_code 68 = .ok (.iload 6, 2) := by decide +kernel
theorem d26_70 : decode jdk_42_method_75_code 70 = .ok (.invokestatic 607, 3) := by decide +kernel
theorem d26_73 : decode jdk_42_method_75_code 73 = .ok (.ifCond .ge 7, 3) := by decide +kernel
theorem d26_76 : decode jdk_42_method_75_code 76 = .ok (.iconst 1, 1) := by decide +kernel
theorem d26_77 : decode jdk_42_method_75_code 77 = .ok (.goto 4, 3) := by decide +kernel
theorem d26_81 : decode jdk_42_method_75_code 81 = .ok (.ireturn, 1) := by decide +kernel
theorem d26_80 : decode jdk_42_method_75_code 80 = .ok (.iconst 0, 1) := by decide +kernel
theorem pn_26 : plainName "java/lang/String" = true := by first | (simp [plainName, overriddenIn]; done) | decide +kernel
theorem ef_rmS2_1 (m : MethodId) {sa : Addr} {sb : Addr} : entryFrame m #[(.ref sa), (.ref sb), (.int (0 : Int32))] 8 = mkF m 0 #[vr sa, vr sb, vi (0 : Int32), .unset, .unset, .unset, .unset, .unset] [] := by first | (simp [entryFrame, mkF, argsToLocals, Value.category]; done) | rfl
abbrev own_y27 : MethodName := ⟨"java/lang/String", "startsWith", "(Ljava/lang/String;I)Z"⟩
def QrmS2_1 (Z : State) (vcs : Int32) (wI : Addr) (wA : Addr) (cA : Cell) (sa : Addr) (sb : Addr) (va : Addr) (vb : Addr) (ka : ClassId) (kb : ClassId) (x0 : Int32) (h0 : Heap) (n0 : Nat) (v : Option Value) (h : Heap) (L : List Loc) : Prop := ∃ (r : Int32), (v = some (.int r)) ∧ (L = []) ∧ (h = h0) ∧ ((x0 = (33 : Int32) ∧ r = (1 : Int32)) ∨ (¬ (x0 = (33 : Int32)) ∧ r = (0 : Int32)))
theorem rmS2_1 (l : Launch) (Z : State) (a0 : Array Value) (hw : ∀ d ∈ tables_1, d.before a0 Z = true) (ws : List Jvm.Cond) (vcs : Int32) (wI : Addr) (wA : Addr) (cA : Cell) (G : Gh Z vcs wI wA cA) (sa : Addr) (sb : Addr) (va : Addr) (vb : Addr) (ka : ClassId) (kb : ClassId) (x0 : Int32) (h0 : Heap) (n0 : Nat) (O0 : Old Z n0 h0) (EA : Exa Z h0 sa "java/lang/String") (FA : Fld Z h0 sa "java/lang/String" "value" "[B" (.ref va)) (CA : Fld Z h0 sa "java/lang/String" "coder" "B" (.int (0 : Int32))) (VA : Arv Z h0 va ka .byte (1 : Int32) [(.int x0)] (.int (0 : Int32))) (EB : Exa Z h0 sb "java/lang/String") (FB : Fld Z h0 sb "java/lang/String" "value" "[B" (.ref vb)) (CB : Fld Z h0 sb "java/lang/String" "coder" "B" (.int (0 : Int32))) (VB : Arv Z h0 vb kb .byte (1 : Int32) [(.int (33 : Int32))] (.int (0 : Int32))) :
    MetFree l own_y27 (head1 (Jvm.Cond.code own_y27 jdk_42_method_75_code 8 (some .boolean) :: ws) ({ frames := 2, cells := 0, slots := 0, locals := 27 } : Room)) (fun aa' UU' => aa' = #[(.ref sa), (.ref sb), (.int (0 : Int32))] ∧ Z.Warmed39 UU'.vm ∧ UU'.heap = h0) (fun _ _ _ _ _ => True) (fun _ UU' oo' VV' => ∃ v' L', oo' = .returned v' ∧ QrmS2_1 Z vcs wI wA cA sa sb va vb ka kb x0 h0 n0 v' VV'.heap L' ∧ FrameEnd UU' oo' VV' L' ({ frames := 2, cells := 0, slots := 0, locals := 27 } : Room).cells ({ frames := 2, cells := 0, slots := 0, locals := 27 } : Room).slots) := by
  refine MetFree.of_bodySF (plainFor_of_name pn_26) hisR ?_
  intro p e s m args below meth c s₁ Bd hml0 hP hK
  obtain ⟨rfl, hZ, hh⟩ := hP
  have hml : c.maxLocals = 8 := hml0
  obtain ⟨hx, hby, hlk, hown, hnm, hret, X0, e0⟩ := own_hd Bd hh
  have N0 := Fr.nil n0
  refine Go.body ?_
  obtain ⟨Pf, hPf⟩ : ∃ P, P = Fin' s below ({ frames := 2, cells := 0, slots := 0, locals := 27 } : Room).cells ({ frames := 2, cells := 0, slots := 0, locals := 27 } : Room).slots (QrmS2_1 Z vcs wI wA cA sa sb va vb ka kb x0 h0 n0) := ⟨_, rfl⟩
  rw [← hPf]
  refine Go.cast (ef_rmS2_1 m) ?_
  have hw3 := own_w hw 3 rfl
  have hw20 := own_w hw 20 rfl
  have hw107 := own_w hw 107 rfl
  have hw108 := own_w hw 108 rfl
  have hw109 := own_w hw 109 rfl
  have hw110 := own_w hw 110 rfl
  have hw111 := own_w hw 111 rfl
  have hw129 := own_w hw 129 rfl
  have hw130 := own_w hw 130 rfl
  have hw131 := own_w hw 131 rfl
  have hw132 := own_w hw 132 rfl
  have hw133 := own_w hw 133 rfl
  have hw134 := own_w hw 134 rfl
  have hw135 := own_w hw 135 rfl
  have hw136 := own_w hw 136 rfl
  have hw137 := own_w hw 137 rfl
  show Go p.tables e below Pf (s₁.setTop (mkF m 0 #[vr sa, vr sb, vi (0 : Int32), .unset, .unset, .unset, .unset, .unset] []))
  refine Go.by' (fun t k => (XS.iloadN X0.here hx rfl (hb hby d26_0) rfl (XS.ifNo X0.here hx rfl (hb hby d26_1) rfl ((if0 _ _).trans (flt (by decide)).1) (XS.iloadN X0.here hx rfl (hb hby d26_4) rfl (XS.aloadN X0.here hx rfl (hb hby d26_5) rfl rfl k))))) ?_
  obtain ⟨cq214, kq214, q214a, q214b, q214c⟩ := isOf hZ e0 EA
  obtain ⟨_, _, ⟨T214, L214, k214, n214⟩, -, X214, ⟨Lc214, hQ214, l214, y214, z214⟩, st214⟩ := X0.virtualBack hx (y := own_y19) (z := own_y19) hown (mvT hZ hw129) (mvT hZ hw130) (notFace_of_selects (args := #[]) (mvT hZ hw132)) (mvT hZ hw132) (mvT hZ hw131) (by decide) (backOf (W := 1) (rmLn l Z a0 hw [] vcs wI wA cA G sa va ka ((1 : Int32)) ([(Value.int x0)]) h0 n0 O0 EA FA CA VA) hZ hw133 hw3 (by decide) (by decide)) q214a q214c (g := (mkF m 6 #[vr sa, vr sb, vi (0 : Int32), .unset, .unset, .unset, .unset, .unset] [(.ref sa), (.int (0 : Int32))])) rfl (by rw [hml]; rfl) (Steps.refl _) (argsL := []) (rest := [(.int (0 : Int32))]) (lenOf pd_17 rfl) rfl (Nat.le_of_eq rfl) (hb hby d26_6) (fun _ _ => ⟨rfl, e0, (by decide : 0 + 0 ≤ _), (by decide : 0 + 0 ≤ _)⟩)
  dsimp only [Pt.U, Pt.locs, Pt.cells, Pt.slots] at X214 l214 y214 z214 st214 hQ214
  subst l214 y214 z214
  obtain ⟨rfl, rfl, e214⟩ := hQ214
  try replace X214 := own_nil X214
  refine Go.by' (fun t k => st214.trans k) ?_
  show Go p.tables e below Pf (T214.setTop (mkF m 9 #[vr sa, vr sb, vi (0 : Int32), .unset, .unset, .unset, .unset, .unset] [(.int (1 : Int32)), (.int (0 : Int32))]))
  refine Go.by' (fun t k => (XS.aloadN X214.here hx rfl (hb hby d26_9) rfl rfl k)) ?_
  obtain ⟨cq215, kq215, q215a, q215b, q215c⟩ := isOf hZ e214 EB
  obtain ⟨_, _, ⟨T215, L215, k215, n215⟩, -, X215, ⟨Lc215, hQ215, l215, y215, z215⟩, st215⟩ := X214.virtualBack hx (y := own_y19) (z := own_y19) hown (mvT hZ hw129) (mvT hZ hw130) (notFace_of_selects (args := #[]) (mvT hZ hw132)) (mvT hZ hw132) (mvT hZ hw131) (by decide) (backOf (W := 2) (rmLn l Z a0 hw [] vcs wI wA cA G sb vb kb ((1 : Int32)) ([(Value.int (33 : Int32))]) h0 n0 O0 EB FB CB VB) hZ hw133 hw3 (by decide) (by decide)) q215a q215c (g := (mkF m 10 #[vr sa, vr sb, vi (0 : Int32), .unset, .unset, .unset, .unset, .unset] [(.ref sb), (.int (1 : Int32)), (.int (0 : Int32))])) rfl (by rw [hml]; rfl) (Steps.refl _) (argsL := []) (rest := [(.int (1 : Int32)), (.int (0 : Int32))]) (lenOf pd_17 rfl) rfl (Nat.le_of_eq rfl) (hb hby d26_10) (fun _ _ => ⟨rfl, e214, (by decide : 0 + 0 ≤ _), (by decide : 0 + 0 ≤ _)⟩)
  dsimp only [Pt.U, Pt.locs, Pt.cells, Pt.slots] at X215 l215 y215 z215 st215 hQ215
  subst l215 y215 z215
  obtain ⟨rfl, rfl, e215⟩ := hQ215
  try replace X215 := own_nil X215
  refine Go.by' (fun t k => st215.trans k) ?_
  show Go p.tables e below Pf (T215.setTop (mkF m 13 #[vr sa, vr sb, vi (0 : Int32), .unset, .unset, .unset, .unset, .unset] [(.int (1 : Int32)), (.int (1 : Int32)), (.int (0 : Int32))]))
  refine Go.by' (fun t k => (XS.isub X215.here hx rfl (hb hby d26_13) rfl (XS.icmpYes X215.here hx rfl (pc0 := 14) (pc' := 19) rfl (hb hby d26_14) rfl (flt (by decide)).2.2.2 (by decide) (by decide) (XS.aloadN X215.here hx rfl (hb hby d26_19) rfl rfl k)))) ?_
  obtain ⟨T216, X216, e216, st216⟩ := getF X215 hx hZ hown (host := "") (Or.inl hw20) Via.refl e215 FA (g := (mkF m 20 #[vr sa, vr sb, vi (0 : Int32), .unset, .unset, .unset, .unset, .unset] [(.ref sa)])) rfl rfl (hb hby d26_20)
  refine Go.by' st216 ?_
  show Go p.tables e below Pf (T216.setTop (mkF m 23 #[vr sa, vr sb, vi (0 : Int32), .unset, .unset, .unset, .unset, .unset] [(.ref va)]))
  refine Go.by' (fun t k => (XS.astoreN X216.here hx rfl (hb hby d26_23) rfl rfl (l' := #[vr sa, vr sb, vi (0 : Int32), vr va, .unset, .unset, .unset, .unset]) rfl (XS.aloadN X216.here hx rfl (hb hby d26_24) rfl rfl k))) ?_
  obtain ⟨T217, X217, e217, st217⟩ := getF X216 hx hZ hown (host := "") (Or.inl hw20) Via.refl e216 FB (g := (mkF m 25 #[vr sa, vr sb, vi (0 : Int32), vr va, .unset, .unset, .unset, .unset] [(.ref sb)])) rfl rfl (hb hby d26_25)
  refine Go.by' st217 ?_
  show Go p.tables e below Pf (T217.setTop (mkF m 28 #[vr sa, vr sb, vi (0 : Int32), vr va, .unset, .unset, .unset, .unset] [(.ref vb)]))
  refine Go.by' (fun t k => (XS.astore X217.here hx rfl (hb hby d26_28) rfl rfl (l' := #[vr sa, vr sb, vi (0 : Int32), vr va, vr vb, .unset, .unset, .unset]) rfl (XS.iconst X217.here hx rfl (hb hby d26_30) (XS.istore X217.here hx rfl (hb hby d26_31) rfl (l' := #[vr sa, vr sb, vi (0 : Int32), vr va, vr vb, vi (0 : Int32), .unset, .unset]) rfl (XS.aload X217.here hx rfl (hb hby d26_33) rfl rfl (own_alen X217 hx hZ e217 VB rfl rfl (hb hby d26_35) (XS.istore X217.here hx rfl (hb hby d26_36) rfl (l' := #[vr sa, vr sb, vi (0 : Int32), vr va, vr vb, vi (0 : Int32), vi (1 : Int32), .unset]) rfl (XS.aloadN X217.here hx rfl (hb hby d26_38) rfl rfl k)))))))) ?_
  obtain ⟨cq219, kq219, q219a, q219b, q219c⟩ := isOf hZ e217 EA
  obtain ⟨_, _, ⟨T219, L219, k219, n219⟩, -, X219, ⟨Lc219, hQ219, l219, y219, z219⟩, st219⟩ := X217.virtualBack hx (y := own_y17) (z := own_y17) hown (mvT hZ hw107) (mvT hZ hw108) (notFace_of_selects (args := #[]) (mvT hZ hw110)) (mvT hZ hw110) (mvT hZ hw109) (by decide) (backOf (W := 0) (rmCo l Z a0 hw [] vcs wI wA cA G sa h0 n0 O0 CA) hZ hw111 hw3 (by decide) (by decide)) q219a q219c (g := (mkF m 39 #[vr sa, vr sb, vi (0 : Int32), vr va, vr vb, vi (0 : Int32), vi (1 : Int32), .unset] [(.ref sa)])) rfl (by rw [hml]; rfl) (Steps.refl _) (argsL := []) (rest := []) (lenOf pd_12 rfl) rfl (Nat.le_of_eq rfl) (hb hby d26_39) (fun _ _ => ⟨rfl, e217, (by decide : 0 + 0 ≤ _), (by decide : 0 + 0 ≤ _)⟩)
  dsimp only [Pt.U, Pt.locs, Pt.cells, Pt.slots] at X219 l219 y219 z219 st219 hQ219
  subst l219 y219 z219
  obtain ⟨rfl, rfl, e219⟩ := hQ219
  try replace X219 := own_nil X219
  refine Go.by' (fun t k => st219.trans k) ?_
  show Go p.tables e below Pf (T219.setTop (mkF m 42 #[vr sa, vr sb, vi (0 : Int32), vr va, vr vb, vi (0 : Int32), vi (1 : Int32), .unset] [(.int (0 : Int32))]))
  refine Go.by' (fun t k => (XS.istore X219.here hx rfl (hb hby d26_42) rfl (l' := #[vr sa, vr sb, vi (0 : Int32), vr va, vr vb, vi (0 : Int32), vi (1 : Int32), vi (0 : Int32)]) rfl (XS.iload X219.here hx rfl (hb hby d26_44) rfl (XS.aloadN X219.here hx rfl (hb hby d26_46) rfl rfl k)))) ?_
  obtain ⟨cq220, kq220, q220a, q220b, q220c⟩ := isOf hZ e219 EB
  obtain ⟨_, _, ⟨T220, L220, k220, n220⟩, -, X220, ⟨Lc220, hQ220, l220, y220, z220⟩, st220⟩ := X219.virtualBack hx (y := own_y17) (z := own_y17) hown (mvT hZ hw107) (mvT hZ hw108) (notFace_of_selects (args := #[]) (mvT hZ hw110)) (mvT hZ hw110) (mvT hZ hw109) (by decide) (backOf (W := 1) (rmCo l Z a0 hw [] vcs wI wA cA G sb h0 n0 O0 CB) hZ hw111 hw3 (by decide) (by decide)) q220a q220c (g := (mkF m 47 #[vr sa, vr sb, vi (0 : Int32), vr va, vr vb, vi (0 : Int32), vi (1 : Int32), vi (0 : Int32)] [(.ref sb), (.int (0 : Int32))])) rfl (by rw [hml]; rfl) (Steps.refl _) (argsL := []) (rest := [(.int (0 : Int32))]) (lenOf pd_12 rfl) rfl (Nat.le_of_eq rfl) (hb hby d26_47) (fun _ _ => ⟨rfl, e219, (by decide : 0 + 0 ≤ _), (by decide : 0 + 0 ≤ _)⟩)
  dsimp only [Pt.U, Pt.locs, Pt.cells, Pt.slots] at X220 l220 y220 z220 st220 hQ220
  subst l220 y220 z220
  obtain ⟨rfl, rfl, e220⟩ := hQ220
  try replace X220 := own_nil X220
  refine Go.by' (fun t k => st220.trans k) ?_
  show Go p.tables e below Pf (T220.setTop (mkF m 50 #[vr sa, vr sb, vi (0 : Int32), vr va, vr vb, vi (0 : Int32), vi (1 : Int32), vi (0 : Int32)] [(.int (0 : Int32)), (.int (0 : Int32))]))
  refine Go.by' (fun t k => (XS.icmpNo X220.here hx rfl (hb hby d26_50) rfl (teq (by decide)).2 (XS.iload X220.here hx rfl (hb hby d26_53) rfl (XS.iconst X220.here hx rfl (hb hby d26_55) (XS.icmpYes X220.here hx rfl (pc0 := 56) (pc' := 63) rfl (hb hby d26_56) rfl (feq (by decide)).2 (by decide) (by decide) (XS.aloadN X220.here hx rfl (hb hby d26_63) rfl rfl (XS.iloadN X220.here hx rfl (hb hby d26_64) rfl (XS.aload X220.here hx rfl (hb hby d26_65) rfl rfl (XS.iconst X220.here hx rfl (hb hby d26_67) k))))))))) ?_
  show Go p.tables e below Pf (T220.setTop (mkF m 68 #[vr sa, vr sb, vi (0 : Int32), vr va, vr vb, vi (0 : Int32), vi (1 : Int32), vi (0 : Int32)] [(.int (0 : Int32)), (.ref vb), (.int (0 : Int32)), (.ref va)]))
  refine Go.by' (fun t k => (XS.iload X220.here hx rfl (hb hby d26_68) rfl k)) ?_
  obtain ⟨_, _, ⟨T221, L221, k221, n221⟩, -, X221, ⟨Lc221, hQ221, l221, y221, z221⟩, st221⟩ := Jvm.LawKit.callS X220 hx (y := own_y26) hown (mvT hZ hw134) (mvT hZ hw135) (mvT hZ hw136) (mvT hZ hw137) (by decide) (backOf (W := 0) (rmMm_1 l Z a0 hw [] vcs wI wA cA G va vb ka kb x0 h0 n0 O0 VA VB) hZ hw137 hw136 (by decide) (by decide)) (g := (mkF m 70 #[vr sa, vr sb, vi (0 : Int32), vr va, vr vb, vi (0 : Int32), vi (1 : Int32), vi (0 : Int32)] [(.int (1 : Int32)), (.int (0 : Int32)), (.ref vb), (.int (0 : Int32)), (.ref va)])) rfl (by rw [hml]; rfl) (argsL := [(.ref va), (.int (0 : Int32)), (.ref vb), (.int (0 : Int32)), (.int (1 : Int32))]) (rest := []) (lenOf pd_13 rfl) rfl (Nat.le_of_eq rfl) (hb hby d26_70) (fun _ _ => ⟨rfl, e220, (by decide : 0 + 0 ≤ _), (by decide : 0 + 0 ≤ _)⟩)
  dsimp only [Pt.U, Pt.locs, Pt.cells, Pt.slots] at X221 l221 y221 z221 st221 hQ221
  subst l221 y221 z221
  obtain ⟨r_221, rfl, rfl, e221, r221_0⟩ := hQ221
  try replace X221 := own_nil X221
  refine Go.by' st221 ?_
  rcases r221_0 with ⟨hE221, hz221⟩ | ⟨hE221, hz221⟩
  · subst hz221
    show Go p.tables e below Pf (T221.setTop (mkF m 73 #[vr sa, vr sb, vi (0 : Int32), vr va, vr vb, vi (0 : Int32), vi (1 : Int32), vi (0 : Int32)] [(.int (-1 : Int32))]))
    refine Go.by' (fun t k => (XS.ifNo X221.here hx rfl (hb hby d26_73) rfl ((if0 _ _).trans (tlt (by decide)).2.1) (XS.iconst X221.here hx rfl (hb hby d26_76) (XS.goto X221.here hx rfl (pc0 := 77) (pc' := 81) rfl (hb hby d26_77) (by decide) (by decide) k)))) ?_
    show Go p.tables e below Pf (T221.setTop (mkF m 81 #[vr sa, vr sb, vi (0 : Int32), vr va, vr vb, vi (0 : Int32), vi (1 : Int32), vi (0 : Int32)] [(.int (1 : Int32))]))
    rw [hPf]
    exact Go.retI' X221 hx hret hlk (by simp) rfl (hb hby d26_81) (by decide) (by decide) ⟨(1 : Int32), rfl, rfl, e221, (Or.inl ⟨hE221, rfl⟩)⟩
  · subst hz221
    show Go p.tables e below Pf (T221.setTop (mkF m 73 #[vr sa, vr sb, vi (0 : Int32), vr va, vr vb, vi (0 : Int32), vi (1 : Int32), vi (0 : Int32)] [(.int (0 : Int32))]))
    refine Go.by' (fun t k => (XS.ifYes X221.here hx rfl (pc0 := 73) (pc' := 80) rfl (hb hby d26_73) rfl ((if0 _ _).trans (flt (by decide)).2.1) (by decide) (by decide) (XS.iconst X221.here hx rfl (hb hby d26_80) k))) ?_
    show Go p.tables e below Pf (T221.setTop (mkF m 81 #[vr sa, vr sb, vi (0 : Int32), vr va, vr vb, vi (0 : Int32), vi (1 : Int32), vi (0 : Int32)] [(.int (0 : Int32))]))
    rw [hPf]
    exact Go.retI' X221 hx hret hlk (by simp) rfl (hb hby d26_81) (by decide) (by decide) ⟨(0 : Int32), rfl, rfl, e221, (Or.inr ⟨hE221, rfl⟩)⟩
theorem d25_0 : decode jdk_42_method_76_code 0 = .ok (.aload_n 0, 1) := by decide +kernel
theorem d25_1 : decode jdk_42_method_76_code 1 = .ok (.aload_n 1, 1) := by decide +kernel
theorem d25_2 : decode jdk_42_method_76_code 2 = .ok (.iconst 0, 1) := by decide +kernel
theorem d25_3 : decode jdk_42_method_76_code 3 = .ok (.invokevirtual 624, 3) := by decide +kernel
theorem pd_18 : parseMethodDescriptor "(Ljava/lang/String;I)Z" = some ⟨[(.object "java/lang/String"), .int], some .boolean⟩ := by decide +kernel
theorem d25_6 : decode jdk_42_method_76_code 6 = .ok (.ireturn, 1) := by decide +kernel
theorem pn_25 : plainName "java/lang/String" = true := by first | (simp [plainName, overriddenIn]; done) | decide +kernel
theorem ef_rmS1_1w (m : MethodId) {sa : Addr} {sb : Addr} : entryFrame m #[(.ref sa), (.ref sb)] 2 = mkF m 0 #[vr sa, vr sb] [] := by first | (simp [entryFrame, mkF, argsToLocals, Value.category]; done) | rfl
abbrev own_y28 : MethodName := ⟨"java/lang/String", "startsWith", "(Ljava/lang/String;)Z"⟩
def QrmS1_1w (Z : State) (vcs : Int32) (wI : Addr) (wA : Addr) (cA : Cell) (sa : Addr) (sb : Addr) (va : Addr) (vb : Addr) (ka : ClassId) (kb : ClassId) (x0 : Int32) (h0 : Heap) (n0 : Nat) (v : Option Value) (h : Heap) (L : List Loc) : Prop := ∃ (r : Int32), (v = some (.int r)) ∧ (L = []) ∧ (h = h0) ∧ ((x0 = (33 : Int32) ∧ r = (1 : Int32)) ∨ (¬ (x0 = (33 : Int32)) ∧ r = (0 : Int32)))
theorem rmS1_1w (l : Launch) (Z : State) (a0 : Array Value) (hw : ∀ d ∈ tables_1, d.before a0 Z = true) (ws : List Jvm.Cond) (vcs : Int32) (wI : Addr) (wA : Addr) (cA : Cell) (G : Gh Z vcs wI wA cA) (sa : Addr) (sb : Addr) (va : Addr) (vb : Addr) (ka : ClassId) (kb : ClassId) (x0 : Int32) (h0 : Heap) (n0 : Nat) (O0 : Old Z n0 h0) (EA : Exa Z h0 sa "java/lang/String") (FA : Fld Z h0 sa "java/lang/String" "value" "[B" (.ref va)) (CA : Fld Z h0 sa "java/lang/String" "coder" "B" (.int (0 : Int32))) (VA : Arv Z h0 va ka .byte (1 : Int32) [(.int x0)] (.int (0 : Int32))) (EB : Exa Z h0 sb "java/lang/String") (FB : Fld Z h0 sb "java/lang/String" "value" "[B" (.ref vb)) (CB : Fld Z h0 sb "java/lang/String" "coder" "B" (.int (0 : Int32))) (VB : Arv Z h0 vb kb .byte (1 : Int32) [(.int (33 : Int32))] (.int (0 : Int32))) :
    MetFree l own_y28 (head1 (Jvm.Cond.code own_y28 jdk_42_method_76_code 2 (some .boolean) :: ws) ({ frames := 3, cells := 0, slots := 0, locals := 46 } : Room)) (fun aa' UU' => aa' = #[(.ref sa), (.ref sb)] ∧ Z.Warmed39 UU'.vm ∧ UU'.heap = h0) (fun _ _ _ _ _ => True) (fun _ UU' oo' VV' => ∃ v' L', oo' = .returned v' ∧ QrmS1_1w Z vcs wI wA cA sa sb va vb ka kb x0 h0 n0 v' VV'.heap L' ∧ FrameEnd UU' oo' VV' L' ({ frames := 3, cells := 0, slots := 0, locals := 46 } : Room).cells ({ frames := 3, cells := 0, slots := 0, locals := 46 } : Room).slots) := by
  refine MetFree.of_bodySF (plainFor_of_name pn_25) hisR ?_
  intro p e s m args below meth c s₁ Bd hml0 hP hK
  obtain ⟨rfl, hZ, hh⟩ := hP
  have hml : c.maxLocals = 2 := hml0
  obtain ⟨hx, hby, hlk, hown, hnm, hret, X0, e0⟩ := own_hd Bd hh
  have N0 := Fr.nil n0
  refine Go.body ?_
  obtain ⟨Pf, hPf⟩ : ∃ P, P = Fin' s below ({ frames := 3, cells := 0, slots := 0, locals := 46 } : Room).cells ({ frames := 3, cells := 0, slots := 0, locals := 46 } : Room).slots (QrmS1_1w Z vcs wI wA cA sa sb va vb ka kb x0 h0 n0) := ⟨_, rfl⟩
  rw [← hPf]
  refine Go.cast (ef_rmS1_1w m) ?_
  have hw3 := own_w hw 3 rfl
  have hw124 := own_w hw 124 rfl
  have hw125 := own_w hw 125 rfl
  have hw126 := own_w hw 126 rfl
  have hw127 := own_w hw 127 rfl
  have hw128 := own_w hw 128 rfl
  show Go p.tables e below Pf (s₁.setTop (mkF m 0 #[vr sa, vr sb] []))
  refine Go.by' (fun t k => (XS.aloadN X0.here hx rfl (hb hby d25_0) rfl rfl (XS.aloadN X0.here hx rfl (hb hby d25_1) rfl rfl (XS.iconst X0.here hx rfl (hb hby d25_2) k)))) ?_
  obtain ⟨cq222, kq222, q222a, q222b, q222c⟩ := isOf hZ e0 EA
  obtain ⟨_, _, ⟨T222, L222, k222, n222⟩, -, X222, ⟨Lc222, hQ222, l222, y222, z222⟩, st222⟩ := X0.virtualBack hx (y := own_y27) (z := own_y27) hown (mvT hZ hw124) (mvT hZ hw125) (notFace_of_selects (args := #[]) (mvT hZ hw127)) (mvT hZ hw127) (mvT hZ hw126) (by decide) (backOf (W := 0) (rmS2_1 l Z a0 hw [] vcs wI wA cA G sa sb va vb ka kb x0 h0 n0 O0 EA FA CA VA EB FB CB VB) hZ hw128 hw3 (by decide) (by decide)) q222a q222c (g := (mkF m 3 #[vr sa, vr sb] [(.int (0 : Int32)), (.ref sb), (.ref sa)])) rfl (by rw [hml]; rfl) (Steps.refl _) (argsL := [(.ref sb), (.int (0 : Int32))]) (rest := []) (lenOf pd_18 rfl) rfl (Nat.le_of_eq rfl) (hb hby d25_3) (fun _ _ => ⟨rfl, e0, (by decide : 0 + 0 ≤ _), (by decide : 0 + 0 ≤ _)⟩)
  dsimp only [Pt.U, Pt.locs, Pt.cells, Pt.slots] at X222 l222 y222 z222 st222 hQ222
  subst l222 y222 z222
  obtain ⟨r_222, rfl, rfl, e222, r222_0⟩ := hQ222
  try replace X222 := own_nil X222
  refine Go.by' (fun t k => st222.trans k) ?_
  have b222 : r_222 = 0 ∨ r_222 = 1 := r222_0.elim (fun q => Or.inr q.2) (fun q => Or.inl q.2)
  show Go p.tables e below Pf (T222.setTop (mkF m 6 #[vr sa, vr sb] [(.int r_222)]))
  rw [hPf]
  exact Go.retI' X222 hx hret hlk (by simp) (own_nb b222) (hb hby d25_6) (by decide) (by decide) ⟨r_222, rfl, rfl, e222, r222_0⟩
theorem ef_rmEm_2 (m : MethodId) {sa : Addr} : entryFrame m #[(.ref sa)] 1 = mkF m 0 #[vr sa] [] := by first | (simp [entryFrame, mkF, argsToLocals, Value.category]; done) | rfl
def QrmEm_2 (Z : State) (vcs : Int32) (wI : Addr) (wA : Addr) (cA : Cell) (sa : Addr) (va : Addr) (ka : ClassId) (x0 : Int32) (x1 : Int32) (h0 : Heap) (n0 : Nat) (v : Option Value) (h : Heap) (L : List Loc) : Prop := (v = some (.int (0 : Int32))) ∧ (L = []) ∧ (h = h0)
theorem rmEm_2 (l : Launch) (Z : State) (a0 : Array Value) (hw : ∀ d ∈ tables_1, d.before a0 Z = true) (ws : List Jvm.Cond) (vcs : Int32) (wI : Addr) (wA : Addr) (cA : Cell) (G : Gh Z vcs wI wA cA) (sa : Addr) (va : Addr) (ka : ClassId) (x0 : Int32) (x1 : Int32) (h0 : Heap) (n0 : Nat) (O0 : Old Z n0 h0) (EA : Exa Z h0 sa "java/lang/String") (FA : Fld Z h0 sa "java/lang/String" "value" "[B" (.ref va)) (CA : Fld Z h0 sa "java/lang/String" "coder" "B" (.int (0 : Int32))) (VA : Arv Z h0 va ka .byte (2 : Int32) [(.int x0), (.int x1)] (.int (0 : Int32))) :
    MetFree l own_y20 (head1 (Jvm.Cond.code own_y20 jdk_42_method_55_code 1 (some .boolean) :: ws) ({ frames := 0, cells := 0, slots := 0, locals := 0 } : Room)) (fun aa' UU' => aa' = #[(.ref sa)] ∧ Z.Warmed39 UU'.vm ∧ UU'.heap = h0) (fun _ _ _ _ _ => True) (fun _ UU' oo' VV' => ∃ v' L', oo' = .returned v' ∧ QrmEm_2 Z vcs wI wA cA sa va ka x0 x1 h0 n0 v' VV'.heap L' ∧ FrameEnd UU' oo' VV' L' ({ frames := 0, cells := 0, slots := 0, locals := 0 } : Room).cells ({ frames := 0, cells := 0, slots := 0, locals := 0 } : Room).slots) := by
  refine MetFree.of_bodySF (plainFor_of_name pn_5) hisR ?_
  intro p e s m args below meth c s₁ Bd hml0 hP hK
  obtain ⟨rfl, hZ, hh⟩ := hP
  have hml : c.maxLocals = 1 := hml0
  obtain ⟨hx, hby, hlk, hown, hnm, hret, X0, e0⟩ := own_hd Bd hh
  have N0 := Fr.nil n0
  refine Go.body ?_
  obtain ⟨Pf, hPf⟩ : ∃ P, P = Fin' s below ({ frames := 0, cells := 0, slots := 0, locals := 0 } : Room).cells ({ frames := 0, cells := 0, slots := 0, locals := 0 } : Room).slots (QrmEm_2 Z vcs wI wA cA sa va ka x0 x1 h0 n0) := ⟨_, rfl⟩
  rw [← hPf]
  refine Go.cast (ef_rmEm_2 m) ?_
  have hw20 := own_w hw 20 rfl
  show Go p.tables e below Pf (s₁.setTop (mkF m 0 #[vr sa] []))
  refine Go.by' (fun t k => (XS.aloadN X0.here hx rfl (hb hby d5_0) rfl rfl k)) ?_
  obtain ⟨T223, X223, e223, st223⟩ := getF X0 hx hZ hown (host := "") (Or.inl hw20) Via.refl e0 FA (g := (mkF m 1 #[vr sa] [(.ref sa)])) rfl rfl (hb hby d5_1)
  refine Go.by' st223 ?_
  show Go p.tables e below Pf (T223.setTop (mkF m 4 #[vr sa] [(.ref va)]))
  refine Go.by' (fun t k => (own_alen X223 hx hZ e223 VA rfl rfl (hb hby d5_4) (XS.ifYes X223.here hx rfl (pc0 := 5) (pc' := 12) rfl (hb hby d5_5) rfl ((if0 _ _).trans (feq (by decide)).2) (by decide) (by decide) (XS.iconst X223.here hx rfl (hb hby d5_12) k)))) ?_
  show Go p.tables e below Pf (T223.setTop (mkF m 13 #[vr sa] [(.int (0 : Int32))]))
  rw [hPf]
  exact Go.retI' X223 hx hret hlk (by simp) rfl (hb hby d5_13) (by decide) (by decide) ⟨rfl, rfl, e223⟩
theorem d24_40 : decode jdk_43_method_25_code 40 = .ok (.aload_n 0, 1) := by decide +kernel
theorem d24_41 : decode jdk_43_method_25_code 41 = .ok (.iload 7, 2) := by decide +kernel
theorem d24_43 : decode jdk_43_method_25_code 43 = .ok (.baload, 1) := by decide +kernel
theorem d24_44 : decode jdk_43_method_25_code 44 = .ok (.iload 5, 2) := by decide +kernel
theorem d24_46 : decode jdk_43_method_25_code 46 = .ok (.if_icmp .eq 6, 3) := by decide +kernel
theorem d24_49 : decode jdk_43_method_25_code 49 = .ok (.goto (-19), 3) := by decide +kernel
theorem ef_rmI5_2 (m : MethodId) {va : Addr} {vb : Addr} : entryFrame m #[(.ref va), (.int (2 : Int32)), (.ref vb), (.int (1 : Int32)), (.int (0 : Int32))] 11 = mkF m 0 #[vr va, vi (2 : Int32), vr vb, vi (1 : Int32), vi (0 : Int32), .unset, .unset, .unset, .unset, .unset, .unset] [] := by first | (simp [entryFrame, mkF, argsToLocals, Value.category]; done) | rfl
def QrmI5_2 (Z : State) (vcs : Int32) (wI : Addr) (wA : Addr) (cA : Cell) (va : Addr) (vb : Addr) (ka : ClassId) (kb : ClassId) (x0 : Int32) (x1 : Int32) (h0 : Heap) (n0 : Nat) (v : Option Value) (h : Heap) (L : List Loc) : Prop := ∃ (r : Int32), (v = some (.int r)) ∧ (L = []) ∧ (h = h0) ∧ (((x0 = (44 : Int32) ∨ x1 = (44 : Int32)) ∧ ¬ (r < (0 : Int32))) ∨ (¬ (x0 = (44 : Int32) ∨ x1 = (44 : Int32)) ∧ r < (0 : Int32)))
theorem rmI5_2 (l : Launch) (Z : State) (a0 : Array Value) (hw : ∀ d ∈ tables_1, d.before a0 Z = true) (ws : List Jvm.Cond) (vcs : Int32) (wI : Addr) (wA : Addr) (cA : Cell) (G : Gh Z vcs wI wA cA) (va : Addr) (vb : Addr) (ka : ClassId) (kb : ClassId) (x0 : Int32) (x1 : Int32) (h0 : Heap) (n0 : Nat) (O0 : Old Z n0 h0) (VA : Arv Z h0 va ka .byte (2 : Int32) [(.int x0), (.int x1)] (.int (0 : Int32))) (VB : Arv Z h0 vb kb .byte (1 : Int32) [(.int (44 : Int32))] (.int (0 : Int32))) :
    MetFree l own_y21 (head1 (Jvm.Cond.code own_y21 jdk_43_method_25_code 11 (some .int) :: ws) ({ frames := 0, cells := 0, slots := 0, locals := 0 } : Room)) (fun aa' UU' => aa' = #[(.ref va), (.int (2 : Int32)), (.ref vb), (.int (1 : Int32)), (.int (0 : Int32))] ∧ Z.Warmed39 UU'.vm ∧ UU'.heap = h0) (fun _ _ _ _ _ => True) (fun _ UU' oo' VV' => ∃ v' L', oo' = .returned v' ∧ QrmI5_2 Z vcs wI wA cA va vb ka kb x0 x1 h0 n0 v' VV'.heap L' ∧ FrameEnd UU' oo' VV' L' ({ frames := 0, cells := 0, slots := 0, locals := 0 } : Room).cells ({ frames := 0, cells := 0, slots := 0, locals := 0 } : Room).slots) := by
  refine MetFree.of_bodySF (plainFor_of_name pn_24) hisR ?_
  intro p e s m args below meth c s₁ Bd hml0 hP hK
  obtain ⟨rfl, hZ, hh⟩ := hP
  have hml : c.maxLocals = 11 := hml0
  obtain ⟨hx, hby, hlk, hown, hnm, hret, X0, e0⟩ := own_hd Bd hh
  have N0 := Fr.nil n0
  refine Go.body ?_
  obtain ⟨Pf, hPf⟩ : ∃ P, P = Fin' s below ({ frames := 0, cells := 0, slots := 0, locals := 0 } : Room).cells ({ frames := 0, cells := 0, slots := 0, locals := 0 } : Room).slots (QrmI5_2 Z vcs wI wA cA va vb ka kb x0 x1 h0 n0) := ⟨_, rfl⟩
  rw [← hPf]
  refine Go.cast (ef_rmI5_2 m) ?_
  show Go p.tables e below Pf (s₁.setTop (mkF m 0 #[vr va, vi (2 : Int32), vr vb, vi (1 : Int32), vi (0 : Int32), .unset, .unset, .unset, .unset, .unset, .unset] []))
  refine Go.by' (fun t k => (XS.aloadN X0.here hx rfl (hb hby d24_0) rfl rfl (XS.iconst X0.here hx rfl (hb hby d24_1) (own_bal X0 hx hZ e0 VB (j := (0 : Int32)) (v := (.int (44 : Int32))) ⟨by decide, by decide⟩ rfl rfl rfl (hb hby d24_2) (XS.istore X0.here hx rfl (hb hby d24_3) rfl (l' := #[vr va, vi (2 : Int32), vr vb, vi (1 : Int32), vi (0 : Int32), vi (44 : Int32), .unset, .unset, .unset, .unset, .unset]) rfl (XS.iloadN X0.here hx rfl (hb hby d24_5) rfl (XS.iloadN X0.here hx rfl (hb hby d24_6) rfl (XS.isub X0.here hx rfl (hb hby d24_7) rfl (XS.istore X0.here hx rfl (hb hby d24_8) rfl (l' := #[vr va, vi (2 : Int32), vr vb, vi (1 : Int32), vi (0 : Int32), vi (44 : Int32), vi (1 : Int32), .unset, .unset, .unset, .unset]) rfl k))))))))) ?_
  show Go p.tables e below Pf (s₁.setTop (mkF m 10 #[vr va, vi (2 : Int32), vr vb, vi (1 : Int32), vi (0 : Int32), vi (44 : Int32), vi (1 : Int32), .unset, .unset, .unset, .unset] []))
  refine Go.by' (fun t k => (XS.iload X0.here hx rfl (hb hby d24_10) rfl (XS.istore X0.here hx rfl (hb hby d24_12) rfl (l' := #[vr va, vi (2 : Int32), vr vb, vi (1 : Int32), vi (0 : Int32), vi (44 : Int32), vi (1 : Int32), vi (0 : Int32), .unset, .unset, .unset]) rfl (XS.iload X0.here hx rfl (hb hby d24_14) rfl (XS.iload X0.here hx rfl (hb hby d24_16) rfl (XS.icmpNo X0.here hx rfl (hb hby d24_18) rfl (flt (by decide)).2.2.1 (XS.aloadN X0.here hx rfl (hb hby d24_21) rfl rfl (XS.iload X0.here hx rfl (hb hby d24_22) rfl (own_bal X0 hx hZ e0 VA (j := (0 : Int32)) (v := (.int x0)) ⟨by decide, by decide⟩ rfl rfl rfl (hb hby d24_24) k))))))))) ?_
  show Go p.tables e below Pf (s₁.setTop (mkF m 25 #[vr va, vi (2 : Int32), vr vb, vi (1 : Int32), vi (0 : Int32), vi (44 : Int32), vi (1 : Int32), vi (0 : Int32), .unset, .unset, .unset] [(.int x0)]))
  refine Go.by' (fun t k => (XS.iload X0.here hx rfl (hb hby d24_25) rfl k)) ?_
  show Go p.tables e below Pf (s₁.setTop (mkF m 27 #[vr va, vi (2 : Int32), vr vb, vi (1 : Int32), vi (0 : Int32), vi (44 : Int32), vi (1 : Int32), vi (0 : Int32), .unset, .unset, .unset] [(.int (44 : Int32)), (.int x0)]))
  by_cases hc227 : x0 = (44 : Int32)
  · refine Go.by' (fun t k => (XS.icmpYes X0.here hx rfl (pc0 := 27) (pc' := 52) rfl (hb hby d24_27) rfl (teq hc227).1 (by decide) (by decide) (XS.iload X0.here hx rfl (hb hby d24_52) rfl (XS.iload X0.here hx rfl (hb hby d24_54) rfl (XS.icmpNo X0.here hx rfl (hb hby d24_56) rfl (flt (by decide)).2.2.1 (XS.iload X0.here hx rfl (hb hby d24_59) rfl (XS.iconst X0.here hx rfl (hb hby d24_61) (XS.iadd X0.here hx rfl (hb hby d24_62) rfl (XS.istore X0.here hx rfl (hb hby d24_63) rfl (l' := #[vr va, vi (2 : Int32), vr vb, vi (1 : Int32), vi (0 : Int32), vi (44 : Int32), vi (1 : Int32), vi (0 : Int32), vi (1 : Int32), .unset, .unset]) rfl k))))))))) ?_
    show Go p.tables e below Pf (s₁.setTop (mkF m 65 #[vr va, vi (2 : Int32), vr vb, vi (1 : Int32), vi (0 : Int32), vi (44 : Int32), vi (1 : Int32), vi (0 : Int32), vi (1 : Int32), .unset, .unset] []))
    refine Go.by' (fun t k => (XS.iload X0.here hx rfl (hb hby d24_65) rfl (XS.iloadN X0.here hx rfl (hb hby d24_67) rfl (XS.iadd X0.here hx rfl (hb hby d24_68) rfl (XS.iconst X0.here hx rfl (hb hby d24_69) (XS.isub X0.here hx rfl (hb hby d24_70) rfl (XS.istore X0.here hx rfl (hb hby d24_71) rfl (l' := #[vr va, vi (2 : Int32), vr vb, vi (1 : Int32), vi (0 : Int32), vi (44 : Int32), vi (1 : Int32), vi (0 : Int32), vi (1 : Int32), vi (1 : Int32), .unset]) rfl (XS.iconst X0.here hx rfl (hb hby d24_73) (XS.istore X0.here hx rfl (hb hby d24_74) rfl (l' := #[vr va, vi (2 : Int32), vr vb, vi (1 : Int32), vi (0 : Int32), vi (44 : Int32), vi (1 : Int32), vi (0 : Int32), vi (1 : Int32), vi (1 : Int32), vi (1 : Int32)]) rfl k))))))))) ?_
    show Go p.tables e below Pf (s₁.setTop (mkF m 76 #[vr va, vi (2 : Int32), vr vb, vi (1 : Int32), vi (0 : Int32), vi (44 : Int32), vi (1 : Int32), vi (0 : Int32), vi (1 : Int32), vi (1 : Int32), vi (1 : Int32)] []))
    refine Go.by' (fun t k => (XS.iload X0.here hx rfl (hb hby d24_76) rfl (XS.iload X0.here hx rfl (hb hby d24_78) rfl (XS.icmpYes X0.here hx rfl (pc0 := 80) (pc' := 103) rfl (hb hby d24_80) rfl (flt (by decide)).2.1 (by decide) (by decide) (XS.iload X0.here hx rfl (hb hby d24_103) rfl (XS.iload X0.here hx rfl (hb hby d24_105) rfl (XS.icmpNo X0.here hx rfl (hb hby d24_107) rfl (teq (by decide)).2 (XS.iload X0.here hx rfl (hb hby d24_110) rfl k)))))))) ?_
    show Go p.tables e below Pf (s₁.setTop (mkF m 112 #[vr va, vi (2 : Int32), vr vb, vi (1 : Int32), vi (0 : Int32), vi (44 : Int32), vi (1 : Int32), vi (0 : Int32), vi (1 : Int32), vi (1 : Int32), vi (1 : Int32)] [(.int (0 : Int32))]))
    rw [hPf]
    exact Go.retI' X0 hx hret hlk (by simp) rfl (hb hby d24_112) (by decide) (by decide) ⟨(0 : Int32), rfl, rfl, e0, (Or.inl ⟨(Or.inl hc227), by decide⟩)⟩
  · refine Go.by' (fun t k => (XS.icmpNo X0.here hx rfl (hb hby d24_27) rfl (feq hc227).1 (XS.iinc X0.here hx rfl (hb hby d24_30) rfl (l' := #[vr va, vi (2 : Int32), vr vb, vi (1 : Int32), vi (0 : Int32), vi (44 : Int32), vi (1 : Int32), vi (1 : Int32), .unset, .unset, .unset]) rfl (XS.iload X0.here hx rfl (hb hby d24_33) rfl (XS.iload X0.here hx rfl (hb hby d24_35) rfl (XS.icmpNo X0.here hx rfl (hb hby d24_37) rfl (flt (by decide)).2.2.1 (XS.aloadN X0.here hx rfl (hb hby d24_40) rfl rfl (XS.iload X0.here hx rfl (hb hby d24_41) rfl (own_bal X0 hx hZ e0 VA (j := (1 : Int32)) (v := (.int x1)) ⟨by decide, by decide⟩ rfl rfl rfl (hb hby d24_43) k))))))))) ?_
    show Go p.tables e below Pf (s₁.setTop (mkF m 44 #[vr va, vi (2 : Int32), vr vb, vi (1 : Int32), vi (0 : Int32), vi (44 : Int32), vi (1 : Int32), vi (1 : Int32), .unset, .unset, .unset] [(.int x1)]))
    refine Go.by' (fun t k => (XS.iload X0.here hx rfl (hb hby d24_44) rfl k)) ?_
    show Go p.tables e below Pf (s₁.setTop (mkF m 46 #[vr va, vi (2 : Int32), vr vb, vi (1 : Int32), vi (0 : Int32), vi (44 : Int32), vi (1 : Int32), vi (1 : Int32), .unset, .unset, .unset] [(.int (44 : Int32)), (.int x1)]))
    by_cases hc229 : x1 = (44 : Int32)
    · refine Go.by' (fun t k => (XS.icmpYes X0.here hx rfl (pc0 := 46) (pc' := 52) rfl (hb hby d24_46) rfl (teq hc229).1 (by decide) (by decide) (XS.iload X0.here hx rfl (hb hby d24_52) rfl (XS.iload X0.here hx rfl (hb hby d24_54) rfl (XS.icmpNo X0.here hx rfl (hb hby d24_56) rfl (flt (by decide)).2.2.1 (XS.iload X0.here hx rfl (hb hby d24_59) rfl (XS.iconst X0.here hx rfl (hb hby d24_61) (XS.iadd X0.here hx rfl (hb hby d24_62) rfl (XS.istore X0.here hx rfl (hb hby d24_63) rfl (l' := #[vr va, vi (2 : Int32), vr vb, vi (1 : Int32), vi (0 : Int32), vi (44 : Int32), vi (1 : Int32), vi (1 : Int32), vi (2 : Int32), .unset, .unset]) rfl k))))))))) ?_
      show Go p.tables e below Pf (s₁.setTop (mkF m 65 #[vr va, vi (2 : Int32), vr vb, vi (1 : Int32), vi (0 : Int32), vi (44 : Int32), vi (1 : Int32), vi (1 : Int32), vi (2 : Int32), .unset, .unset] []))
      refine Go.by' (fun t k => (XS.iload X0.here hx rfl (hb hby d24_65) rfl (XS.iloadN X0.here hx rfl (hb hby d24_67) rfl (XS.iadd X0.here hx rfl (hb hby d24_68) rfl (XS.iconst X0.here hx rfl (hb hby d24_69) (XS.isub X0.here hx rfl (hb hby d24_70) rfl (XS.istore X0.here hx rfl (hb hby d24_71) rfl (l' := #[vr va, vi (2 : Int32), vr vb, vi (1 : Int32), vi (0 : Int32), vi (44 : Int32), vi (1 : Int32), vi (1 : Int32), vi (2 : Int32), vi (2 : Int32), .unset]) rfl (XS.iconst X0.here hx rfl (hb hby d24_73) (XS.istore X0.here hx rfl (hb hby d24_74) rfl (l' := #[vr va, vi (2 : Int32), vr vb, vi (1 : Int32), vi (0 : Int32), vi (44 : Int32), vi (1 : Int32), vi (1 : Int32), vi (2 : Int32), vi (2 : Int32), vi (1 : Int32)]) rfl k))))))))) ?_
      show Go p.tables e below Pf (s₁.setTop (mkF m 76 #[vr va, vi (2 : Int32), vr vb, vi (1 : Int32), vi (0 : Int32), vi (44 : Int32), vi (1 : Int32), vi (1 : Int32), vi (2 : Int32), vi (2 : Int32), vi (1 : Int32)] []))
      refine Go.by' (fun t k => (XS.iload X0.here hx rfl (hb hby d24_76) rfl (XS.iload X0.here hx rfl (hb hby d24_78) rfl (XS.icmpYes X0.here hx rfl (pc0 := 80) (pc' := 103) rfl (hb hby d24_80) rfl (flt (by decide)).2.1 (by decide) (by decide) (XS.iload X0.here hx rfl (hb hby d24_103) rfl (XS.iload X0.here hx rfl (hb hby d24_105) rfl (XS.icmpNo X0.here hx rfl (hb hby d24_107) rfl (teq (by decide)).2 (XS.iload X0.here hx rfl (hb hby d24_110) rfl k)))))))) ?_
      show Go p.tables e below Pf (s₁.setTop (mkF m 112 #[vr va, vi (2 : Int32), vr vb, vi (1 : Int32), vi (0 : Int32), vi (44 : Int32), vi (1 : Int32), vi (1 : Int32), vi (2 : Int32), vi (2 : Int32), vi (1 : Int32)] [(.int (1 : Int32))]))
      rw [hPf]
      exact Go.retI' X0 hx hret hlk (by simp) rfl (hb hby d24_112) (by decide) (by decide) ⟨(1 : Int32), rfl, rfl, e0, (Or.inl ⟨(Or.inr hc229), by decide⟩)⟩
    · refine Go.by' (fun t k => (XS.icmpNo X0.here hx rfl (hb hby d24_46) rfl (feq hc229).1 (XS.goto X0.here hx rfl (pc0 := 49) (pc' := 30) rfl (hb hby d24_49) (by decide) (by decide) (XS.iinc X0.here hx rfl (hb hby d24_30) rfl (l' := #[vr va, vi (2 : Int32), vr vb, vi (1 : Int32), vi (0 : Int32), vi (44 : Int32), vi (1 : Int32), vi (2 : Int32), .unset, .unset, .unset]) rfl (XS.iload X0.here hx rfl (hb hby d24_33) rfl (XS.iload X0.here hx rfl (hb hby d24_35) rfl (XS.icmpYes X0.here hx rfl (pc0 := 37) (pc' := 52) rfl (hb hby d24_37) rfl (tlt (by decide)).2.2.1 (by decide) (by decide) (XS.iload X0.here hx rfl (hb hby d24_52) rfl (XS.iload X0.here hx rfl (hb hby d24_54) rfl k))))))))) ?_
      show Go p.tables e below Pf (s₁.setTop (mkF m 56 #[vr va, vi (2 : Int32), vr vb, vi (1 : Int32), vi (0 : Int32), vi (44 : Int32), vi (1 : Int32), vi (2 : Int32), .unset, .unset, .unset] [(.int (1 : Int32)), (.int (2 : Int32))]))
      refine Go.by' (fun t k => (XS.icmpYes X0.here hx rfl (pc0 := 56) (pc' := 113) rfl (hb hby d24_56) rfl (tlt (by decide)).2.2.1 (by decide) (by decide) (XS.iinc X0.here hx rfl (hb hby d24_113) rfl (l' := #[vr va, vi (2 : Int32), vr vb, vi (1 : Int32), vi (0 : Int32), vi (44 : Int32), vi (1 : Int32), vi (3 : Int32), .unset, .unset, .unset]) rfl (XS.goto X0.here hx rfl (pc0 := 116) (pc' := 14) rfl (hb hby d24_116) (by decide) (by decide) (XS.iload X0.here hx rfl (hb hby d24_14) rfl (XS.iload X0.here hx rfl (hb hby d24_16) rfl (XS.icmpYes X0.here hx rfl (pc0 := 18) (pc' := 119) rfl (hb hby d24_18) rfl (tlt (by decide)).2.2.1 (by decide) (by decide) (XS.iconst X0.here hx rfl (hb hby d24_119) k)))))))) ?_
      show Go p.tables e below Pf (s₁.setTop (mkF m 120 #[vr va, vi (2 : Int32), vr vb, vi (1 : Int32), vi (0 : Int32), vi (44 : Int32), vi (1 : Int32), vi (3 : Int32), .unset, .unset, .unset] [(.int (-1 : Int32))]))
      rw [hPf]
      exact Go.retI' X0 hx hret hlk (by simp) rfl (hb hby d24_120) (by decide) (by decide) ⟨(-1 : Int32), rfl, rfl, e0, (Or.inr ⟨(fun q => q.elim hc227 hc229), by decide⟩)⟩
theorem ef_rmI2_2 (m : MethodId) {va : Addr} {vb : Addr} : entryFrame m #[(.ref va), (.ref vb)] 2 = mkF m 0 #[vr va, vr vb] [] := by first | (simp [entryFrame, mkF, argsToLocals, Value.category]; done) | rfl
def QrmI2_2 (Z : State) (vcs : Int32) (wI : Addr) (wA : Addr) (cA : Cell) (va : Addr) (vb : Addr) (ka : ClassId) (kb : ClassId) (x0 : Int32) (x1 : Int32) (h0 : Heap) (n0 : Nat) (v : Option Value) (h : Heap) (L : List Loc) : Prop := ∃ (r : Int32), (v = some (.int r)) ∧ (L = []) ∧ (h = h0) ∧ (((x0 = (44 : Int32) ∨ x1 = (44 : Int32)) ∧ ¬ (r < (0 : Int32))) ∨ (¬ (x0 = (44 : Int32) ∨ x1 = (44 : Int32)) ∧ r < (0 : Int32)))
theorem rmI2_2 (l : Launch) (Z : State) (a0 : Array Value) (hw : ∀ d ∈ tables_1, d.before a0 Z = true) (ws : List Jvm.Cond) (vcs : Int32) (wI : Addr) (wA : Addr) (cA : Cell) (G : Gh Z vcs wI wA cA) (va : Addr) (vb : Addr) (ka : ClassId) (kb : ClassId) (x0 : Int32) (x1 : Int32) (h0 : Heap) (n0 : Nat) (O0 : Old Z n0 h0) (VA : Arv Z h0 va ka .byte (2 : Int32) [(.int x0), (.int x1)] (.int (0 : Int32))) (VB : Arv Z h0 vb kb .byte (1 : Int32) [(.int (44 : Int32))] (.int (0 : Int32))) :
    MetFree l own_y22 (head1 (Jvm.Cond.code own_y22 jdk_43_method_24_code 2 (some .int) :: ws) ({ frames := 1, cells := 0, slots := 0, locals := 22 } : Room)) (fun aa' UU' => aa' = #[(.ref va), (.ref vb)] ∧ Z.Warmed39 UU'.vm ∧ UU'.heap = h0) (fun _ _ _ _ _ => True) (fun _ UU' oo' VV' => ∃ v' L', oo' = .returned v' ∧ QrmI2_2 Z vcs wI wA cA va vb ka kb x0 x1 h0 n0 v' VV'.heap L' ∧ FrameEnd UU' oo' VV' L' ({ frames := 1, cells := 0, slots := 0, locals := 22 } : Room).cells ({ frames := 1, cells := 0, slots := 0, locals := 22 } : Room).slots) := by
  refine MetFree.of_bodySF (plainFor_of_name pn_23) hisR ?_
  intro p e s m args below meth c s₁ Bd hml0 hP hK
  obtain ⟨rfl, hZ, hh⟩ := hP
  have hml : c.maxLocals = 2 := hml0
  obtain ⟨hx, hby, hlk, hown, hnm, hret, X0, e0⟩ := own_hd Bd hh
  have N0 := Fr.nil n0
  refine Go.body ?_
  obtain ⟨Pf, hPf⟩ : ∃ P, P = Fin' s below ({ frames := 1, cells := 0, slots := 0, locals := 22 } : Room).cells ({ frames := 1, cells := 0, slots := 0, locals := 22 } : Room).slots (QrmI2_2 Z vcs wI wA cA va vb ka kb x0 x1 h0 n0) := ⟨_, rfl⟩
  rw [← hPf]
  refine Go.cast (ef_rmI2_2 m) ?_
  have hw58 := own_w hw 58 rfl
  have hw115 := own_w hw 115 rfl
  have hw116 := own_w hw 116 rfl
  have hw117 := own_w hw 117 rfl
  show Go p.tables e below Pf (s₁.setTop (mkF m 0 #[vr va, vr vb] []))
  refine Go.by' (fun t k => (XS.aloadN X0.here hx rfl (hb hby d23_0) rfl rfl (own_alen X0 hx hZ e0 VB rfl rfl (hb hby d23_1) (XS.ifYes X0.here hx rfl (pc0 := 2) (pc' := 7) rfl (hb hby d23_2) rfl ((if0 _ _).trans (feq (by decide)).2) (by decide) (by decide) (XS.aloadN X0.here hx rfl (hb hby d23_7) rfl rfl (own_alen X0 hx hZ e0 VA rfl rfl (hb hby d23_8) (XS.ifYes X0.here hx rfl (pc0 := 9) (pc' := 14) rfl (hb hby d23_9) rfl ((if0 _ _).trans (feq (by decide)).2) (by decide) (by decide) (XS.aloadN X0.here hx rfl (hb hby d23_14) rfl rfl (XS.aloadN X0.here hx rfl (hb hby d23_15) rfl rfl k))))))))) ?_
  show Go p.tables e below Pf (s₁.setTop (mkF m 16 #[vr va, vr vb] [(.ref va), (.ref va)]))
  refine Go.by' (fun t k => (own_alen X0 hx hZ e0 VA rfl rfl (hb hby d23_16) (XS.aloadN X0.here hx rfl (hb hby d23_17) rfl rfl (XS.aloadN X0.here hx rfl (hb hby d23_18) rfl rfl (own_alen X0 hx hZ e0 VB rfl rfl (hb hby d23_19) (XS.iconst X0.here hx rfl (hb hby d23_20) k)))))) ?_
  obtain ⟨_, _, ⟨T234, L234, k234, n234⟩, -, X234, ⟨Lc234, hQ234, l234, y234, z234⟩, st234⟩ := Jvm.LawKit.callS X0 hx (y := own_y21) hown (mvT hZ hw115) (mvT hZ hw116) (mvT hZ hw58) (mvT hZ hw117) (by decide) (backOf (W := 0) (rmI5_2 l Z a0 hw [] vcs wI wA cA G va vb ka kb x0 x1 h0 n0 O0 VA VB) hZ hw117 hw58 (by decide) (by decide)) (g := (mkF m 21 #[vr va, vr vb] [(.int (0 : Int32)), (.int (1 : Int32)), (.ref vb), (.int (2 : Int32)), (.ref va)])) rfl (by rw [hml]; rfl) (argsL := [(.ref va), (.int (2 : Int32)), (.ref vb), (.int (1 : Int32)), (.int (0 : Int32))]) (rest := []) (lenOf pd_13 rfl) rfl (Nat.le_of_eq rfl) (hb hby d23_21) (fun _ _ => ⟨rfl, e0, (by decide : 0 + 0 ≤ _), (by decide : 0 + 0 ≤ _)⟩)
  dsimp only [Pt.U, Pt.locs, Pt.cells, Pt.slots] at X234 l234 y234 z234 st234 hQ234
  subst l234 y234 z234
  obtain ⟨r_234, rfl, rfl, e234, r234_0⟩ := hQ234
  try replace X234 := own_nil X234
  refine Go.by' st234 ?_
  show Go p.tables e below Pf (T234.setTop (mkF m 24 #[vr va, vr vb] [(.int r_234)]))
  rw [hPf]
  exact Go.retI' X234 hx hret hlk (by simp) rfl (hb hby d23_24) (by decide) (by decide) ⟨r_234, rfl, rfl, e234, r234_0⟩
theorem ef_rmI1_2 (m : MethodId) {sa : Addr} {sb : Addr} : entryFrame m #[(.ref sa), (.ref sb)] 3 = mkF m 0 #[vr sa, vr sb, .unset] [] := by first | (simp [entryFrame, mkF, argsToLocals, Value.category]; done) | rfl
def QrmI1_2 (Z : State) (vcs : Int32) (wI : Addr) (wA : Addr) (cA : Cell) (sa : Addr) (sb : Addr) (va : Addr) (vb : Addr) (ka : ClassId) (kb : ClassId) (x0 : Int32) (x1 : Int32) (h0 : Heap) (n0 : Nat) (v : Option Value) (h : Heap) (L : List Loc) : Prop := ∃ (r : Int32), (v = some (.int r)) ∧ (L = []) ∧ (h = h0) ∧ (((x0 = (44 : Int32) ∨ x1 = (44 : Int32)) ∧ ¬ (r < (0 : Int32))) ∨ (¬ (x0 = (44 : Int32) ∨ x1 = (44 : Int32)) ∧ r < (0 : Int32)))
theorem rmI1_2 (l : Launch) (Z : State) (a0 : Array Value) (hw : ∀ d ∈ tables_1, d.before a0 Z = true) (ws : List Jvm.Cond) (vcs : Int32) (wI : Addr) (wA : Addr) (cA : Cell) (G : Gh Z vcs wI wA cA) (sa : Addr) (sb : Addr) (va : Addr) (vb : Addr) (ka : ClassId) (kb : ClassId) (x0 : Int32) (x1 : Int32) (h0 : Heap) (n0 : Nat) (O0 : Old Z n0 h0) (EA : Exa Z h0 sa "java/lang/String") (FA : Fld Z h0 sa "java/lang/String" "value" "[B" (.ref va)) (CA : Fld Z h0 sa "java/lang/String" "coder" "B" (.int (0 : Int32))) (VA : Arv Z h0 va ka .byte (2 : Int32) [(.int x0), (.int x1)] (.int (0 : Int32))) (EB : Exa Z h0 sb "java/lang/String") (FB : Fld Z h0 sb "java/lang/String" "value" "[B" (.ref vb)) (CB : Fld Z h0 sb "java/lang/String" "coder" "B" (.int (0 : Int32))) (VB : Arv Z h0 vb kb .byte (1 : Int32) [(.int (44 : Int32))] (.int (0 : Int32))) :
    MetFree l own_y23 (head1 (Jvm.Cond.code own_y23 jdk_42_method_84_code 3 (some .int) :: ws) ({ frames := 2, cells := 0, slots := 0, locals := 35 } : Room)) (fun aa' UU' => aa' = #[(.ref sa), (.ref sb)] ∧ Z.Warmed39 UU'.vm ∧ UU'.heap = h0) (fun _ _ _ _ _ => True) (fun _ UU' oo' VV' => ∃ v' L', oo' = .returned v' ∧ QrmI1_2 Z vcs wI wA cA sa sb va vb ka kb x0 x1 h0 n0 v' VV'.heap L' ∧ FrameEnd UU' oo' VV' L' ({ frames := 2, cells := 0, slots := 0, locals := 35 } : Room).cells ({ frames := 2, cells := 0, slots := 0, locals := 35 } : Room).slots) := by
  refine MetFree.of_bodySF (plainFor_of_name pn_21) hisR ?_
  intro p e s m args below meth c s₁ Bd hml0 hP hK
  obtain ⟨rfl, hZ, hh⟩ := hP
  have hml : c.maxLocals = 3 := hml0
  obtain ⟨hx, hby, hlk, hown, hnm, hret, X0, e0⟩ := own_hd Bd hh
  have N0 := Fr.nil n0
  refine Go.body ?_
  obtain ⟨Pf, hPf⟩ : ∃ P, P = Fin' s below ({ frames := 2, cells := 0, slots := 0, locals := 35 } : Room).cells ({ frames := 2, cells := 0, slots := 0, locals := 35 } : Room).slots (QrmI1_2 Z vcs wI wA cA sa sb va vb ka kb x0 x1 h0 n0) := ⟨_, rfl⟩
  rw [← hPf]
  refine Go.cast (ef_rmI1_2 m) ?_
  have hw3 := own_w hw 3 rfl
  have hw20 := own_w hw 20 rfl
  have hw51 := own_w hw 51 rfl
  have hw52 := own_w hw 52 rfl
  have hw53 := own_w hw 53 rfl
  have hw54 := own_w hw 54 rfl
  have hw55 := own_w hw 55 rfl
  have hw58 := own_w hw 58 rfl
  have hw107 := own_w hw 107 rfl
  have hw108 := own_w hw 108 rfl
  have hw109 := own_w hw 109 rfl
  have hw110 := own_w hw 110 rfl
  have hw111 := own_w hw 111 rfl
  have hw112 := own_w hw 112 rfl
  have hw113 := own_w hw 113 rfl
  have hw114 := own_w hw 114 rfl
  show Go p.tables e below Pf (s₁.setTop (mkF m 0 #[vr sa, vr sb, .unset] []))
  refine Go.by' (fun t k => (XS.aloadN X0.here hx rfl (hb hby d21_0) rfl rfl k)) ?_
  obtain ⟨cq235, kq235, q235a, q235b, q235c⟩ := isOf hZ e0 EA
  obtain ⟨_, _, ⟨T235, L235, k235, n235⟩, -, X235, ⟨Lc235, hQ235, l235, y235, z235⟩, st235⟩ := X0.virtualBack hx (y := own_y17) (z := own_y17) hown (mvT hZ hw107) (mvT hZ hw108) (notFace_of_selects (args := #[]) (mvT hZ hw110)) (mvT hZ hw110) (mvT hZ hw109) (by decide) (backOf (W := 0) (rmCo l Z a0 hw [] vcs wI wA cA G sa h0 n0 O0 CA) hZ hw111 hw3 (by decide) (by decide)) q235a q235c (g := (mkF m 1 #[vr sa, vr sb, .unset] [(.ref sa)])) rfl (by rw [hml]; rfl) (Steps.refl _) (argsL := []) (rest := []) (lenOf pd_12 rfl) rfl (Nat.le_of_eq rfl) (hb hby d21_1) (fun _ _ => ⟨rfl, e0, (by decide : 0 + 0 ≤ _), (by decide : 0 + 0 ≤ _)⟩)
  dsimp only [Pt.U, Pt.locs, Pt.cells, Pt.slots] at X235 l235 y235 z235 st235 hQ235
  subst l235 y235 z235
  obtain ⟨rfl, rfl, e235⟩ := hQ235
  try replace X235 := own_nil X235
  refine Go.by' (fun t k => st235.trans k) ?_
  show Go p.tables e below Pf (T235.setTop (mkF m 4 #[vr sa, vr sb, .unset] [(.int (0 : Int32))]))
  refine Go.by' (fun t k => (XS.istoreN X235.here hx rfl (hb hby d21_4) rfl (l' := #[vr sa, vr sb, vi (0 : Int32)]) rfl (XS.iloadN X235.here hx rfl (hb hby d21_5) rfl (XS.aloadN X235.here hx rfl (hb hby d21_6) rfl rfl k)))) ?_
  obtain ⟨cq236, kq236, q236a, q236b, q236c⟩ := isOf hZ e235 EB
  obtain ⟨_, _, ⟨T236, L236, k236, n236⟩, -, X236, ⟨Lc236, hQ236, l236, y236, z236⟩, st236⟩ := X235.virtualBack hx (y := own_y17) (z := own_y17) hown (mvT hZ hw107) (mvT hZ hw108) (notFace_of_selects (args := #[]) (mvT hZ hw110)) (mvT hZ hw110) (mvT hZ hw109) (by decide) (backOf (W := 1) (rmCo l Z a0 hw [] vcs wI wA cA G sb h0 n0 O0 CB) hZ hw111 hw3 (by decide) (by decide)) q236a q236c (g := (mkF m 7 #[vr sa, vr sb, vi (0 : Int32)] [(.ref sb), (.int (0 : Int32))])) rfl (by rw [hml]; rfl) (Steps.refl _) (argsL := []) (rest := [(.int (0 : Int32))]) (lenOf pd_12 rfl) rfl (Nat.le_of_eq rfl) (hb hby d21_7) (fun _ _ => ⟨rfl, e235, (by decide : 0 + 0 ≤ _), (by decide : 0 + 0 ≤ _)⟩)
  dsimp only [Pt.U, Pt.locs, Pt.cells, Pt.slots] at X236 l236 y236 z236 st236 hQ236
  subst l236 y236 z236
  obtain ⟨rfl, rfl, e236⟩ := hQ236
  try replace X236 := own_nil X236
  refine Go.by' (fun t k => st236.trans k) ?_
  show Go p.tables e below Pf (T236.setTop (mkF m 10 #[vr sa, vr sb, vi (0 : Int32)] [(.int (0 : Int32)), (.int (0 : Int32))]))
  refine Go.by' (fun t k => (XS.icmpNo X236.here hx rfl (hb hby d21_10) rfl (teq (by decide)).2 (XS.aloadN X236.here hx rfl (hb hby d21_13) rfl rfl k))) ?_
  obtain ⟨cq237, kq237, q237a, q237b, q237c⟩ := isOf hZ e236 EA
  obtain ⟨_, _, ⟨T237, L237, k237, n237⟩, -, X237, ⟨Lc237, hQ237, l237, y237, z237⟩, st237⟩ := X236.virtualBack hx (y := own_y12) (z := own_y12) hown (mvT hZ hw51) (mvT hZ hw52) (notFace_of_selects (args := #[]) (mvT hZ hw54)) (mvT hZ hw54) (mvT hZ hw53) (by decide) (backOf (W := 0) (rmSL l Z a0 hw [] vcs wI wA cA G sa h0 n0 O0 CA) hZ hw55 hw3 (by decide) (by decide)) q237a q237c (g := (mkF m 14 #[vr sa, vr sb, vi (0 : Int32)] [(.ref sa)])) rfl (by rw [hml]; rfl) (Steps.refl _) (argsL := []) (rest := []) (lenOf pd_8 rfl) rfl (Nat.le_of_eq rfl) (hb hby d21_14) (fun _ _ => ⟨rfl, e236, (by decide : 0 + 0 ≤ _), (by decide : 0 + 0 ≤ _)⟩)
  dsimp only [Pt.U, Pt.locs, Pt.cells, Pt.slots] at X237 l237 y237 z237 st237 hQ237
  subst l237 y237 z237
  obtain ⟨rfl, rfl, e237⟩ := hQ237
  try replace X237 := own_nil X237
  refine Go.by' (fun t k => st237.trans k) ?_
  show Go p.tables e below Pf (T237.setTop (mkF m 17 #[vr sa, vr sb, vi (0 : Int32)] [(.int (1 : Int32))]))
  refine Go.by' (fun t k => (XS.ifNo X237.here hx rfl (hb hby d21_17) rfl ((if0 _ _).trans (feq (by decide)).1) (XS.aloadN X237.here hx rfl (hb hby d21_20) rfl rfl k))) ?_
  obtain ⟨T238, X238, e238, st238⟩ := getF X237 hx hZ hown (host := "") (Or.inl hw20) Via.refl e237 FA (g := (mkF m 21 #[vr sa, vr sb, vi (0 : Int32)] [(.ref sa)])) rfl rfl (hb hby d21_21)
  refine Go.by' st238 ?_
  show Go p.tables e below Pf (T238.setTop (mkF m 24 #[vr sa, vr sb, vi (0 : Int32)] [(.ref va)]))
  refine Go.by' (fun t k => (XS.aloadN X238.here hx rfl (hb hby d21_24) rfl rfl k)) ?_
  obtain ⟨T239, X239, e239, st239⟩ := getF X238 hx hZ hown (host := "") (Or.inl hw20) Via.refl e238 FB (g := (mkF m 25 #[vr sa, vr sb, vi (0 : Int32)] [(.ref sb), (.ref va)])) rfl rfl (hb hby d21_25)
  refine Go.by' st239 ?_
  obtain ⟨_, _, ⟨T240, L240, k240, n240⟩, -, X240, ⟨Lc240, hQ240, l240, y240, z240⟩, st240⟩ := Jvm.LawKit.callS X239 hx (y := own_y22) hown (mvT hZ hw112) (mvT hZ hw113) (mvT hZ hw58) (mvT hZ hw114) (by decide) (backOf (W := 0) (rmI2_2 l Z a0 hw [] vcs wI wA cA G va vb ka kb x0 x1 h0 n0 O0 VA VB) hZ hw114 hw58 (by decide) (by decide)) (g := (mkF m 28 #[vr sa, vr sb, vi (0 : Int32)] [(.ref vb), (.ref va)])) rfl (by rw [hml]; rfl) (argsL := [(.ref va), (.ref vb)]) (rest := []) (lenOf pd_14 rfl) rfl (Nat.le_of_eq rfl) (hb hby d21_28) (fun _ _ => ⟨rfl, e239, (by decide : 0 + 0 ≤ _), (by decide : 0 + 0 ≤ _)⟩)
  dsimp only [Pt.U, Pt.locs, Pt.cells, Pt.slots] at X240 l240 y240 z240 st240 hQ240
  subst l240 y240 z240
  obtain ⟨r_240, rfl, rfl, e240, r240_0⟩ := hQ240
  try replace X240 := own_nil X240
  refine Go.by' st240 ?_
  show Go p.tables e below Pf (T240.setTop (mkF m 31 #[vr sa, vr sb, vi (0 : Int32)] [(.int r_240)]))
  refine Go.by' (fun t k => (XS.goto X240.here hx rfl (pc0 := 31) (pc' := 45) rfl (hb hby d21_31) (by decide) (by decide) k)) ?_
  show Go p.tables e below Pf (T240.setTop (mkF m 45 #[vr sa, vr sb, vi (0 : Int32)] [(.int r_240)]))
  rw [hPf]
  exact Go.retI' X240 hx hret hlk (by simp) rfl (hb hby d21_45) (by decide) (by decide) ⟨r_240, rfl, rfl, e240, r240_0⟩
theorem ef_rmCn_2 (m : MethodId) {sa : Addr} {sb : Addr} : entryFrame m #[(.ref sa), (.ref sb)] 2 = mkF m 0 #[vr sa, vr sb] [] := by first | (simp [entryFrame, mkF, argsToLocals, Value.category]; done) | rfl
def QrmCn_2 (Z : State) (vcs : Int32) (wI : Addr) (wA : Addr) (cA : Cell) (sa : Addr) (sb : Addr) (va : Addr) (vb : Addr) (ka : ClassId) (kb : ClassId) (x0 : Int32) (x1 : Int32) (h0 : Heap) (n0 : Nat) (v : Option Value) (h : Heap) (L : List Loc) : Prop := ∃ (r : Int32), (v = some (.int r)) ∧ (L = []) ∧ (h = h0) ∧ (((x0 = (44 : Int32) ∨ x1 = (44 : Int32)) ∧ r = (1 : Int32)) ∨ (¬ (x0 = (44 : Int32) ∨ x1 = (44 : Int32)) ∧ r = (0 : Int32)))
theorem rmCn_2 (l : Launch) (Z : State) (a0 : Array Value) (hw : ∀ d ∈ tables_1, d.before a0 Z = true) (ws : List Jvm.Cond) (vcs : Int32) (wI : Addr) (wA : Addr) (cA : Cell) (G : Gh Z vcs wI wA cA) (sa : Addr) (sb : Addr) (va : Addr) (vb : Addr) (ka : ClassId) (kb : ClassId) (x0 : Int32) (x1 : Int32) (h0 : Heap) (n0 : Nat) (O0 : Old Z n0 h0) (EA : Exa Z h0 sa "java/lang/String") (FA : Fld Z h0 sa "java/lang/String" "value" "[B" (.ref va)) (CA : Fld Z h0 sa "java/lang/String" "coder" "B" (.int (0 : Int32))) (VA : Arv Z h0 va ka .byte (2 : Int32) [(.int x0), (.int x1)] (.int (0 : Int32))) (EB : Exa Z h0 sb "java/lang/String") (FB : Fld Z h0 sb "java/lang/String" "value" "[B" (.ref vb)) (CB : Fld Z h0 sb "java/lang/String" "coder" "B" (.int (0 : Int32))) (VB : Arv Z h0 vb kb .byte (1 : Int32) [(.int (44 : Int32))] (.int (0 : Int32))) :
    MetFree l own_y25 (head1 (Jvm.Cond.code own_y25 jdk_42_method_97_code 2 (some .boolean) :: ws) ({ frames := 3, cells := 0, slots := 0, locals := 49 } : Room)) (fun aa' UU' => aa' = #[(.ref sa), (.ref sb)] ∧ Z.Warmed39 UU'.vm ∧ UU'.heap = h0) (fun _ _ _ _ _ => True) (fun _ UU' oo' VV' => ∃ v' L', oo' = .returned v' ∧ QrmCn_2 Z vcs wI wA cA sa sb va vb ka kb x0 x1 h0 n0 v' VV'.heap L' ∧ FrameEnd UU' oo' VV' L' ({ frames := 3, cells := 0, slots := 0, locals := 49 } : Room).cells ({ frames := 3, cells := 0, slots := 0, locals := 49 } : Room).slots) := by
  refine MetFree.of_bodySF (plainFor_of_name pn_19) hisR ?_
  intro p e s m args below meth c s₁ Bd hml0 hP hK
  obtain ⟨rfl, hZ, hh⟩ := hP
  have hml : c.maxLocals = 2 := hml0
  obtain ⟨hx, hby, hlk, hown, hnm, hret, X0, e0⟩ := own_hd Bd hh
  have N0 := Fr.nil n0
  refine Go.body ?_
  obtain ⟨Pf, hPf⟩ : ∃ P, P = Fin' s below ({ frames := 3, cells := 0, slots := 0, locals := 49 } : Room).cells ({ frames := 3, cells := 0, slots := 0, locals := 49 } : Room).slots (QrmCn_2 Z vcs wI wA cA sa sb va vb ka kb x0 x1 h0 n0) := ⟨_, rfl⟩
  rw [← hPf]
  refine Go.cast (ef_rmCn_2 m) ?_
  have hw3 := own_w hw 3 rfl
  have hw93 := own_w hw 93 rfl
  have hw94 := own_w hw 94 rfl
  have hw95 := own_w hw 95 rfl
  have hw96 := own_w hw 96 rfl
  have hw97 := own_w hw 97 rfl
  have hw98 := own_w hw 98 rfl
  have hw99 := own_w hw 99 rfl
  have hw100 := own_w hw 100 rfl
  have hw101 := own_w hw 101 rfl
  have hw102 := own_w hw 102 rfl
  have hw103 := own_w hw 103 rfl
  have hw104 := own_w hw 104 rfl
  have hw105 := own_w hw 105 rfl
  have hw106 := own_w hw 106 rfl
  show Go p.tables e below Pf (s₁.setTop (mkF m 0 #[vr sa, vr sb] []))
  refine Go.by' (fun t k => (XS.aloadN X0.here hx rfl (hb hby d19_0) rfl rfl (XS.aloadN X0.here hx rfl (hb hby d19_1) rfl rfl k))) ?_
  obtain ⟨cq241, kq241, q241a, q241b, q241c⟩ := isOf hZ e0 EB
  obtain ⟨_, _, ⟨T241, L241, k241, n241⟩, -, X241, ⟨Lc241, hQ241, l241, y241, z241⟩, st241⟩ := X0.interfaceBack hx (xi := own_y24) (y := own_y18) hown (mvT hZ hw93) (mvT hZ hw94) (mvT hZ hw95) (mvT hZ hw96) (mvT hZ hw97) (mvT hZ hw98) (mvT hZ hw99) (mvT hZ hw100) (by decide) (backOf (W := 1) (rmTo l Z a0 hw [] vcs wI wA cA G sb h0 n0 O0 ) hZ hw101 hw3 (by decide) (by decide)) q241a q241b q241c (g := (mkF m 2 #[vr sa, vr sb] [(.ref sb), (.ref sa)])) rfl (by rw [hml]; rfl) (Steps.refl _) (argsL := []) (rest := [(.ref sa)]) (lenOf pd_15 rfl) rfl (Nat.le_of_eq rfl) (hb hby d19_2) (fun _ _ => ⟨rfl, e0, (by decide : 0 + 0 ≤ _), (by decide : 0 + 0 ≤ _)⟩)
  dsimp only [Pt.U, Pt.locs, Pt.cells, Pt.slots] at X241 l241 y241 z241 st241 hQ241
  subst l241 y241 z241
  obtain ⟨rfl, rfl, e241⟩ := hQ241
  try replace X241 := own_nil X241
  refine Go.by' (fun t k => st241.trans k) ?_
  obtain ⟨cq242, kq242, q242a, q242b, q242c⟩ := isOf hZ e241 EA
  obtain ⟨_, _, ⟨T242, L242, k242, n242⟩, -, X242, ⟨Lc242, hQ242, l242, y242, z242⟩, st242⟩ := X241.virtualBack hx (y := own_y23) (z := own_y23) hown (mvT hZ hw102) (mvT hZ hw103) (notFace_of_selects (args := #[]) (mvT hZ hw105)) (mvT hZ hw105) (mvT hZ hw104) (by decide) (backOf (W := 0) (rmI1_2 l Z a0 hw [] vcs wI wA cA G sa sb va vb ka kb x0 x1 h0 n0 O0 EA FA CA VA EB FB CB VB) hZ hw106 hw3 (by decide) (by decide)) q242a q242c (g := (mkF m 7 #[vr sa, vr sb] [(.ref sb), (.ref sa)])) rfl (by rw [hml]; rfl) (Steps.refl _) (argsL := [(.ref sb)]) (rest := []) (lenOf pd_16 rfl) rfl (Nat.le_of_eq rfl) (hb hby d19_7) (fun _ _ => ⟨rfl, e241, (by decide : 0 + 0 ≤ _), (by decide : 0 + 0 ≤ _)⟩)
  dsimp only [Pt.U, Pt.locs, Pt.cells, Pt.slots] at X242 l242 y242 z242 st242 hQ242
  subst l242 y242 z242
  obtain ⟨r_242, rfl, rfl, e242, r242_0⟩ := hQ242
  try replace X242 := own_nil X242
  refine Go.by' (fun t k => st242.trans k) ?_
  rcases r242_0 with ⟨hE242, hl242⟩ | ⟨hE242, hl242⟩
  · show Go p.tables e below Pf (T242.setTop (mkF m 10 #[vr sa, vr sb] [(.int r_242)]))
    refine Go.by' (fun t k => (XS.ifNo X242.here hx rfl (hb hby d19_10) rfl ((if0 _ _).trans (flt hl242).1) (XS.iconst X242.here hx rfl (hb hby d19_13) (XS.goto X242.here hx rfl (pc0 := 14) (pc' := 18) rfl (hb hby d19_14) (by decide) (by decide) k)))) ?_
    show Go p.tables e below Pf (T242.setTop (mkF m 18 #[vr sa, vr sb] [(.int (1 : Int32))]))
    rw [hPf]
    exact Go.retI' X242 hx hret hlk (by simp) rfl (hb hby d19_18) (by decide) (by decide) ⟨(1 : Int32), rfl, rfl, e242, (Or.inl ⟨hE242, rfl⟩)⟩
  · show Go p.tables e below Pf (T242.setTop (mkF m 10 #[vr sa, vr sb] [(.int r_242)]))
    refine Go.by' (fun t k => (XS.ifYes X242.here hx rfl (pc0 := 10) (pc' := 17) rfl (hb hby d19_10) rfl ((if0 _ _).trans (tlt hl242).1) (by decide) (by decide) (XS.iconst X242.here hx rfl (hb hby d19_17) k))) ?_
    show Go p.tables e below Pf (T242.setTop (mkF m 18 #[vr sa, vr sb] [(.int (0 : Int32))]))
    rw [hPf]
    exact Go.retI' X242 hx hret hlk (by simp) rfl (hb hby d19_18) (by decide) (by decide) ⟨(0 : Int32), rfl, rfl, e242, (Or.inr ⟨hE242, rfl⟩)⟩
theorem ef_rmMm_2 (m : MethodId) {va : Addr} {vb : Addr} : entryFrame m #[(.ref va), (.int (0 : Int32)), (.ref vb), (.int (0 : Int32)), (.int (1 : Int32))] 8 = mkF m 0 #[vr va, vi (0 : Int32), vr vb, vi (0 : Int32), vi (1 : Int32), .unset, .unset, .unset] [] := by first | (simp [entryFrame, mkF, argsToLocals, Value.category]; done) | rfl
def QrmMm_2 (Z : State) (vcs : Int32) (wI : Addr) (wA : Addr) (cA : Cell) (va : Addr) (vb : Addr) (ka : ClassId) (kb : ClassId) (x0 : Int32) (x1 : Int32) (h0 : Heap) (n0 : Nat) (v : Option Value) (h : Heap) (L : List Loc) : Prop := ∃ (r : Int32), (v = some (.int r)) ∧ (L = []) ∧ (h = h0) ∧ ((x0 = (33 : Int32) ∧ r = (-1 : Int32)) ∨ (¬ (x0 = (33 : Int32)) ∧ r = (0 : Int32)))
theorem rmMm_2 (l : Launch) (Z : State) (a0 : Array Value) (hw : ∀ d ∈ tables_1, d.before a0 Z = true) (ws : List Jvm.Cond) (vcs : Int32) (wI : Addr) (wA : Addr) (cA : Cell) (G : Gh Z vcs wI wA cA) (va : Addr) (vb : Addr) (ka : ClassId) (kb : ClassId) (x0 : Int32) (x1 : Int32) (h0 : Heap) (n0 : Nat) (O0 : Old Z n0 h0) (VA : Arv Z h0 va ka .byte (2 : Int32) [(.int x0), (.int x1)] (.int (0 : Int32))) (VB : Arv Z h0 vb kb .byte (1 : Int32) [(.int (33 : Int32))] (.int (0 : Int32))) :
    MetFree l own_y26 (head1 (Jvm.Cond.code own_y26 jdk_48_method_14_code 8 (some .int) :: ws) ({ frames := 0, cells := 0, slots := 0, locals := 0 } : Room)) (fun aa' UU' => aa' = #[(.ref va), (.int (0 : Int32)), (.ref vb), (.int (0 : Int32)), (.int (1 : Int32))] ∧ Z.Warmed39 UU'.vm ∧ UU'.heap = h0) (fun _ _ _ _ _ => True) (fun _ UU' oo' VV' => ∃ v' L', oo' = .returned v' ∧ QrmMm_2 Z vcs wI wA cA va vb ka kb x0 x1 h0 n0 v' VV'.heap L' ∧ FrameEnd UU' oo' VV' L' ({ frames := 0, cells := 0, slots := 0, locals := 0 } : Room).cells ({ frames := 0, cells := 0, slots := 0, locals := 0 } : Room).slots) := by
  refine MetFree.of_bodySF (plainFor_of_name pn_28) hisR ?_
  intro p e s m args below meth c s₁ Bd hml0 hP hK
  obtain ⟨rfl, hZ, hh⟩ := hP
  have hml : c.maxLocals = 8 := hml0
  obtain ⟨hx, hby, hlk, hown, hnm, hret, X0, e0⟩ := own_hd Bd hh
  have N0 := Fr.nil n0
  refine Go.body ?_
  obtain ⟨Pf, hPf⟩ : ∃ P, P = Fin' s below ({ frames := 0, cells := 0, slots := 0, locals := 0 } : Room).cells ({ frames := 0, cells := 0, slots := 0, locals := 0 } : Room).slots (QrmMm_2 Z vcs wI wA cA va vb ka kb x0 x1 h0 n0) := ⟨_, rfl⟩
  rw [← hPf]
  refine Go.cast (ef_rmMm_2 m) ?_
  show Go p.tables e below Pf (s₁.setTop (mkF m 0 #[vr va, vi (0 : Int32), vr vb, vi (0 : Int32), vi (1 : Int32), .unset, .unset, .unset] []))
  refine Go.by' (fun t k => (XS.iconst X0.here hx rfl (hb hby d28_0) (XS.istore X0.here hx rfl (hb hby d28_1) rfl (l' := #[vr va, vi (0 : Int32), vr vb, vi (0 : Int32), vi (1 : Int32), vi (0 : Int32), .unset, .unset]) rfl (XS.iload X0.here hx rfl (hb hby d28_3) rfl (XS.bipush X0.here hx rfl (hb hby d28_5) (XS.icmpYes X0.here hx rfl (pc0 := 7) (pc' := 70) rfl (hb hby d28_7) rfl (flt (by decide)).2.2.2 (by decide) (by decide) (XS.iload X0.here hx rfl (hb hby d28_70) rfl (XS.iload X0.here hx rfl (hb hby d28_72) rfl (XS.icmpNo X0.here hx rfl (hb hby d28_74) rfl (tlt (by decide)).2.1 k))))))))) ?_
  show Go p.tables e below Pf (s₁.setTop (mkF m 77 #[vr va, vi (0 : Int32), vr vb, vi (0 : Int32), vi (1 : Int32), vi (0 : Int32), .unset, .unset] []))
  refine Go.by' (fun t k => (XS.aloadN X0.here hx rfl (hb hby d28_77) rfl rfl (XS.iloadN X0.here hx rfl (hb hby d28_78) rfl (XS.iload X0.here hx rfl (hb hby d28_79) rfl (XS.iadd X0.here hx rfl (hb hby d28_81) rfl (own_bal X0 hx hZ e0 VA (j := (0 : Int32)) (v := (.int x0)) ⟨by decide, by decide⟩ rfl rfl rfl (hb hby d28_82) (XS.aloadN X0.here hx rfl (hb hby d28_83) rfl rfl (XS.iloadN X0.here hx rfl (hb hby d28_84) rfl (XS.iload X0.here hx rfl (hb hby d28_85) rfl k))))))))) ?_
  show Go p.tables e below Pf (s₁.setTop (mkF m 87 #[vr va, vi (0 : Int32), vr vb, vi (0 : Int32), vi (1 : Int32), vi (0 : Int32), .unset, .unset] [(.int (0 : Int32)), (.int (0 : Int32)), (.ref vb), (.int x0)]))
  refine Go.by' (fun t k => (XS.iadd X0.here hx rfl (hb hby d28_87) rfl (own_bal X0 hx hZ e0 VB (j := (0 : Int32)) (v := (.int (33 : Int32))) ⟨by decide, by decide⟩ rfl rfl rfl (hb hby d28_88) k))) ?_
  show Go p.tables e below Pf (s₁.setTop (mkF m 89 #[vr va, vi (0 : Int32), vr vb, vi (0 : Int32), vi (1 : Int32), vi (0 : Int32), .unset, .unset] [(.int (33 : Int32)), (.int x0)]))
  by_cases hc245 : x0 = (33 : Int32)
  · refine Go.by' (fun t k => (XS.icmpYes X0.here hx rfl (pc0 := 89) (pc' := 95) rfl (hb hby d28_89) rfl (teq hc245).1 (by decide) (by decide) (XS.iinc X0.here hx rfl (hb hby d28_95) rfl (l' := #[vr va, vi (0 : Int32), vr vb, vi (0 : Int32), vi (1 : Int32), vi (1 : Int32), .unset, .unset]) rfl (XS.goto X0.here hx rfl (pc0 := 98) (pc' := 70) rfl (hb hby d28_98) (by decide) (by decide) (XS.iload X0.here hx rfl (hb hby d28_70) rfl (XS.iload X0.here hx rfl (hb hby d28_72) rfl (XS.icmpYes X0.here hx rfl (pc0 := 74) (pc' := 101) rfl (hb hby d28_74) rfl (flt (by decide)).2.1 (by decide) (by decide) (XS.iconst X0.here hx rfl (hb hby d28_101) k)))))))) ?_
    show Go p.tables e below Pf (s₁.setTop (mkF m 102 #[vr va, vi (0 : Int32), vr vb, vi (0 : Int32), vi (1 : Int32), vi (1 : Int32), .unset, .unset] [(.int (-1 : Int32))]))
    rw [hPf]
    exact Go.retI' X0 hx hret hlk (by simp) rfl (hb hby d28_102) (by decide) (by decide) ⟨(-1 : Int32), rfl, rfl, e0, (Or.inl ⟨hc245, rfl⟩)⟩
  · refine Go.by' (fun t k => (XS.icmpNo X0.here hx rfl (hb hby d28_89) rfl (feq hc245).1 (XS.iload X0.here hx rfl (hb hby d28_92) rfl k))) ?_
    show Go p.tables e below Pf (s₁.setTop (mkF m 94 #[vr va, vi (0 : Int32), vr vb, vi (0 : Int32), vi (1 : Int32), vi (0 : Int32), .unset, .unset] [(.int (0 : Int32))]))
    rw [hPf]
    exact Go.retI' X0 hx hret hlk (by simp) rfl (hb hby d28_94) (by decide) (by decide) ⟨(0 : Int32), rfl, rfl, e0, (Or.inr ⟨hc245, rfl⟩)⟩
theorem ef_rmS2_2 (m : MethodId) {sa : Addr} {sb : Addr} : entryFrame m #[(.ref sa), (.ref sb), (.int (0 : Int32))] 8 = mkF m 0 #[vr sa, vr sb, vi (0 : Int32), .unset, .unset, .unset, .unset, .unset] [] := by first | (simp [entryFrame, mkF, argsToLocals, Value.category]; done) | rfl
def QrmS2_2 (Z : State) (vcs : Int32) (wI : Addr) (wA : Addr) (cA : Cell) (sa : Addr) (sb : Addr) (va : Addr) (vb : Addr) (ka : ClassId) (kb : ClassId) (x0 : Int32) (x1 : Int32) (h0 : Heap) (n0 : Nat) (v : Option Value) (h : Heap) (L : List Loc) : Prop := ∃ (r : Int32), (v = some (.int r)) ∧ (L = []) ∧ (h = h0) ∧ ((x0 = (33 : Int32) ∧ r = (1 : Int32)) ∨ (¬ (x0 = (33 : Int32)) ∧ r = (0 : Int32)))
theorem rmS2_2 (l : Launch) (Z : State) (a0 : Array Value) (hw : ∀ d ∈ tables_1, d.before a0 Z = true) (ws : List Jvm.Cond) (vcs : Int32) (wI : Addr) (wA : Addr) (cA : Cell) (G : Gh Z vcs wI wA cA) (sa : Addr) (sb : Addr) (va : Addr) (vb : Addr) (ka : ClassId) (kb : ClassId) (x0 : Int32) (x1 : Int32) (h0 : Heap) (n0 : Nat) (O0 : Old Z n0 h0) (EA : Exa Z h0 sa "java/lang/String") (FA : Fld Z h0 sa "java/lang/String" "value" "[B" (.ref va)) (CA : Fld Z h0 sa "java/lang/String" "coder" "B" (.int (0 : Int32))) (VA : Arv Z h0 va ka .byte (2 : Int32) [(.int x0), (.int x1)] (.int (0 : Int32))) (EB : Exa Z h0 sb "java/lang/String") (FB : Fld Z h0 sb "java/lang/String" "value" "[B" (.ref vb)) (CB : Fld Z h0 sb "java/lang/String" "coder" "B" (.int (0 : Int32))) (VB : Arv Z h0 vb kb .byte (1 : Int32) [(.int (33 : Int32))] (.int (0 : Int32))) :
    MetFree l own_y27 (head1 (Jvm.Cond.code own_y27 jdk_42_method_75_code 8 (some .boolean) :: ws) ({ frames := 2, cells := 0, slots := 0, locals := 27 } : Room)) (fun aa' UU' => aa' = #[(.ref sa), (.ref sb), (.int (0 : Int32))] ∧ Z.Warmed39 UU'.vm ∧ UU'.heap = h0) (fun _ _ _ _ _ => True) (fun _ UU' oo' VV' => ∃ v' L', oo' = .returned v' ∧ QrmS2_2 Z vcs wI wA cA sa sb va vb ka kb x0 x1 h0 n0 v' VV'.heap L' ∧ FrameEnd UU' oo' VV' L' ({ frames := 2, cells := 0, slots := 0, locals := 27 } : Room).cells ({ frames := 2, cells := 0, slots := 0, locals := 27 } : Room).slots) := by
  refine MetFree.of_bodySF (plainFor_of_name pn_26) hisR ?_
  intro p e s m args below meth c s₁ Bd hml0 hP hK
  obtain ⟨rfl, hZ, hh⟩ := hP
  have hml : c.maxLocals = 8 := hml0
  obtain ⟨hx, hby, hlk, hown, hnm, hret, X0, e0⟩ := own_hd Bd hh
  have N0 := Fr.nil n0
  refine Go.body ?_
  obtain ⟨Pf, hPf⟩ : ∃ P, P = Fin' s below ({ frames := 2, cells := 0, slots := 0, locals := 27 } : Room).cells ({ frames := 2, cells := 0, slots := 0, locals := 27 } : Room).slots (QrmS2_2 Z vcs wI wA cA sa sb va vb ka kb x0 x1 h0 n0) := ⟨_, rfl⟩
  rw [← hPf]
  refine Go.cast (ef_rmS2_2 m) ?_
  have hw3 := own_w hw 3 rfl
  have hw20 := own_w hw 20 rfl
  have hw107 := own_w hw 107 rfl
  have hw108 := own_w hw 108 rfl
  have hw109 := own_w hw 109 rfl
  have hw110 := own_w hw 110 rfl
  have hw111 := own_w hw 111 rfl
  have hw129 := own_w hw 129 rfl
  have hw130 := own_w hw 130 rfl
  have hw131 := own_w hw 131 rfl
  have hw132 := own_w hw 132 rfl
  have hw133 := own_w hw 133 rfl
  have hw134 := own_w hw 134 rfl
  have hw135 := own_w hw 135 rfl
  have hw136 := own_w hw 136 rfl
  have hw137 := own_w hw 137 rfl
  show Go p.tables e below Pf (s₁.setTop (mkF m 0 #[vr sa, vr sb, vi (0 : Int32), .unset, .unset, .unset, .unset, .unset] []))
  refine Go.by' (fun t k => (XS.iloadN X0.here hx rfl (hb hby d26_0) rfl (XS.ifNo X0.here hx rfl (hb hby d26_1) rfl ((if0 _ _).trans (flt (by decide)).1) (XS.iloadN X0.here hx rfl (hb hby d26_4) rfl (XS.aloadN X0.here hx rfl (hb hby d26_5) rfl rfl k))))) ?_
  obtain ⟨cq246, kq246, q246a, q246b, q246c⟩ := isOf hZ e0 EA
  obtain ⟨_, _, ⟨T246, L246, k246, n246⟩, -, X246, ⟨Lc246, hQ246, l246, y246, z246⟩, st246⟩ := X0.virtualBack hx (y := own_y19) (z := own_y19) hown (mvT hZ hw129) (mvT hZ hw130) (notFace_of_selects (args := #[]) (mvT hZ hw132)) (mvT hZ hw132) (mvT hZ hw131) (by decide) (backOf (W := 1) (rmLn l Z a0 hw [] vcs wI wA cA G sa va ka ((2 : Int32)) ([(Value.int x0), (Value.int x1)]) h0 n0 O0 EA FA CA VA) hZ hw133 hw3 (by decide) (by decide)) q246a q246c (g := (mkF m 6 #[vr sa, vr sb, vi (0 : Int32), .unset, .unset, .unset, .unset, .unset] [(.ref sa), (.int (0 : Int32))])) rfl (by rw [hml]; rfl) (Steps.refl _) (argsL := []) (rest := [(.int (0 : Int32))]) (lenOf pd_17 rfl) rfl (Nat.le_of_eq rfl) (hb hby d26_6) (fun _ _ => ⟨rfl, e0, (by decide : 0 + 0 ≤ _), (by decide : 0 + 0 ≤ _)⟩)
  dsimp only [Pt.U, Pt.locs, Pt.cells, Pt.slots] at X246 l246 y246 z246 st246 hQ246
  subst l246 y246 z246
  obtain ⟨rfl, rfl, e246⟩ := hQ246
  try replace X246 := own_nil X246
  refine Go.by' (fun t k => st246.trans k) ?_
  show Go p.tables e below Pf (T246.setTop (mkF m 9 #[vr sa, vr sb, vi (0 : Int32), .unset, .unset, .unset, .unset, .unset] [(.int (2 : Int32)), (.int (0 : Int32))]))
  refine Go.by' (fun t k => (XS.aloadN X246.here hx rfl (hb hby d26_9) rfl rfl k)) ?_
  obtain ⟨cq247, kq247, q247a, q247b, q247c⟩ := isOf hZ e246 EB
  obtain ⟨_, _, ⟨T247, L247, k247, n247⟩, -, X247, ⟨Lc247, hQ247, l247, y247, z247⟩, st247⟩ := X246.virtualBack hx (y := own_y19) (z := own_y19) hown (mvT hZ hw129) (mvT hZ hw130) (notFace_of_selects (args := #[]) (mvT hZ hw132)) (mvT hZ hw132) (mvT hZ hw131) (by decide) (backOf (W := 2) (rmLn l Z a0 hw [] vcs wI wA cA G sb vb kb ((1 : Int32)) ([(Value.int (33 : Int32))]) h0 n0 O0 EB FB CB VB) hZ hw133 hw3 (by decide) (by decide)) q247a q247c (g := (mkF m 10 #[vr sa, vr sb, vi (0 : Int32), .unset, .unset, .unset, .unset, .unset] [(.ref sb), (.int (2 : Int32)), (.int (0 : Int32))])) rfl (by rw [hml]; rfl) (Steps.refl _) (argsL := []) (rest := [(.int (2 : Int32)), (.int (0 : Int32))]) (lenOf pd_17 rfl) rfl (Nat.le_of_eq rfl) (hb hby d26_10) (fun _ _ => ⟨rfl, e246, (by decide : 0 + 0 ≤ _), (by decide : 0 + 0 ≤ _)⟩)
  dsimp only [Pt.U, Pt.locs, Pt.cells, Pt.slots] at X247 l247 y247 z247 st247 hQ247
  subst l247 y247 z247
  obtain ⟨rfl, rfl, e247⟩ := hQ247
  try replace X247 := own_nil X247
  refine Go.by' (fun t k => st247.trans k) ?_
  show Go p.tables e below Pf (T247.setTop (mkF m 13 #[vr sa, vr sb, vi (0 : Int32), .unset, .unset, .unset, .unset, .unset] [(.int (1 : Int32)), (.int (2 : Int32)), (.int (0 : Int32))]))
  refine Go.by' (fun t k => (XS.isub X247.here hx rfl (hb hby d26_13) rfl (XS.icmpYes X247.here hx rfl (pc0 := 14) (pc' := 19) rfl (hb hby d26_14) rfl (flt (by decide)).2.2.2 (by decide) (by decide) (XS.aloadN X247.here hx rfl (hb hby d26_19) rfl rfl k)))) ?_
  obtain ⟨T248, X248, e248, st248⟩ := getF X247 hx hZ hown (host := "") (Or.inl hw20) Via.refl e247 FA (g := (mkF m 20 #[vr sa, vr sb, vi (0 : Int32), .unset, .unset, .unset, .unset, .unset] [(.ref sa)])) rfl rfl (hb hby d26_20)
  refine Go.by' st248 ?_
  show Go p.tables e below Pf (T248.setTop (mkF m 23 #[vr sa, vr sb, vi (0 : Int32), .unset, .unset, .unset, .unset, .unset] [(.ref va)]))
  refine Go.by' (fun t k => (XS.astoreN X248.here hx rfl (hb hby d26_23) rfl rfl (l' := #[vr sa, vr sb, vi (0 : Int32), vr va, .unset, .unset, .unset, .unset]) rfl (XS.aloadN X248.here hx rfl (hb hby d26_24) rfl rfl k))) ?_
  obtain ⟨T249, X249, e249, st249⟩ := getF X248 hx hZ hown (host := "") (Or.inl hw20) Via.refl e248 FB (g := (mkF m 25 #[vr sa, vr sb, vi (0 : Int32), vr va, .unset, .unset, .unset, .unset] [(.ref sb)])) rfl rfl (hb hby d26_25)
  refine Go.by' st249 ?_
  show Go p.tables e below Pf (T249.setTop (mkF m 28 #[vr sa, vr sb, vi (0 : Int32), vr va, .unset, .unset, .unset, .unset] [(.ref vb)]))
  refine Go.by' (fun t k => (XS.astore X249.here hx rfl (hb hby d26_28) rfl rfl (l' := #[vr sa, vr sb, vi (0 : Int32), vr va, vr vb, .unset, .unset, .unset]) rfl (XS.iconst X249.here hx rfl (hb hby d26_30) (XS.istore X249.here hx rfl (hb hby d26_31) rfl (l' := #[vr sa, vr sb, vi (0 : Int32), vr va, vr vb, vi (0 : Int32), .unset, .unset]) rfl (XS.aload X249.here hx rfl (hb hby d26_33) rfl rfl (own_alen X249 hx hZ e249 VB rfl rfl (hb hby d26_35) (XS.istore X249.here hx rfl (hb hby d26_36) rfl (l' := #[vr sa, vr sb, vi (0 : Int32), vr va, vr vb, vi (0 : Int32), vi (1 : Int32), .unset]) rfl (XS.aloadN X249.here hx rfl (hb hby d26_38) rfl rfl k)))))))) ?_
  obtain ⟨cq251, kq251, q251a, q251b, q251c⟩ := isOf hZ e249 EA
  obtain ⟨_, _, ⟨T251, L251, k251, n251⟩, -, X251, ⟨Lc251, hQ251, l251, y251, z251⟩, st251⟩ := X249.virtualBack hx (y := own_y17) (z := own_y17) hown (mvT hZ hw107) (mvT hZ hw108) (notFace_of_selects (args := #[]) (mvT hZ hw110)) (mvT hZ hw110) (mvT hZ hw109) (by decide) (backOf (W := 0) (rmCo l Z a0 hw [] vcs wI wA cA G sa h0 n0 O0 CA) hZ hw111 hw3 (by decide) (by decide)) q251a q251c (g := (mkF m 39 #[vr sa, vr sb, vi (0 : Int32), vr va, vr vb, vi (0 : Int32), vi (1 : Int32), .unset] [(.ref sa)])) rfl (by rw [hml]; rfl) (Steps.refl _) (argsL := []) (rest := []) (lenOf pd_12 rfl) rfl (Nat.le_of_eq rfl) (hb hby d26_39) (fun _ _ => ⟨rfl, e249, (by decide : 0 + 0 ≤ _), (by decide : 0 + 0 ≤ _)⟩)
  dsimp only [Pt.U, Pt.locs, Pt.cells, Pt.slots] at X251 l251 y251 z251 st251 hQ251
  subst l251 y251 z251
  obtain ⟨rfl, rfl, e251⟩ := hQ251
  try replace X251 := own_nil X251
  refine Go.by' (fun t k => st251.trans k) ?_
  show Go p.tables e below Pf (T251.setTop (mkF m 42 #[vr sa, vr sb, vi (0 : Int32), vr va, vr vb, vi (0 : Int32), vi (1 : Int32), .unset] [(.int (0 : Int32))]))
  refine Go.by' (fun t k => (XS.istore X251.here hx rfl (hb hby d26_42) rfl (l' := #[vr sa, vr sb, vi (0 : Int32), vr va, vr vb, vi (0 : Int32), vi (1 : Int32), vi (0 : Int32)]) rfl (XS.iload X251.here hx rfl (hb hby d26_44) rfl (XS.aloadN X251.here hx rfl (hb hby d26_46) rfl rfl k)))) ?_
  obtain ⟨cq252, kq252, q252a, q252b, q252c⟩ := isOf hZ e251 EB
  obtain ⟨_, _, ⟨T252, L252, k252, n252⟩, -, X252, ⟨Lc252, hQ252, l252, y252, z252⟩, st252⟩ := X251.virtualBack hx (y := own_y17) (z := own_y17) hown (mvT hZ hw107) (mvT hZ hw108) (notFace_of_selects (args := #[]) (mvT hZ hw110)) (mvT hZ hw110) (mvT hZ hw109) (by decide) (backOf (W := 1) (rmCo l Z a0 hw [] vcs wI wA cA G sb h0 n0 O0 CB) hZ hw111 hw3 (by decide) (by decide)) q252a q252c (g := (mkF m 47 #[vr sa, vr sb, vi (0 : Int32), vr va, vr vb, vi (0 : Int32), vi (1 : Int32), vi (0 : Int32)] [(.ref sb), (.int (0 : Int32))])) rfl (by rw [hml]; rfl) (Steps.refl _) (argsL := []) (rest := [(.int (0 : Int32))]) (lenOf pd_12 rfl) rfl (Nat.le_of_eq rfl) (hb hby d26_47) (fun _ _ => ⟨rfl, e251, (by decide : 0 + 0 ≤ _), (by decide : 0 + 0 ≤ _)⟩)
  dsimp only [Pt.U, Pt.locs, Pt.cells, Pt.slots] at X252 l252 y252 z252 st252 hQ252
  subst l252 y252 z252
  obtain ⟨rfl, rfl, e252⟩ := hQ252
  try replace X252 := own_nil X252
  refine Go.by' (fun t k => st252.trans k) ?_
  show Go p.tables e below Pf (T252.setTop (mkF m 50 #[vr sa, vr sb, vi (0 : Int32), vr va, vr vb, vi (0 : Int32), vi (1 : Int32), vi (0 : Int32)] [(.int (0 : Int32)), (.int (0 : Int32))]))
  refine Go.by' (fun t k => (XS.icmpNo X252.here hx rfl (hb hby d26_50) rfl (teq (by decide)).2 (XS.iload X252.here hx rfl (hb hby d26_53) rfl (XS.iconst X252.here hx rfl (hb hby d26_55) (XS.icmpYes X252.here hx rfl (pc0 := 56) (pc' := 63) rfl (hb hby d26_56) rfl (feq (by decide)).2 (by decide) (by decide) (XS.aloadN X252.here hx rfl (hb hby d26_63) rfl rfl (XS.iloadN X252.here hx rfl (hb hby d26_64) rfl (XS.aload X252.here hx rfl (hb hby d26_65) rfl rfl (XS.iconst X252.here hx rfl (hb hby d26_67) k))))))))) ?_
  show Go p.tables e below Pf (T252.setTop (mkF m 68 #[vr sa, vr sb, vi (0 : Int32), vr va, vr vb, vi (0 : Int32), vi (1 : Int32), vi (0 : Int32)] [(.int (0 : Int32)), (.ref vb), (.int (0 : Int32)), (.ref va)]))
  refine Go.by' (fun t k => (XS.iload X252.here hx rfl (hb hby d26_68) rfl k)) ?_
  obtain ⟨_, _, ⟨T253, L253, k253, n253⟩, -, X253, ⟨Lc253, hQ253, l253, y253, z253⟩, st253⟩ := Jvm.LawKit.callS X252 hx (y := own_y26) hown (mvT hZ hw134) (mvT hZ hw135) (mvT hZ hw136) (mvT hZ hw137) (by decide) (backOf (W := 0) (rmMm_2 l Z a0 hw [] vcs wI wA cA G va vb ka kb x0 x1 h0 n0 O0 VA VB) hZ hw137 hw136 (by decide) (by decide)) (g := (mkF m 70 #[vr sa, vr sb, vi (0 : Int32), vr va, vr vb, vi (0 : Int32), vi (1 : Int32), vi (0 : Int32)] [(.int (1 : Int32)), (.int (0 : Int32)), (.ref vb), (.int (0 : Int32)), (.ref va)])) rfl (by rw [hml]; rfl) (argsL := [(.ref va), (.int (0 : Int32)), (.ref vb), (.int (0 : Int32)), (.int (1 : Int32))]) (rest := []) (lenOf pd_13 rfl) rfl (Nat.le_of_eq rfl) (hb hby d26_70) (fun _ _ => ⟨rfl, e252, (by decide : 0 + 0 ≤ _), (by decide : 0 + 0 ≤ _)⟩)
  dsimp only [Pt.U, Pt.locs, Pt.cells, Pt.slots] at X253 l253 y253 z253 st253 hQ253
  subst l253 y253 z253
  obtain ⟨r_253, rfl, rfl, e253, r253_0⟩ := hQ253
  try replace X253 := own_nil X253
  refine Go.by' st253 ?_
  rcases r253_0 with ⟨hE253, hz253⟩ | ⟨hE253, hz253⟩
  · subst hz253
    show Go p.tables e below Pf (T253.setTop (mkF m 73 #[vr sa, vr sb, vi (0 : Int32), vr va, vr vb, vi (0 : Int32), vi (1 : Int32), vi (0 : Int32)] [(.int (-1 : Int32))]))
    refine Go.by' (fun t k => (XS.ifNo X253.here hx rfl (hb hby d26_73) rfl ((if0 _ _).trans (tlt (by decide)).2.1) (XS.iconst X253.here hx rfl (hb hby d26_76) (XS.goto X253.here hx rfl (pc0 := 77) (pc' := 81) rfl (hb hby d26_77) (by decide) (by decide) k)))) ?_
    show Go p.tables e below Pf (T253.setTop (mkF m 81 #[vr sa, vr sb, vi (0 : Int32), vr va, vr vb, vi (0 : Int32), vi (1 : Int32), vi (0 : Int32)] [(.int (1 : Int32))]))
    rw [hPf]
    exact Go.retI' X253 hx hret hlk (by simp) rfl (hb hby d26_81) (by decide) (by decide) ⟨(1 : Int32), rfl, rfl, e253, (Or.inl ⟨hE253, rfl⟩)⟩
  · subst hz253
    show Go p.tables e below Pf (T253.setTop (mkF m 73 #[vr sa, vr sb, vi (0 : Int32), vr va, vr vb, vi (0 : Int32), vi (1 : Int32), vi (0 : Int32)] [(.int (0 : Int32))]))
    refine Go.by' (fun t k => (XS.ifYes X253.here hx rfl (pc0 := 73) (pc' := 80) rfl (hb hby d26_73) rfl ((if0 _ _).trans (flt (by decide)).2.1) (by decide) (by decide) (XS.iconst X253.here hx rfl (hb hby d26_80) k))) ?_
    show Go p.tables e below Pf (T253.setTop (mkF m 81 #[vr sa, vr sb, vi (0 : Int32), vr va, vr vb, vi (0 : Int32), vi (1 : Int32), vi (0 : Int32)] [(.int (0 : Int32))]))
    rw [hPf]
    exact Go.retI' X253 hx hret hlk (by simp) rfl (hb hby d26_81) (by decide) (by decide) ⟨(0 : Int32), rfl, rfl, e253, (Or.inr ⟨hE253, rfl⟩)⟩
theorem ef_rmS1_2w (m : MethodId) {sa : Addr} {sb : Addr} : entryFrame m #[(.ref sa), (.ref sb)] 2 = mkF m 0 #[vr sa, vr sb] [] := by first | (simp [entryFrame, mkF, argsToLocals, Value.category]; done) | rfl
def QrmS1_2w (Z : State) (vcs : Int32) (wI : Addr) (wA : Addr) (cA : Cell) (sa : Addr) (sb : Addr) (va : Addr) (vb : Addr) (ka : ClassId) (kb : ClassId) (x0 : Int32) (x1 : Int32) (h0 : Heap) (n0 : Nat) (v : Option Value) (h : Heap) (L : List Loc) : Prop := ∃ (r : Int32), (v = some (.int r)) ∧ (L = []) ∧ (h = h0) ∧ ((x0 = (33 : Int32) ∧ r = (1 : Int32)) ∨ (¬ (x0 = (33 : Int32)) ∧ r = (0 : Int32)))
theorem rmS1_2w (l : Launch) (Z : State) (a0 : Array Value) (hw : ∀ d ∈ tables_1, d.before a0 Z = true) (ws : List Jvm.Cond) (vcs : Int32) (wI : Addr) (wA : Addr) (cA : Cell) (G : Gh Z vcs wI wA cA) (sa : Addr) (sb : Addr) (va : Addr) (vb : Addr) (ka : ClassId) (kb : ClassId) (x0 : Int32) (x1 : Int32) (h0 : Heap) (n0 : Nat) (O0 : Old Z n0 h0) (EA : Exa Z h0 sa "java/lang/String") (FA : Fld Z h0 sa "java/lang/String" "value" "[B" (.ref va)) (CA : Fld Z h0 sa "java/lang/String" "coder" "B" (.int (0 : Int32))) (VA : Arv Z h0 va ka .byte (2 : Int32) [(.int x0), (.int x1)] (.int (0 : Int32))) (EB : Exa Z h0 sb "java/lang/String") (FB : Fld Z h0 sb "java/lang/String" "value" "[B" (.ref vb)) (CB : Fld Z h0 sb "java/lang/String" "coder" "B" (.int (0 : Int32))) (VB : Arv Z h0 vb kb .byte (1 : Int32) [(.int (33 : Int32))] (.int (0 : Int32))) :
    MetFree l own_y28 (head1 (Jvm.Cond.code own_y28 jdk_42_method_76_code 2 (some .boolean) :: ws) ({ frames := 3, cells := 0, slots := 0, locals := 46 } : Room)) (fun aa' UU' => aa' = #[(.ref sa), (.ref sb)] ∧ Z.Warmed39 UU'.vm ∧ UU'.heap = h0) (fun _ _ _ _ _ => True) (fun _ UU' oo' VV' => ∃ v' L', oo' = .returned v' ∧ QrmS1_2w Z vcs wI wA cA sa sb va vb ka kb x0 x1 h0 n0 v' VV'.heap L' ∧ FrameEnd UU' oo' VV' L' ({ frames := 3, cells := 0, slots := 0, locals := 46 } : Room).cells ({ frames := 3, cells := 0, slots := 0, locals := 46 } : Room).slots) := by
  refine MetFree.of_bodySF (plainFor_of_name pn_25) hisR ?_
  intro p e s m args below meth c s₁ Bd hml0 hP hK
  obtain ⟨rfl, hZ, hh⟩ := hP
  have hml : c.maxLocals = 2 := hml0
  obtain ⟨hx, hby, hlk, hown, hnm, hret, X0, e0⟩ := own_hd Bd hh
  have N0 := Fr.nil n0
  refine Go.body ?_
  obtain ⟨Pf, hPf⟩ : ∃ P, P = Fin' s below ({ frames := 3, cells := 0, slots := 0, locals := 46 } : Room).cells ({ frames := 3, cells := 0, slots := 0, locals := 46 } : Room).slots (QrmS1_2w Z vcs wI wA cA sa sb va vb ka kb x0 x1 h0 n0) := ⟨_, rfl⟩
  rw [← hPf]
  refine Go.cast (ef_rmS1_2w m) ?_
  have hw3 := own_w hw 3 rfl
  have hw124 := own_w hw 124 rfl
  have hw125 := own_w hw 125 rfl
  have hw126 := own_w hw 126 rfl
  have hw127 := own_w hw 127 rfl
  have hw128 := own_w hw 128 rfl
  show Go p.tables e below Pf (s₁.setTop (mkF m 0 #[vr sa, vr sb] []))
  refine Go.by' (fun t k => (XS.aloadN X0.here hx rfl (hb hby d25_0) rfl rfl (XS.aloadN X0.here hx rfl (hb hby d25_1) rfl rfl (XS.iconst X0.here hx rfl (hb hby d25_2) k)))) ?_
  obtain ⟨cq254, kq254, q254a, q254b, q254c⟩ := isOf hZ e0 EA
  obtain ⟨_, _, ⟨T254, L254, k254, n254⟩, -, X254, ⟨Lc254, hQ254, l254, y254, z254⟩, st254⟩ := X0.virtualBack hx (y := own_y27) (z := own_y27) hown (mvT hZ hw124) (mvT hZ hw125) (notFace_of_selects (args := #[]) (mvT hZ hw127)) (mvT hZ hw127) (mvT hZ hw126) (by decide) (backOf (W := 0) (rmS2_2 l Z a0 hw [] vcs wI wA cA G sa sb va vb ka kb x0 x1 h0 n0 O0 EA FA CA VA EB FB CB VB) hZ hw128 hw3 (by decide) (by decide)) q254a q254c (g := (mkF m 3 #[vr sa, vr sb] [(.int (0 : Int32)), (.ref sb), (.ref sa)])) rfl (by rw [hml]; rfl) (Steps.refl _) (argsL := [(.ref sb), (.int (0 : Int32))]) (rest := []) (lenOf pd_18 rfl) rfl (Nat.le_of_eq rfl) (hb hby d25_3) (fun _ _ => ⟨rfl, e0, (by decide : 0 + 0 ≤ _), (by decide : 0 + 0 ≤ _)⟩)
  dsimp only [Pt.U, Pt.locs, Pt.cells, Pt.slots] at X254 l254 y254 z254 st254 hQ254
  subst l254 y254 z254
  obtain ⟨r_254, rfl, rfl, e254, r254_0⟩ := hQ254
  try replace X254 := own_nil X254
  refine Go.by' (fun t k => st254.trans k) ?_
  have b254 : r_254 = 0 ∨ r_254 = 1 := r254_0.elim (fun q => Or.inr q.2) (fun q => Or.inl q.2)
  show Go p.tables e below Pf (T254.setTop (mkF m 6 #[vr sa, vr sb] [(.int r_254)]))
  rw [hPf]
  exact Go.retI' X254 hx hret hlk (by simp) (own_nb b254) (hb hby d25_6) (by decide) (by decide) ⟨r_254, rfl, rfl, e254, r254_0⟩
theorem ef_rmEm_3 (m : MethodId) {sa : Addr} : entryFrame m #[(.ref sa)] 1 = mkF m 0 #[vr sa] [] := by first | (simp [entryFrame, mkF, argsToLocals, Value.category]; done) | rfl
def QrmEm_3 (Z : State) (vcs : Int32) (wI : Addr) (wA : Addr) (cA : Cell) (sa : Addr) (va : Addr) (ka : ClassId) (x0 : Int32) (x1 : Int32) (x2 : Int32) (h0 : Heap) (n0 : Nat) (v : Option Value) (h : Heap) (L : List Loc) : Prop := (v = some (.int (0 : Int32))) ∧ (L = []) ∧ (h = h0)
theorem rmEm_3 (l : Launch) (Z : State) (a0 : Array Value) (hw : ∀ d ∈ tables_1, d.before a0 Z = true) (ws : List Jvm.Cond) (vcs : Int32) (wI : Addr) (wA : Addr) (cA : Cell) (G : Gh Z vcs wI wA cA) (sa : Addr) (va : Addr) (ka : ClassId) (x0 : Int32) (x1 : Int32) (x2 : Int32) (h0 : Heap) (n0 : Nat) (O0 : Old Z n0 h0) (EA : Exa Z h0 sa "java/lang/String") (FA : Fld Z h0 sa "java/lang/String" "value" "[B" (.ref va)) (CA : Fld Z h0 sa "java/lang/String" "coder" "B" (.int (0 : Int32))) (VA : Arv Z h0 va ka .byte (3 : Int32) [(.int x0), (.int x1), (.int x2)] (.int (0 : Int32))) :
    MetFree l own_y20 (head1 (Jvm.Cond.code own_y20 jdk_42_method_55_code 1 (some .boolean) :: ws) ({ frames := 0, cells := 0, slots := 0, locals := 0 } : Room)) (fun aa' UU' => aa' = #[(.ref sa)] ∧ Z.Warmed39 UU'.vm ∧ UU'.heap = h0) (fun _ _ _ _ _ => True) (fun _ UU' oo' VV' => ∃ v' L', oo' = .returned v' ∧ QrmEm_3 Z vcs wI wA cA sa va ka x0 x1 x2 h0 n0 v' VV'.heap L' ∧ FrameEnd UU' oo' VV' L' ({ frames := 0, cells := 0, slots := 0, locals := 0 } : Room).cells ({ frames := 0, cells := 0, slots := 0, locals := 0 } : Room).slots) := by
  refine MetFree.of_bodySF (plainFor_of_name pn_5) hisR ?_
  intro p e s m args below meth c s₁ Bd hml0 hP hK
  obtain ⟨rfl, hZ, hh⟩ := hP
  have hml : c.maxLocals = 1 := hml0
  obtain ⟨hx, hby, hlk, hown, hnm, hret, X0, e0⟩ := own_hd Bd hh
  have N0 := Fr.nil n0
  refine Go.body ?_
  obtain ⟨Pf, hPf⟩ : ∃ P, P = Fin' s below ({ frames := 0, cells := 0, slots := 0, locals := 0 } : Room).cells ({ frames := 0, cells := 0, slots := 0, locals := 0 } : Room).slots (QrmEm_3 Z vcs wI wA cA sa va ka x0 x1 x2 h0 n0) := ⟨_, rfl⟩
  rw [← hPf]
  refine Go.cast (ef_rmEm_3 m) ?_
  have hw20 := own_w hw 20 rfl
  show Go p.tables e below Pf (s₁.setTop (mkF m 0 #[vr sa] []))
  refine Go.by' (fun t k => (XS.aloadN X0.here hx rfl (hb hby d5_0) rfl rfl k)) ?_
  obtain ⟨T255, X255, e255, st255⟩ := getF X0 hx hZ hown (host := "") (Or.inl hw20) Via.refl e0 FA (g := (mkF m 1 #[vr sa] [(.ref sa)])) rfl rfl (hb hby d5_1)
  refine Go.by' st255 ?_
  show Go p.tables e below Pf (T255.setTop (mkF m 4 #[vr sa] [(.ref va)]))
  refine Go.by' (fun t k => (own_alen X255 hx hZ e255 VA rfl rfl (hb hby d5_4) (XS.ifYes X255.here hx rfl (pc0 := 5) (pc' := 12) rfl (hb hby d5_5) rfl ((if0 _ _).trans (feq (by decide)).2) (by decide) (by decide) (XS.iconst X255.here hx rfl (hb hby d5_12) k)))) ?_
  show Go p.tables e below Pf (T255.setTop (mkF m 13 #[vr sa] [(.int (0 : Int32))]))
  rw [hPf]
  exact Go.retI' X255 hx hret hlk (by simp) rfl (hb hby d5_13) (by decide) (by decide) ⟨rfl, rfl, e255⟩
theorem ef_rmI5_3 (m : MethodId) {va : Addr} {vb : Addr} : entryFrame m #[(.ref va), (.int (3 : Int32)), (.ref vb), (.int (1 : Int32)), (.int (0 : Int32))] 11 = mkF m 0 #[vr va, vi (3 : Int32), vr vb, vi (1 : Int32), vi (0 : Int32), .unset, .unset, .unset, .unset, .unset, .unset] [] := by first | (simp [entryFrame, mkF, argsToLocals, Value.category]; done) | rfl
def QrmI5_3 (Z : State) (vcs : Int32) (wI : Addr) (wA : Addr) (cA : Cell) (va : Addr) (vb : Addr) (ka : ClassId) (kb : ClassId) (x0 : Int32) (x1 : Int32) (x2 : Int32) (h0 : Heap) (n0 : Nat) (v : Option Value) (h : Heap) (L : List Loc) : Prop := ∃ (r : Int32), (v = some (.int r)) ∧ (L = []) ∧ (h = h0) ∧ (((x0 = (44 : Int32) ∨ x1 = (44 : Int32) ∨ x2 = (44 : Int32)) ∧ ¬ (r < (0 : Int32))) ∨ (¬ (x0 = (44 : Int32) ∨ x1 = (44 : Int32) ∨ x2 = (44 : Int32)) ∧ r < (0 : Int32)))
theorem rmI5_3 (l : Launch) (Z : State) (a0 : Array Value) (hw : ∀ d ∈ tables_1, d.before a0 Z = true) (ws : List Jvm.Cond) (vcs : Int32) (wI : Addr) (wA : Addr) (cA : Cell) (G : Gh Z vcs wI wA cA) (va : Addr) (vb : Addr) (ka : ClassId) (kb : ClassId) (x0 : Int32) (x1 : Int32) (x2 : Int32) (h0 : Heap) (n0 : Nat) (O0 : Old Z n0 h0) (VA : Arv Z h0 va ka .byte (3 : Int32) [(.int x0), (.int x1), (.int x2)] (.int (0 : Int32))) (VB : Arv Z h0 vb kb .byte (1 : Int32) [(.int (44 : Int32))] (.int (0 : Int32))) :
    MetFree l own_y21 (head1 (Jvm.Cond.code own_y21 jdk_43_method_25_code 11 (some .int) :: ws) ({ frames := 0, cells := 0, slots := 0, locals := 0 } : Room)) (fun aa' UU' => aa' = #[(.ref va), (.int (3 : Int32)), (.ref vb), (.int (1 : Int32)), (.int (0 : Int32))] ∧ Z.Warmed39 UU'.vm ∧ UU'.heap = h0) (fun _ _ _ _ _ => True) (fun _ UU' oo' VV' => ∃ v' L', oo' = .returned v' ∧ QrmI5_3 Z vcs wI wA cA va vb ka kb x0 x1 x2 h0 n0 v' VV'.heap L' ∧ FrameEnd UU' oo' VV' L' ({ frames := 0, cells := 0, slots := 0, locals := 0 } : Room).cells ({ frames := 0, cells := 0, slots := 0, locals := 0 } : Room).slots) := by
  refine MetFree.of_bodySF (plainFor_of_name pn_24) hisR ?_
  intro p e s m args below meth c s₁ Bd hml0 hP hK
  obtain ⟨rfl, hZ, hh⟩ := hP
  have hml : c.maxLocals = 11 := hml0
  obtain ⟨hx, hby, hlk, hown, hnm, hret, X0, e0⟩ := own_hd Bd hh
  have N0 := Fr.nil n0
  refine Go.body ?_
  obtain ⟨Pf, hPf⟩ : ∃ P, P = Fin' s below ({ frames := 0, cells := 0, slots := 0, locals := 0 } : Room).cells ({ frames := 0, cells := 0, slots := 0, locals := 0 } : Room).slots (QrmI5_3 Z vcs wI wA cA va vb ka kb x0 x1 x2 h0 n0) := ⟨_, rfl⟩
  rw [← hPf]
  refine Go.cast (ef_rmI5_3 m) ?_
  show Go p.tables e below Pf (s₁.setTop (mkF m 0 #[vr va, vi (3 : Int32), vr vb, vi (1 : Int32), vi (0 : Int32), .unset, .unset, .unset, .unset, .unset, .unset] []))
  refine Go.by' (fun t k => (XS.aloadN X0.here hx rfl (hb hby d24_0) rfl rfl (XS.iconst X0.here hx rfl (hb hby d24_1) (own_bal X0 hx hZ e0 VB (j := (0 : Int32)) (v := (.int (44 : Int32))) ⟨by decide, by decide⟩ rfl rfl rfl (hb hby d24_2) (XS.istore X0.here hx rfl (hb hby d24_3) rfl (l' := #[vr va, vi (3 : Int32), vr vb, vi (1 : Int32), vi (0 : Int32), vi (44 : Int32), .unset, .unset, .unset, .unset, .unset]) rfl (XS.iloadN X0.here hx rfl (hb hby d24_5) rfl (XS.iloadN X0.here hx rfl (hb hby d24_6) rfl (XS.isub X0.here hx rfl (hb hby d24_7) rfl (XS.istore X0.here hx rfl (hb hby d24_8) rfl (l' := #[vr va, vi (3 : Int32), vr vb, vi (1 : Int32), vi (0 : Int32), vi (44 : Int32), vi (2 : Int32), .unset, .unset, .unset, .unset]) rfl k))))))))) ?_
  show Go p.tables e below Pf (s₁.setTop (mkF m 10 #[vr va, vi (3 : Int32), vr vb, vi (1 : Int32), vi (0 : Int32), vi (44 : Int32), vi (2 : Int32), .unset, .unset, .unset, .unset] []))
  refine Go.by' (fun t k => (XS.iload X0.here hx rfl (hb hby d24_10) rfl (XS.istore X0.here hx rfl (hb hby d24_12) rfl (l' := #[vr va, vi (3 : Int32), vr vb, vi (1 : Int32), vi (0 : Int32), vi (44 : Int32), vi (2 : Int32), vi (0 : Int32), .unset, .unset, .unset]) rfl (XS.iload X0.here hx rfl (hb hby d24_14) rfl (XS.iload X0.here hx rfl (hb hby d24_16) rfl (XS.icmpNo X0.here hx rfl (hb hby d24_18) rfl (flt (by decide)).2.2.1 (XS.aloadN X0.here hx rfl (hb hby d24_21) rfl rfl (XS.iload X0.here hx rfl (hb hby d24_22) rfl (own_bal X0 hx hZ e0 VA (j := (0 : Int32)) (v := (.int x0)) ⟨by decide, by decide⟩ rfl rfl rfl (hb hby d24_24) k))))))))) ?_
  show Go p.tables e below Pf (s₁.setTop (mkF m 25 #[vr va, vi (3 : Int32), vr vb, vi (1 : Int32), vi (0 : Int32), vi (44 : Int32), vi (2 : Int32), vi (0 : Int32), .unset, .unset, .unset] [(.int x0)]))
  refine Go.by' (fun t k => (XS.iload X0.here hx rfl (hb hby d24_25) rfl k)) ?_
  show Go p.tables e below Pf (s₁.setTop (mkF m 27 #[vr va, vi (3 : Int32), vr vb, vi (1 : Int32), vi (0 : Int32), vi (44 : Int32), vi (2 : Int32), vi (0 : Int32), .unset, .unset, .unset] [(.int (44 : Int32)), (.int x0)]))
  by_cases hc259 : x0 = (44 : Int32)
  · refine Go.by' (fun t k => (XS.icmpYes X0.here hx rfl (pc0 := 27) (pc' := 52) rfl (hb hby d24_27) rfl (teq hc259).1 (by decide) (by decide) (XS.iload X0.here hx rfl (hb hby d24_52) rfl (XS.iload X0.here hx rfl (hb hby d24_54) rfl (XS.icmpNo X0.here hx rfl (hb hby d24_56) rfl (flt (by decide)).2.2.1 (XS.iload X0.here hx rfl (hb hby d24_59) rfl (XS.iconst X0.here hx rfl (hb hby d24_61) (XS.iadd X0.here hx rfl (hb hby d24_62) rfl (XS.istore X0.here hx rfl (hb hby d24_63) rfl (l' := #[vr va, vi (3 : Int32), vr vb, vi (1 : Int32), vi (0 : Int32), vi (44 : Int32), vi (2 : Int32), vi (0 : Int32), vi (1 : Int32), .unset, .unset]) rfl k))))))))) ?_
    show Go p.tables e below Pf (s₁.setTop (mkF m 65 #[vr va, vi (3 : Int32), vr vb, vi (1 : Int32), vi (0 : Int32), vi (44 : Int32), vi (2 : Int32), vi (0 : Int32), vi (1 : Int32), .unset, .unset] []))
    refine Go.by' (fun t k => (XS.iload X0.here hx rfl (hb hby d24_65) rfl (XS.iloadN X0.here hx rfl (hb hby d24_67) rfl (XS.iadd X0.here hx rfl (hb hby d24_68) rfl (XS.iconst X0.here hx rfl (hb hby d24_69) (XS.isub X0.here hx rfl (hb hby d24_70) rfl (XS.istore X0.here hx rfl (hb hby d24_71) rfl (l' := #[vr va, vi (3 : Int32), vr vb, vi (1 : Int32), vi (0 : Int32), vi (44 : Int32), vi (2 : Int32), vi (0 : Int32), vi (1 : Int32), vi (1 : Int32), .unset]) rfl (XS.iconst X0.here hx rfl (hb hby d24_73) (XS.istore X0.here hx rfl (hb hby d24_74) rfl (l' := #[vr va, vi (3 : Int32), vr vb, vi (1 : Int32), vi (0 : Int32), vi (44 : Int32), vi (2 : Int32), vi (0 : Int32), vi (1 : Int32), vi (1 : Int32), vi (1 : Int32)]) rfl k))))))))) ?_
    show Go p.tables e below Pf (s₁.setTop (mkF m 76 #[vr va, vi (3 : Int32), vr vb, vi (1 : Int32), vi (0 : Int32), vi (44 : Int32), vi (2 : Int32), vi (0 : Int32), vi (1 : Int32), vi (1 : Int32), vi (1 : Int32)] []))
    refine Go.by' (fun t k => (XS.iload X0.here hx rfl (hb hby d24_76) rfl (XS.iload X0.here hx rfl (hb hby d24_78) rfl (XS.icmpYes X0.here hx rfl (pc0 := 80) (pc' := 103) rfl (hb hby d24_80) rfl (flt (by decide)).2.1 (by decide) (by decide) (XS.iload X0.here hx rfl (hb hby d24_103) rfl (XS.iload X0.here hx rfl (hb hby d24_105) rfl (XS.icmpNo X0.here hx rfl (hb hby d24_107) rfl (teq (by decide)).2 (XS.iload X0.here hx rfl (hb hby d24_110) rfl k)))))))) ?_
    show Go p.tables e below Pf (s₁.setTop (mkF m 112 #[vr va, vi (3 : Int32), vr vb, vi (1 : Int32), vi (0 : Int32), vi (44 : Int32), vi (2 : Int32), vi (0 : Int32), vi (1 : Int32), vi (1 : Int32), vi (1 : Int32)] [(.int (0 : Int32))]))
    rw [hPf]
    exact Go.retI' X0 hx hret hlk (by simp) rfl (hb hby d24_112) (by decide) (by decide) ⟨(0 : Int32), rfl, rfl, e0, (Or.inl ⟨(Or.inl hc259), by decide⟩)⟩
  · refine Go.by' (fun t k => (XS.icmpNo X0.here hx rfl (hb hby d24_27) rfl (feq hc259).1 (XS.iinc X0.here hx rfl (hb hby d24_30) rfl (l' := #[vr va, vi (3 : Int32), vr vb, vi (1 : Int32), vi (0 : Int32), vi (44 : Int32), vi (2 : Int32), vi (1 : Int32), .unset, .unset, .unset]) rfl (XS.iload X0.here hx rfl (hb hby d24_33) rfl (XS.iload X0.here hx rfl (hb hby d24_35) rfl (XS.icmpNo X0.here hx rfl (hb hby d24_37) rfl (flt (by decide)).2.2.1 (XS.aloadN X0.here hx rfl (hb hby d24_40) rfl rfl (XS.iload X0.here hx rfl (hb hby d24_41) rfl (own_bal X0 hx hZ e0 VA (j := (1 : Int32)) (v := (.int x1)) ⟨by decide, by decide⟩ rfl rfl rfl (hb hby d24_43) k))))))))) ?_
    show Go p.tables e below Pf (s₁.setTop (mkF m 44 #[vr va, vi (3 : Int32), vr vb, vi (1 : Int32), vi (0 : Int32), vi (44 : Int32), vi (2 : Int32), vi (1 : Int32), .unset, .unset, .unset] [(.int x1)]))
    refine Go.by' (fun t k => (XS.iload X0.here hx rfl (hb hby d24_44) rfl k)) ?_
    show Go p.tables e below Pf (s₁.setTop (mkF m 46 #[vr va, vi (3 : Int32), vr vb, vi (1 : Int32), vi (0 : Int32), vi (44 : Int32), vi (2 : Int32), vi (1 : Int32), .unset, .unset, .unset] [(.int (44 : Int32)), (.int x1)]))
    by_cases hc261 : x1 = (44 : Int32)
    · refine Go.by' (fun t k => (XS.icmpYes X0.here hx rfl (pc0 := 46) (pc' := 52) rfl (hb hby d24_46) rfl (teq hc261).1 (by decide) (by decide) (XS.iload X0.here hx rfl (hb hby d24_52) rfl (XS.iload X0.here hx rfl (hb hby d24_54) rfl (XS.icmpNo X0.here hx rfl (hb hby d24_56) rfl (flt (by decide)).2.2.1 (XS.iload X0.here hx rfl (hb hby d24_59) rfl (XS.iconst X0.here hx rfl (hb hby d24_61) (XS.iadd X0.here hx rfl (hb hby d24_62) rfl (XS.istore X0.here hx rfl (hb hby d24_63) rfl (l' := #[vr va, vi (3 : Int32), vr vb, vi (1 : Int32), vi (0 : Int32), vi (44 : Int32), vi (2 : Int32), vi (1 : Int32), vi (2 : Int32), .unset, .unset]) rfl k))))))))) ?_
      show Go p.tables e below Pf (s₁.setTop (mkF m 65 #[vr va, vi (3 : Int32), vr vb, vi (1 : Int32), vi (0 : Int32), vi (44 : Int32), vi (2 : Int32), vi (1 : Int32), vi (2 : Int32), .unset, .unset] []))
      refine Go.by' (fun t k => (XS.iload X0.here hx rfl (hb hby d24_65) rfl (XS.iloadN X0.here hx rfl (hb hby d24_67) rfl (XS.iadd X0.here hx rfl (hb hby d24_68) rfl (XS.iconst X0.here hx rfl (hb hby d24_69) (XS.isub X0.here hx rfl (hb hby d24_70) rfl (XS.istore X0.here hx rfl (hb hby d24_71) rfl (l' := #[vr va, vi (3 : Int32), vr vb, vi (1 : Int32), vi (0 : Int32), vi (44 : Int32), vi (2 : Int32), vi (1 : Int32), vi (2 : Int32), vi (2 : Int32), .unset]) rfl (XS.iconst X0.here hx rfl (hb hby d24_73) (XS.istore X0.here hx rfl (hb hby d24_74) rfl (l' := #[vr va, vi (3 : Int32), vr vb, vi (1 : Int32), vi (0 : Int32), vi (44 : Int32), vi (2 : Int32), vi (1 : Int32), vi (2 : Int32), vi (2 : Int32), vi (1 : Int32)]) rfl k))))))))) ?_
      show Go p.tables e below Pf (s₁.setTop (mkF m 76 #[vr va, vi (3 : Int32), vr vb, vi (1 : Int32), vi (0 : Int32), vi (44 : Int32), vi (2 : Int32), vi (1 : Int32), vi (2 : Int32), vi (2 : Int32), vi (1 : Int32)] []))
      refine Go.by' (fun t k => (XS.iload X0.here hx rfl (hb hby d24_76) rfl (XS.iload X0.here hx rfl (hb hby d24_78) rfl (XS.icmpYes X0.here hx rfl (pc0 := 80) (pc' := 103) rfl (hb hby d24_80) rfl (flt (by decide)).2.1 (by decide) (by decide) (XS.iload X0.here hx rfl (hb hby d24_103) rfl (XS.iload X0.here hx rfl (hb hby d24_105) rfl (XS.icmpNo X0.here hx rfl (hb hby d24_107) rfl (teq (by decide)).2 (XS.iload X0.here hx rfl (hb hby d24_110) rfl k)))))))) ?_
      show Go p.tables e below Pf (s₁.setTop (mkF m 112 #[vr va, vi (3 : Int32), vr vb, vi (1 : Int32), vi (0 : Int32), vi (44 : Int32), vi (2 : Int32), vi (1 : Int32), vi (2 : Int32), vi (2 : Int32), vi (1 : Int32)] [(.int (1 : Int32))]))
      rw [hPf]
      exact Go.retI' X0 hx hret hlk (by simp) rfl (hb hby d24_112) (by decide) (by decide) ⟨(1 : Int32), rfl, rfl, e0, (Or.inl ⟨(Or.inr (Or.inl hc261)), by decide⟩)⟩
    · refine Go.by' (fun t k => (XS.icmpNo X0.here hx rfl (hb hby d24_46) rfl (feq hc261).1 (XS.goto X0.here hx rfl (pc0 := 49) (pc' := 30) rfl (hb hby d24_49) (by decide) (by decide) (XS.iinc X0.here hx rfl (hb hby d24_30) rfl (l' := #[vr va, vi (3 : Int32), vr vb, vi (1 : Int32), vi (0 : Int32), vi (44 : Int32), vi (2 : Int32), vi (2 : Int32), .unset, .unset, .unset]) rfl (XS.iload X0.here hx rfl (hb hby d24_33) rfl (XS.iload X0.here hx rfl (hb hby d24_35) rfl (XS.icmpNo X0.here hx rfl (hb hby d24_37) rfl (flt (by decide)).2.2.1 (XS.aloadN X0.here hx rfl (hb hby d24_40) rfl rfl (XS.iload X0.here hx rfl (hb hby d24_41) rfl k))))))))) ?_
      show Go p.tables e below Pf (s₁.setTop (mkF m 43 #[vr va, vi (3 : Int32), vr vb, vi (1 : Int32), vi (0 : Int32), vi (44 : Int32), vi (2 : Int32), vi (2 : Int32), .unset, .unset, .unset] [(.int (2 : Int32)), (.ref va)]))
      refine Go.by' (fun t k => (own_bal X0 hx hZ e0 VA (j := (2 : Int32)) (v := (.int x2)) ⟨by decide, by decide⟩ rfl rfl rfl (hb hby d24_43) (XS.iload X0.here hx rfl (hb hby d24_44) rfl k))) ?_
      show Go p.tables e below Pf (s₁.setTop (mkF m 46 #[vr va, vi (3 : Int32), vr vb, vi (1 : Int32), vi (0 : Int32), vi (44 : Int32), vi (2 : Int32), vi (2 : Int32), .unset, .unset, .unset] [(.int (44 : Int32)), (.int x2)]))
      by_cases hc263 : x2 = (44 : Int32)
      · refine Go.by' (fun t k => (XS.icmpYes X0.here hx rfl (pc0 := 46) (pc' := 52) rfl (hb hby d24_46) rfl (teq hc263).1 (by decide) (by decide) (XS.iload X0.here hx rfl (hb hby d24_52) rfl (XS.iload X0.here hx rfl (hb hby d24_54) rfl (XS.icmpNo X0.here hx rfl (hb hby d24_56) rfl (flt (by decide)).2.2.1 (XS.iload X0.here hx rfl (hb hby d24_59) rfl (XS.iconst X0.here hx rfl (hb hby d24_61) (XS.iadd X0.here hx rfl (hb hby d24_62) rfl (XS.istore X0.here hx rfl (hb hby d24_63) rfl (l' := #[vr va, vi (3 : Int32), vr vb, vi (1 : Int32), vi (0 : Int32), vi (44 : Int32), vi (2 : Int32), vi (2 : Int32), vi (3 : Int32), .unset, .unset]) rfl k))))))))) ?_
        show Go p.tables e below Pf (s₁.setTop (mkF m 65 #[vr va, vi (3 : Int32), vr vb, vi (1 : Int32), vi (0 : Int32), vi (44 : Int32), vi (2 : Int32), vi (2 : Int32), vi (3 : Int32), .unset, .unset] []))
        refine Go.by' (fun t k => (XS.iload X0.here hx rfl (hb hby d24_65) rfl (XS.iloadN X0.here hx rfl (hb hby d24_67) rfl (XS.iadd X0.here hx rfl (hb hby d24_68) rfl (XS.iconst X0.here hx rfl (hb hby d24_69) (XS.isub X0.here hx rfl (hb hby d24_70) rfl (XS.istore X0.here hx rfl (hb hby d24_71) rfl (l' := #[vr va, vi (3 : Int32), vr vb, vi (1 : Int32), vi (0 : Int32), vi (44 : Int32), vi (2 : Int32), vi (2 : Int32), vi (3 : Int32), vi (3 : Int32), .unset]) rfl (XS.iconst X0.here hx rfl (hb hby d24_73) (XS.istore X0.here hx rfl (hb hby d24_74) rfl (l' := #[vr va, vi (3 : Int32), vr vb, vi (1 : Int32), vi (0 : Int32), vi (44 : Int32), vi (2 : Int32), vi (2 : Int32), vi (3 : Int32), vi (3 : Int32), vi (1 : Int32)]) rfl k))))))))) ?_
        show Go p.tables e below Pf (s₁.setTop (mkF m 76 #[vr va, vi (3 : Int32), vr vb, vi (1 : Int32), vi (0 : Int32), vi (44 : Int32), vi (2 : Int32), vi (2 : Int32), vi (3 : Int32), vi (3 : Int32), vi (1 : Int32)] []))
        refine Go.by' (fun t k => (XS.iload X0.here hx rfl (hb hby d24_76) rfl (XS.iload X0.here hx rfl (hb hby d24_78) rfl (XS.icmpYes X0.here hx rfl (pc0 := 80) (pc' := 103) rfl (hb hby d24_80) rfl (flt (by decide)).2.1 (by decide) (by decide) (XS.iload X0.here hx rfl (hb hby d24_103) rfl (XS.iload X0.here hx rfl (hb hby d24_105) rfl (XS.icmpNo X0.here hx rfl (hb hby d24_107) rfl (teq (by decide)).2 (XS.iload X0.here hx rfl (hb hby d24_110) rfl k)))))))) ?_
        show Go p.tables e below Pf (s₁.setTop (mkF m 112 #[vr va, vi (3 : Int32), vr vb, vi (1 : Int32), vi (0 : Int32), vi (44 : Int32), vi (2 : Int32), vi (2 : Int32), vi (3 : Int32), vi (3 : Int32), vi (1 : Int32)] [(.int (2 : Int32))]))
        rw [hPf]
        exact Go.retI' X0 hx hret hlk (by simp) rfl (hb hby d24_112) (by decide) (by decide) ⟨(2 : Int32), rfl, rfl, e0, (Or.inl ⟨(Or.inr (Or.inr hc263)), by decide⟩)⟩
      · refine Go.by' (fun t k => (XS.icmpNo X0.here hx rfl (hb hby d24_46) rfl (feq hc263).1 (XS.goto X0.here hx rfl (pc0 := 49) (pc' := 30) rfl (hb hby d24_49) (by decide) (by decide) (XS.iinc X0.here hx rfl (hb hby d24_30) rfl (l' := #[vr va, vi (3 : Int32), vr vb, vi (1 : Int32), vi (0 : Int32), vi (44 : Int32), vi (2 : Int32), vi (3 : Int32), .unset, .unset, .unset]) rfl (XS.iload X0.here hx rfl (hb hby d24_33) rfl (XS.iload X0.here hx rfl (hb hby d24_35) rfl (XS.icmpYes X0.here hx rfl (pc0 := 37) (pc' := 52) rfl (hb hby d24_37) rfl (tlt (by decide)).2.2.1 (by decide) (by decide) (XS.iload X0.here hx rfl (hb hby d24_52) rfl (XS.iload X0.here hx rfl (hb hby d24_54) rfl k))))))))) ?_
        show Go p.tables e below Pf (s₁.setTop (mkF m 56 #[vr va, vi (3 : Int32), vr vb, vi (1 : Int32), vi (0 : Int32), vi (44 : Int32), vi (2 : Int32), vi (3 : Int32), .unset, .unset, .unset] [(.int (2 : Int32)), (.int (3 : Int32))]))
        refine Go.by' (fun t k => (XS.icmpYes X0.here hx rfl (pc0 := 56) (pc' := 113) rfl (hb hby d24_56) rfl (tlt (by decide)).2.2.1 (by decide) (by decide) (XS.iinc X0.here hx rfl (hb hby d24_113) rfl (l' := #[vr va, vi (3 : Int32), vr vb, vi (1 : Int32), vi (0 : Int32), vi (44 : Int32), vi (2 : Int32), vi (4 : Int32), .unset, .unset, .unset]) rfl (XS.goto X0.here hx rfl (pc0 := 116) (pc' := 14) rfl (hb hby d24_116) (by decide) (by decide) (XS.iload X0.here hx rfl (hb hby d24_14) rfl (XS.iload X0.here hx rfl (hb hby d24_16) rfl (XS.icmpYes X0.here hx rfl (pc0 := 18) (pc' := 119) rfl (hb hby d24_18) rfl (tlt (by decide)).2.2.1 (by decide) (by decide) (XS.iconst X0.here hx rfl (hb hby d24_119) k)))))))) ?_
        show Go p.tables e below Pf (s₁.setTop (mkF m 120 #[vr va, vi (3 : Int32), vr vb, vi (1 : Int32), vi (0 : Int32), vi (44 : Int32), vi (2 : Int32), vi (4 : Int32), .unset, .unset, .unset] [(.int (-1 : Int32))]))
        rw [hPf]
        exact Go.retI' X0 hx hret hlk (by simp) rfl (hb hby d24_120) (by decide) (by decide) ⟨(-1 : Int32), rfl, rfl, e0, (Or.inr ⟨(fun q => q.elim hc259 (fun q => q.elim hc261 hc263)), by decide⟩)⟩
theorem ef_rmI2_3 (m : MethodId) {va : Addr} {vb : Addr} : entryFrame m #[(.ref va), (.ref vb)] 2 = mkF m 0 #[vr va, vr vb] [] := by first | (simp [entryFrame, mkF, argsToLocals, Value.category]; done) | rfl
def QrmI2_3 (Z : State) (vcs : Int32) (wI : Addr) (wA : Addr) (cA : Cell) (va : Addr) (vb : Addr) (ka : ClassId) (kb : ClassId) (x0 : Int32) (x1 : Int32) (x2 : Int32) (h0 : Heap) (n0 : Nat) (v : Option Value) (h : Heap) (L : List Loc) : Prop := ∃ (r : Int32), (v = some (.int r)) ∧ (L = []) ∧ (h = h0) ∧ (((x0 = (44 : Int32) ∨ x1 = (44 : Int32) ∨ x2 = (44 : Int32)) ∧ ¬ (r < (0 : Int32))) ∨ (¬ (x0 = (44 : Int32) ∨ x1 = (44 : Int32) ∨ x2 = (44 : Int32)) ∧ r < (0 : Int32)))
theorem rmI2_3 (l : Launch) (Z : State) (a0 : Array Value) (hw : ∀ d ∈ tables_1, d.before a0 Z = true) (ws : List Jvm.Cond) (vcs : Int32) (wI : Addr) (wA : Addr) (cA : Cell) (G : Gh Z vcs wI wA cA) (va : Addr) (vb : Addr) (ka : ClassId) (kb : ClassId) (x0 : Int32) (x1 : Int32) (x2 : Int32) (h0 : Heap) (n0 : Nat) (O0 : Old Z n0 h0) (VA : Arv Z h0 va ka .byte (3 : Int32) [(.int x0), (.int x1), (.int x2)] (.int (0 : Int32))) (VB : Arv Z h0 vb kb .byte (1 : Int32) [(.int (44 : Int32))] (.int (0 : Int32))) :
    MetFree l own_y22 (head1 (Jvm.Cond.code own_y22 jdk_43_method_24_code 2 (some .int) :: ws) ({ frames := 1, cells := 0, slots := 0, locals := 22 } : Room)) (fun aa' UU' => aa' = #[(.ref va), (.ref vb)] ∧ Z.Warmed39 UU'.vm ∧ UU'.heap = h0) (fun _ _ _ _ _ => True) (fun _ UU' oo' VV' => ∃ v' L', oo' = .returned v' ∧ QrmI2_3 Z vcs wI wA cA va vb ka kb x0 x1 x2 h0 n0 v' VV'.heap L' ∧ FrameEnd UU' oo' VV' L' ({ frames := 1, cells := 0, slots := 0, locals := 22 } : Room).cells ({ frames := 1, cells := 0, slots := 0, locals := 22 } : Room).slots) := by
  refine MetFree.of_bodySF (plainFor_of_name pn_23) hisR ?_
  intro p e s m args below meth c s₁ Bd hml0 hP hK
  obtain ⟨rfl, hZ, hh⟩ := hP
  have hml : c.maxLocals = 2 := hml0
  obtain ⟨hx, hby, hlk, hown, hnm, hret, X0, e0⟩ := own_hd Bd hh
  have N0 := Fr.nil n0
  refine Go.body ?_
  obtain ⟨Pf, hPf⟩ : ∃ P, P = Fin' s below ({ frames := 1, cells := 0, slots := 0, locals := 22 } : Room).cells ({ frames := 1, cells := 0, slots := 0, locals := 22 } : Room).slots (QrmI2_3 Z vcs wI wA cA va vb ka kb x0 x1 x2 h0 n0) := ⟨_, rfl⟩
  rw [← hPf]
  refine Go.cast (ef_rmI2_3 m) ?_
  have hw58 := own_w hw 58 rfl
  have hw115 := own_w hw 115 rfl
  have hw116 := own_w hw 116 rfl
  have hw117 := own_w hw 117 rfl
  show Go p.tables e below Pf (s₁.setTop (mkF m 0 #[vr va, vr vb] []))
  refine Go.by' (fun t k => (XS.aloadN X0.here hx rfl (hb hby d23_0) rfl rfl (own_alen X0 hx hZ e0 VB rfl rfl (hb hby d23_1) (XS.ifYes X0.here hx rfl (pc0 := 2) (pc' := 7) rfl (hb hby d23_2) rfl ((if0 _ _).trans (feq (by decide)).2) (by decide) (by decide) (XS.aloadN X0.here hx rfl (hb hby d23_7) rfl rfl (own_alen X0 hx hZ e0 VA rfl rfl (hb hby d23_8) (XS.ifYes X0.here hx rfl (pc0 := 9) (pc' := 14) rfl (hb hby d23_9) rfl ((if0 _ _).trans (feq (by decide)).2) (by decide) (by decide) (XS.aloadN X0.here hx rfl (hb hby d23_14) rfl rfl (XS.aloadN X0.here hx rfl (hb hby d23_15) rfl rfl k))))))))) ?_
  show Go p.tables e below Pf (s₁.setTop (mkF m 16 #[vr va, vr vb] [(.ref va), (.ref va)]))
  refine Go.by' (fun t k => (own_alen X0 hx hZ e0 VA rfl rfl (hb hby d23_16) (XS.aloadN X0.here hx rfl (hb hby d23_17) rfl rfl (XS.aloadN X0.here hx rfl (hb hby d23_18) rfl rfl (own_alen X0 hx hZ e0 VB rfl rfl (hb hby d23_19) (XS.iconst X0.here hx rfl (hb hby d23_20) k)))))) ?_
  obtain ⟨_, _, ⟨T268, L268, k268, n268⟩, -, X268, ⟨Lc268, hQ268, l268, y268, z268⟩, st268⟩ := Jvm.LawKit.callS X0 hx (y := own_y21) hown (mvT hZ hw115) (mvT hZ hw116) (mvT hZ hw58) (mvT hZ hw117) (by decide) (backOf (W := 0) (rmI5_3 l Z a0 hw [] vcs wI wA cA G va vb ka kb x0 x1 x2 h0 n0 O0 VA VB) hZ hw117 hw58 (by decide) (by decide)) (g := (mkF m 21 #[vr va, vr vb] [(.int (0 : Int32)), (.int (1 : Int32)), (.ref vb), (.int (3 : Int32)), (.ref va)])) rfl (by rw [hml]; rfl) (argsL := [(.ref va), (.int (3 : Int32)), (.ref vb), (.int (1 : Int32)), (.int (0 : Int32))]) (rest := []) (lenOf pd_13 rfl) rfl (Nat.le_of_eq rfl) (hb hby d23_21) (fun _ _ => ⟨rfl, e0, (by decide : 0 + 0 ≤ _), (by decide : 0 + 0 ≤ _)⟩)
  dsimp only [Pt.U, Pt.locs, Pt.cells, Pt.slots] at X268 l268 y268 z268 st268 hQ268
  subst l268 y268 z268
  obtain ⟨r_268, rfl, rfl, e268, r268_0⟩ := hQ268
  try replace X268 := own_nil X268
  refine Go.by' st268 ?_
  show Go p.tables e below Pf (T268.setTop (mkF m 24 #[vr va, vr vb] [(.int r_268)]))
  rw [hPf]
  exact Go.retI' X268 hx hret hlk (by simp) rfl (hb hby d23_24) (by decide) (by decide) ⟨r_268, rfl, rfl, e268, r268_0⟩
theorem ef_rmI1_3 (m : MethodId) {sa : Addr} {sb : Addr} : entryFrame m #[(.ref sa), (.ref sb)] 3 = mkF m 0 #[vr sa, vr sb, .unset] [] := by first | (simp [entryFrame, mkF, argsToLocals, Value.category]; done) | rfl
def QrmI1_3 (Z : State) (vcs : Int32) (wI : Addr) (wA : Addr) (cA : Cell) (sa : Addr) (sb : Addr) (va : Addr) (vb : Addr) (ka : ClassId) (kb : ClassId) (x0 : Int32) (x1 : Int32) (x2 : Int32) (h0 : Heap) (n0 : Nat) (v : Option Value) (h : Heap) (L : List Loc) : Prop := ∃ (r : Int32), (v = some (.int r)) ∧ (L = []) ∧ (h = h0) ∧ (((x0 = (44 : Int32) ∨ x1 = (44 : Int32) ∨ x2 = (44 : Int32)) ∧ ¬ (r < (0 : Int32))) ∨ (¬ (x0 = (44 : Int32) ∨ x1 = (44 : Int32) ∨ x2 = (44 : Int32)) ∧ r < (0 : Int32)))
theorem rmI1_3 (l : Launch) (Z : State) (a0 : Array Value) (hw : ∀ d ∈ tables_1, d.before a0 Z = true) (ws : List Jvm.Cond) (vcs : Int32) (wI : Addr) (wA : Addr) (cA : Cell) (G : Gh Z vcs wI wA cA) (sa : Addr) (sb : Addr) (va : Addr) (vb : Addr) (ka : ClassId) (kb : ClassId) (x0 : Int32) (x1 : Int32) (x2 : Int32) (h0 : Heap) (n0 : Nat) (O0 : Old Z n0 h0) (EA : Exa Z h0 sa "java/lang/String") (FA : Fld Z h0 sa "java/lang/String" "value" "[B" (.ref va)) (CA : Fld Z h0 sa "java/lang/String" "coder" "B" (.int (0 : Int32))) (VA : Arv Z h0 va ka .byte (3 : Int32) [(.int x0), (.int x1), (.int x2)] (.int (0 : Int32))) (EB : Exa Z h0 sb "java/lang/String") (FB : Fld Z h0 sb "java/lang/String" "value" "[B" (.ref vb)) (CB : Fld Z h0 sb "java/lang/String" "coder" "B" (.int (0 : Int32))) (VB : Arv Z h0 vb kb .byte (1 : Int32) [(.int (44 : Int32))] (.int (0 : Int32))) :
    MetFree l own_y23 (head1 (Jvm.Cond.code own_y23 jdk_42_method_84_code 3 (some .int) :: ws) ({ frames := 2, cells := 0, slots := 0, locals := 35 } : Room)) (fun aa' UU' => aa' = #[(.ref sa), (.ref sb)] ∧ Z.Warmed39 UU'.vm ∧ UU'.heap = h0) (fun _ _ _ _ _ => True) (fun _ UU' oo' VV' => ∃ v' L', oo' = .returned v' ∧ QrmI1_3 Z vcs wI wA cA sa sb va vb ka kb x0 x1 x2 h0 n0 v' VV'.heap L' ∧ FrameEnd UU' oo' VV' L' ({ frames := 2, cells := 0, slots := 0, locals := 35 } : Room).cells ({ frames := 2, cells := 0, slots := 0, locals := 35 } : Room).slots) := by
  refine MetFree.of_bodySF (plainFor_of_name pn_21) hisR ?_
  intro p e s m args below meth c s₁ Bd hml0 hP hK
  obtain ⟨rfl, hZ, hh⟩ := hP
  have hml : c.maxLocals = 3 := hml0
  obtain ⟨hx, hby, hlk, hown, hnm, hret, X0, e0⟩ := own_hd Bd hh
  have N0 := Fr.nil n0
  refine Go.body ?_
  obtain ⟨Pf, hPf⟩ : ∃ P, P = Fin' s below ({ frames := 2, cells := 0, slots := 0, locals := 35 } : Room).cells ({ frames := 2, cells := 0, slots := 0, locals := 35 } : Room).slots (QrmI1_3 Z vcs wI wA cA sa sb va vb ka kb x0 x1 x2 h0 n0) := ⟨_, rfl⟩
  rw [← hPf]
  refine Go.cast (ef_rmI1_3 m) ?_
  have hw3 := own_w hw 3 rfl
  have hw20 := own_w hw 20 rfl
  have hw51 := own_w hw 51 rfl
  have hw52 := own_w hw 52 rfl
  have hw53 := own_w hw 53 rfl
  have hw54 := own_w hw 54 rfl
  have hw55 := own_w hw 55 rfl
  have hw58 := own_w hw 58 rfl
  have hw107 := own_w hw 107 rfl
  have hw108 := own_w hw 108 rfl
  have hw109 := own_w hw 109 rfl
  have hw110 := own_w hw 110 rfl
  have hw111 := own_w hw 111 rfl
  have hw112 := own_w hw 112 rfl
  have hw113 := own_w hw 113 rfl
  have hw114 := own_w hw 114 rfl
  show Go p.tables e below Pf (s₁.setTop (mkF m 0 #[vr sa, vr sb, .unset] []))
  refine Go.by' (fun t k => (XS.aloadN X0.here hx rfl (hb hby d21_0) rfl rfl k)) ?_
  obtain ⟨cq269, kq269, q269a, q269b, q269c⟩ := isOf hZ e0 EA
  obtain ⟨_, _, ⟨T269, L269, k269, n269⟩, -, X269, ⟨Lc269, hQ269, l269, y269, z269⟩, st269⟩ := X0.virtualBack hx (y := own_y17) (z := own_y17) hown (mvT hZ hw107) (mvT hZ hw108) (notFace_of_selects (args := #[]) (mvT hZ hw110)) (mvT hZ hw110) (mvT hZ hw109) (by decide) (backOf (W := 0) (rmCo l Z a0 hw [] vcs wI wA cA G sa h0 n0 O0 CA) hZ hw111 hw3 (by decide) (by decide)) q269a q269c (g := (mkF m 1 #[vr sa, vr sb, .unset] [(.ref sa)])) rfl (by rw [hml]; rfl) (Steps.refl _) (argsL := []) (rest := []) (lenOf pd_12 rfl) rfl (Nat.le_of_eq rfl) (hb hby d21_1) (fun _ _ => ⟨rfl, e0, (by decide : 0 + 0 ≤ _), (by decide : 0 + 0 ≤ _)⟩)
  dsimp only [Pt.U, Pt.locs, Pt.cells, Pt.slots] at X269 l269 y269 z269 st269 hQ269
  subst l269 y269 z269
  obtain ⟨rfl, rfl, e269⟩ := hQ269
  try replace X269 := own_nil X269
  refine Go.by' (fun t k => st269.trans k) ?_
  show Go p.tables e below Pf (T269.setTop (mkF m 4 #[vr sa, vr sb, .unset] [(.int (0 : Int32))]))
  refine Go.by' (fun t k => (XS.istoreN X269.here hx rfl (hb hby d21_4) rfl (l' := #[vr sa, vr sb, vi (0 : Int32)]) rfl (XS.iloadN X269.here hx rfl (hb hby d21_5) rfl (XS.aloadN X269.here hx rfl (hb hby d21_6) rfl rfl k)))) ?_
  obtain ⟨cq270, kq270, q270a, q270b, q270c⟩ := isOf hZ e269 EB
  obtain ⟨_, _, ⟨T270, L270, k270, n270⟩, -, X270, ⟨Lc270, hQ270, l270, y270, z270⟩, st270⟩ := X269.virtualBack hx (y := own_y17) (z := own_y17) hown (mvT hZ hw107) (mvT hZ hw108) (notFace_of_selects (args := #[]) (mvT hZ hw110)) (mvT hZ hw110) (mvT hZ hw109) (by decide) (backOf (W := 1) (rmCo l Z a0 hw [] vcs wI wA cA G sb h0 n0 O0 CB) hZ hw111 hw3 (by decide) (by decide)) q270a q270c (g := (mkF m 7 #[vr sa, vr sb, vi (0 : Int32)] [(.ref sb), (.int (0 : Int32))])) rfl (by rw [hml]; rfl) (Steps.refl _) (argsL := []) (rest := [(.int (0 : Int32))]) (lenOf pd_12 rfl) rfl (Nat.le_of_eq rfl) (hb hby d21_7) (fun _ _ => ⟨rfl, e269, (by decide : 0 + 0 ≤ _), (by decide : 0 + 0 ≤ _)⟩)
  dsimp only [Pt.U, Pt.locs, Pt.cells, Pt.slots] at X270 l270 y270 z270 st270 hQ270
  subst l270 y270 z270
  obtain ⟨rfl, rfl, e270⟩ := hQ270
  try replace X270 := own_nil X270
  refine Go.by' (fun t k => st270.trans k) ?_
  show Go p.tables e below Pf (T270.setTop (mkF m 10 #[vr sa, vr sb, vi (0 : Int32)] [(.int (0 : Int32)), (.int (0 : Int32))]))
  refine Go.by' (fun t k => (XS.icmpNo X270.here hx rfl (hb hby d21_10) rfl (teq (by decide)).2 (XS.aloadN X270.here hx rfl (hb hby d21_13) rfl rfl k))) ?_
  obtain ⟨cq271, kq271, q271a, q271b, q271c⟩ := isOf hZ e270 EA
  obtain ⟨_, _, ⟨T271, L271, k271, n271⟩, -, X271, ⟨Lc271, hQ271, l271, y271, z271⟩, st271⟩ := X270.virtualBack hx (y := own_y12) (z := own_y12) hown (mvT hZ hw51) (mvT hZ hw52) (notFace_of_selects (args := #[]) (mvT hZ hw54)) (mvT hZ hw54) (mvT hZ hw53) (by decide) (backOf (W := 0) (rmSL l Z a0 hw [] vcs wI wA cA G sa h0 n0 O0 CA) hZ hw55 hw3 (by decide) (by decide)) q271a q271c (g := (mkF m 14 #[vr sa, vr sb, vi (0 : Int32)] [(.ref sa)])) rfl (by rw [hml]; rfl) (Steps.refl _) (argsL := []) (rest := []) (lenOf pd_8 rfl) rfl (Nat.le_of_eq rfl) (hb hby d21_14) (fun _ _ => ⟨rfl, e270, (by decide : 0 + 0 ≤ _), (by decide : 0 + 0 ≤ _)⟩)
  dsimp only [Pt.U, Pt.locs, Pt.cells, Pt.slots] at X271 l271 y271 z271 st271 hQ271
  subst l271 y271 z271
  obtain ⟨rfl, rfl, e271⟩ := hQ271
  try replace X271 := own_nil X271
  refine Go.by' (fun t k => st271.trans k) ?_
  show Go p.tables e below Pf (T271.setTop (mkF m 17 #[vr sa, vr sb, vi (0 : Int32)] [(.int (1 : Int32))]))
  refine Go.by' (fun t k => (XS.ifNo X271.here hx rfl (hb hby d21_17) rfl ((if0 _ _).trans (feq (by decide)).1) (XS.aloadN X271.here hx rfl (hb hby d21_20) rfl rfl k))) ?_
  obtain ⟨T272, X272, e272, st272⟩ := getF X271 hx hZ hown (host := "") (Or.inl hw20) Via.refl e271 FA (g := (mkF m 21 #[vr sa, vr sb, vi (0 : Int32)] [(.ref sa)])) rfl rfl (hb hby d21_21)
  refine Go.by' st272 ?_
  show Go p.tables e below Pf (T272.setTop (mkF m 24 #[vr sa, vr sb, vi (0 : Int32)] [(.ref va)]))
  refine Go.by' (fun t k => (XS.aloadN X272.here hx rfl (hb hby d21_24) rfl rfl k)) ?_
  obtain ⟨T273, X273, e273, st273⟩ := getF X272 hx hZ hown (host := "") (Or.inl hw20) Via.refl e272 FB (g := (mkF m 25 #[vr sa, vr sb, vi (0 : Int32)] [(.ref sb), (.ref va)])) rfl rfl (hb hby d21_25)
  refine Go.by' st273 ?_
  obtain ⟨_, _, ⟨T274, L274, k274, n274⟩, -, X274, ⟨Lc274, hQ274, l274, y274, z274⟩, st274⟩ := Jvm.LawKit.callS X273 hx (y := own_y22) hown (mvT hZ hw112) (mvT hZ hw113) (mvT hZ hw58) (mvT hZ hw114) (by decide) (backOf (W := 0) (rmI2_3 l Z a0 hw [] vcs wI wA cA G va vb ka kb x0 x1 x2 h0 n0 O0 VA VB) hZ hw114 hw58 (by decide) (by decide)) (g := (mkF m 28 #[vr sa, vr sb, vi (0 : Int32)] [(.ref vb), (.ref va)])) rfl (by rw [hml]; rfl) (argsL := [(.ref va), (.ref vb)]) (rest := []) (lenOf pd_14 rfl) rfl (Nat.le_of_eq rfl) (hb hby d21_28) (fun _ _ => ⟨rfl, e273, (by decide : 0 + 0 ≤ _), (by decide : 0 + 0 ≤ _)⟩)
  dsimp only [Pt.U, Pt.locs, Pt.cells, Pt.slots] at X274 l274 y274 z274 st274 hQ274
  subst l274 y274 z274
  obtain ⟨r_274, rfl, rfl, e274, r274_0⟩ := hQ274
  try replace X274 := own_nil X274
  refine Go.by' st274 ?_
  show Go p.tables e below Pf (T274.setTop (mkF m 31 #[vr sa, vr sb, vi (0 : Int32)] [(.int r_274)]))
  refine Go.by' (fun t k => (XS.goto X274.here hx rfl (pc0 := 31) (pc' := 45) rfl (hb hby d21_31) (by decide) (by decide) k)) ?_
  show Go p.tables e below Pf (T274.setTop (mkF m 45 #[vr sa, vr sb, vi (0 : Int32)] [(.int r_274)]))
  rw [hPf]
  exact Go.retI' X274 hx hret hlk (by simp) rfl (hb hby d21_45) (by decide) (by decide) ⟨r_274, rfl, rfl, e274, r274_0⟩
theorem ef_rmCn_3 (m : MethodId) {sa : Addr} {sb : Addr} : entryFrame m #[(.ref sa), (.ref sb)] 2 = mkF m 0 #[vr sa, vr sb] [] := by first | (simp [entryFrame, mkF, argsToLocals, Value.category]; done) | rfl
def QrmCn_3 (Z : State) (vcs : Int32) (wI : Addr) (wA : Addr) (cA : Cell) (sa : Addr) (sb : Addr) (va : Addr) (vb : Addr) (ka : ClassId) (kb : ClassId) (x0 : Int32) (x1 : Int32) (x2 : Int32) (h0 : Heap) (n0 : Nat) (v : Option Value) (h : Heap) (L : List Loc) : Prop := ∃ (r : Int32), (v = some (.int r)) ∧ (L = []) ∧ (h = h0) ∧ (((x0 = (44 : Int32) ∨ x1 = (44 : Int32) ∨ x2 = (44 : Int32)) ∧ r = (1 : Int32)) ∨ (¬ (x0 = (44 : Int32) ∨ x1 = (44 : Int32) ∨ x2 = (44 : Int32)) ∧ r = (0 : Int32)))
theorem rmCn_3 (l : Launch) (Z : State) (a0 : Array Value) (hw : ∀ d ∈ tables_1, d.before a0 Z = true) (ws : List Jvm.Cond) (vcs : Int32) (wI : Addr) (wA : Addr) (cA : Cell) (G : Gh Z vcs wI wA cA) (sa : Addr) (sb : Addr) (va : Addr) (vb : Addr) (ka : ClassId) (kb : ClassId) (x0 : Int32) (x1 : Int32) (x2 : Int32) (h0 : Heap) (n0 : Nat) (O0 : Old Z n0 h0) (EA : Exa Z h0 sa "java/lang/String") (FA : Fld Z h0 sa "java/lang/String" "value" "[B" (.ref va)) (CA : Fld Z h0 sa "java/lang/String" "coder" "B" (.int (0 : Int32))) (VA : Arv Z h0 va ka .byte (3 : Int32) [(.int x0), (.int x1), (.int x2)] (.int (0 : Int32))) (EB : Exa Z h0 sb "java/lang/String") (FB : Fld Z h0 sb "java/lang/String" "value" "[B" (.ref vb)) (CB : Fld Z h0 sb "java/lang/String" "coder" "B" (.int (0 : Int32))) (VB : Arv Z h0 vb kb .byte (1 : Int32) [(.int (44 : Int32))] (.int (0 : Int32))) :
    MetFree l own_y25 (head1 (Jvm.Cond.code own_y25 jdk_42_method_97_code 2 (some .boolean) :: ws) ({ frames := 3, cells := 0, slots := 0, locals := 49 } : Room)) (fun aa' UU' => aa' = #[(.ref sa), (.ref sb)] ∧ Z.Warmed39 UU'.vm ∧ UU'.heap = h0) (fun _ _ _ _ _ => True) (fun _ UU' oo' VV' => ∃ v' L', oo' = .returned v' ∧ QrmCn_3 Z vcs wI wA cA sa sb va vb ka kb x0 x1 x2 h0 n0 v' VV'.heap L' ∧ FrameEnd UU' oo' VV' L' ({ frames := 3, cells := 0, slots := 0, locals := 49 } : Room).cells ({ frames := 3, cells := 0, slots := 0, locals := 49 } : Room).slots) := by
  refine MetFree.of_bodySF (plainFor_of_name pn_19) hisR ?_
  intro p e s m args below meth c s₁ Bd hml0 hP hK
  obtain ⟨rfl, hZ, hh⟩ := hP
  have hml : c.maxLocals = 2 := hml0
  obtain ⟨hx, hby, hlk, hown, hnm, hret, X0, e0⟩ := own_hd Bd hh
  have N0 := Fr.nil n0
  refine Go.body ?_
  obtain ⟨Pf, hPf⟩ : ∃ P, P = Fin' s below ({ frames := 3, cells := 0, slots := 0, locals := 49 } : Room).cells ({ frames := 3, cells := 0, slots := 0, locals := 49 } : Room).slots (QrmCn_3 Z vcs wI wA cA sa sb va vb ka kb x0 x1 x2 h0 n0) := ⟨_, rfl⟩
  rw [← hPf]
  refine Go.cast (ef_rmCn_3 m) ?_
  have hw3 := own_w hw 3 rfl
  have hw93 := own_w hw 93 rfl
  have hw94 := own_w hw 94 rfl
  have hw95 := own_w hw 95 rfl
  have hw96 := own_w hw 96 rfl
  have hw97 := own_w hw 97 rfl
  have hw98 := own_w hw 98 rfl
  have hw99 := own_w hw 99 rfl
  have hw100 := own_w hw 100 rfl
  have hw101 := own_w hw 101 rfl
  have hw102 := own_w hw 102 rfl
  have hw103 := own_w hw 103 rfl
  have hw104 := own_w hw 104 rfl
  have hw105 := own_w hw 105 rfl
  have hw106 := own_w hw 106 rfl
  show Go p.tables e below Pf (s₁.setTop (mkF m 0 #[vr sa, vr sb] []))
  refine Go.by' (fun t k => (XS.aloadN X0.here hx rfl (hb hby d19_0) rfl rfl (XS.aloadN X0.here hx rfl (hb hby d19_1) rfl rfl k))) ?_
  obtain ⟨cq275, kq275, q275a, q275b, q275c⟩ := isOf hZ e0 EB
  obtain ⟨_, _, ⟨T275, L275, k275, n275⟩, -, X275, ⟨Lc275, hQ275, l275, y275, z275⟩, st275⟩ := X0.interfaceBack hx (xi := own_y24) (y := own_y18) hown (mvT hZ hw93) (mvT hZ hw94) (mvT hZ hw95) (mvT hZ hw96) (mvT hZ hw97) (mvT hZ hw98) (mvT hZ hw99) (mvT hZ hw100) (by decide) (backOf (W := 1) (rmTo l Z a0 hw [] vcs wI wA cA G sb h0 n0 O0 ) hZ hw101 hw3 (by decide) (by decide)) q275a q275b q275c (g := (mkF m 2 #[vr sa, vr sb] [(.ref sb), (.ref sa)])) rfl (by rw [hml]; rfl) (Steps.refl _) (argsL := []) (rest := [(.ref sa)]) (lenOf pd_15 rfl) rfl (Nat.le_of_eq rfl) (hb hby d19_2) (fun _ _ => ⟨rfl, e0, (by decide : 0 + 0 ≤ _), (by decide : 0 + 0 ≤ _)⟩)
  dsimp only [Pt.U, Pt.locs, Pt.cells, Pt.slots] at X275 l275 y275 z275 st275 hQ275
  subst l275 y275 z275
  obtain ⟨rfl, rfl, e275⟩ := hQ275
  try replace X275 := own_nil X275
  refine Go.by' (fun t k => st275.trans k) ?_
  obtain ⟨cq276, kq276, q276a, q276b, q276c⟩ := isOf hZ e275 EA
  obtain ⟨_, _, ⟨T276, L276, k276, n276⟩, -, X276, ⟨Lc276, hQ276, l276, y276, z276⟩, st276⟩ := X275.virtualBack hx (y := own_y23) (z := own_y23) hown (mvT hZ hw102) (mvT hZ hw103) (notFace_of_selects (args := #[]) (mvT hZ hw105)) (mvT hZ hw105) (mvT hZ hw104) (by decide) (backOf (W := 0) (rmI1_3 l Z a0 hw [] vcs wI wA cA G sa sb va vb ka kb x0 x1 x2 h0 n0 O0 EA FA CA VA EB FB CB VB) hZ hw106 hw3 (by decide) (by decide)) q276a q276c (g := (mkF m 7 #[vr sa, vr sb] [(.ref sb), (.ref sa)])) rfl (by rw [hml]; rfl) (Steps.refl _) (argsL := [(.ref sb)]) (rest := []) (lenOf pd_16 rfl) rfl (Nat.le_of_eq rfl) (hb hby d19_7) (fun _ _ => ⟨rfl, e275, (by decide : 0 + 0 ≤ _), (by decide : 0 + 0 ≤ _)⟩)
  dsimp only [Pt.U, Pt.locs, Pt.cells, Pt.slots] at X276 l276 y276 z276 st276 hQ276
  subst l276 y276 z276
  obtain ⟨r_276, rfl, rfl, e276, r276_0⟩ := hQ276
  try replace X276 := own_nil X276
  refine Go.by' (fun t k => st276.trans k) ?_
  rcases r276_0 with ⟨hE276, hl276⟩ | ⟨hE276, hl276⟩
  · show Go p.tables e below Pf (T276.setTop (mkF m 10 #[vr sa, vr sb] [(.int r_276)]))
    refine Go.by' (fun t k => (XS.ifNo X276.here hx rfl (hb hby d19_10) rfl ((if0 _ _).trans (flt hl276).1) (XS.iconst X276.here hx rfl (hb hby d19_13) (XS.goto X276.here hx rfl (pc0 := 14) (pc' := 18) rfl (hb hby d19_14) (by decide) (by decide) k)))) ?_
    show Go p.tables e below Pf (T276.setTop (mkF m 18 #[vr sa, vr sb] [(.int (1 : Int32))]))
    rw [hPf]
    exact Go.retI' X276 hx hret hlk (by simp) rfl (hb hby d19_18) (by decide) (by decide) ⟨(1 : Int32), rfl, rfl, e276, (Or.inl ⟨hE276, rfl⟩)⟩
  · show Go p.tables e below Pf (T276.setTop (mkF m 10 #[vr sa, vr sb] [(.int r_276)]))
    refine Go.by' (fun t k => (XS.ifYes X276.here hx rfl (pc0 := 10) (pc' := 17) rfl (hb hby d19_10) rfl ((if0 _ _).trans (tlt hl276).1) (by decide) (by decide) (XS.iconst X276.here hx rfl (hb hby d19_17) k))) ?_
    show Go p.tables e below Pf (T276.setTop (mkF m 18 #[vr sa, vr sb] [(.int (0 : Int32))]))
    rw [hPf]
    exact Go.retI' X276 hx hret hlk (by simp) rfl (hb hby d19_18) (by decide) (by decide) ⟨(0 : Int32), rfl, rfl, e276, (Or.inr ⟨hE276, rfl⟩)⟩
theorem ef_rmMm_3 (m : MethodId) {va : Addr} {vb : Addr} : entryFrame m #[(.ref va), (.int (0 : Int32)), (.ref vb), (.int (0 : Int32)), (.int (1 : Int32))] 8 = mkF m 0 #[vr va, vi (0 : Int32), vr vb, vi (0 : Int32), vi (1 : Int32), .unset, .unset, .unset] [] := by first | (simp [entryFrame, mkF, argsToLocals, Value.category]; done) | rfl
def QrmMm_3 (Z : State) (vcs : Int32) (wI : Addr) (wA : Addr) (cA : Cell) (va : Addr) (vb : Addr) (ka : ClassId) (kb : ClassId) (x0 : Int32) (x1 : Int32) (x2 : Int32) (h0 : Heap) (n0 : Nat) (v : Option Value) (h : Heap) (L : List Loc) : Prop := ∃ (r : Int32), (v = some (.int r)) ∧ (L = []) ∧ (h = h0) ∧ ((x0 = (33 : Int32) ∧ r = (-1 : Int32)) ∨ (¬ (x0 = (33 : Int32)) ∧ r = (0 : Int32)))
theorem rmMm_3 (l : Launch) (Z : State) (a0 : Array Value) (hw : ∀ d ∈ tables_1, d.before a0 Z = true) (ws : List Jvm.Cond) (vcs : Int32) (wI : Addr) (wA : Addr) (cA : Cell) (G : Gh Z vcs wI wA cA) (va : Addr) (vb : Addr) (ka : ClassId) (kb : ClassId) (x0 : Int32) (x1 : Int32) (x2 : Int32) (h0 : Heap) (n0 : Nat) (O0 : Old Z n0 h0) (VA : Arv Z h0 va ka .byte (3 : Int32) [(.int x0), (.int x1), (.int x2)] (.int (0 : Int32))) (VB : Arv Z h0 vb kb .byte (1 : Int32) [(.int (33 : Int32))] (.int (0 : Int32))) :
    MetFree l own_y26 (head1 (Jvm.Cond.code own_y26 jdk_48_method_14_code 8 (some .int) :: ws) ({ frames := 0, cells := 0, slots := 0, locals := 0 } : Room)) (fun aa' UU' => aa' = #[(.ref va), (.int (0 : Int32)), (.ref vb), (.int (0 : Int32)), (.int (1 : Int32))] ∧ Z.Warmed39 UU'.vm ∧ UU'.heap = h0) (fun _ _ _ _ _ => True) (fun _ UU' oo' VV' => ∃ v' L', oo' = .returned v' ∧ QrmMm_3 Z vcs wI wA cA va vb ka kb x0 x1 x2 h0 n0 v' VV'.heap L' ∧ FrameEnd UU' oo' VV' L' ({ frames := 0, cells := 0, slots := 0, locals := 0 } : Room).cells ({ frames := 0, cells := 0, slots := 0, locals := 0 } : Room).slots) := by
  refine MetFree.of_bodySF (plainFor_of_name pn_28) hisR ?_
  intro p e s m args below meth c s₁ Bd hml0 hP hK
  obtain ⟨rfl, hZ, hh⟩ := hP
  have hml : c.maxLocals = 8 := hml0
  obtain ⟨hx, hby, hlk, hown, hnm, hret, X0, e0⟩ := own_hd Bd hh
  have N0 := Fr.nil n0
  refine Go.body ?_
  obtain ⟨Pf, hPf⟩ : ∃ P, P = Fin' s below ({ frames := 0, cells := 0, slots := 0, locals := 0 } : Room).cells ({ frames := 0, cells := 0, slots := 0, locals := 0 } : Room).slots (QrmMm_3 Z vcs wI wA cA va vb ka kb x0 x1 x2 h0 n0) := ⟨_, rfl⟩
  rw [← hPf]
  refine Go.cast (ef_rmMm_3 m) ?_
  show Go p.tables e below Pf (s₁.setTop (mkF m 0 #[vr va, vi (0 : Int32), vr vb, vi (0 : Int32), vi (1 : Int32), .unset, .unset, .unset] []))
  refine Go.by' (fun t k => (XS.iconst X0.here hx rfl (hb hby d28_0) (XS.istore X0.here hx rfl (hb hby d28_1) rfl (l' := #[vr va, vi (0 : Int32), vr vb, vi (0 : Int32), vi (1 : Int32), vi (0 : Int32), .unset, .unset]) rfl (XS.iload X0.here hx rfl (hb hby d28_3) rfl (XS.bipush X0.here hx rfl (hb hby d28_5) (XS.icmpYes X0.here hx rfl (pc0 := 7) (pc' := 70) rfl (hb hby d28_7) rfl (flt (by decide)).2.2.2 (by decide) (by decide) (XS.iload X0.here hx rfl (hb hby d28_70) rfl (XS.iload X0.here hx rfl (hb hby d28_72) rfl (XS.icmpNo X0.here hx rfl (hb hby d28_74) rfl (tlt (by decide)).2.1 k))))))))) ?_
  show Go p.tables e below Pf (s₁.setTop (mkF m 77 #[vr va, vi (0 : Int32), vr vb, vi (0 : Int32), vi (1 : Int32), vi (0 : Int32), .unset, .unset] []))
  refine Go.by' (fun t k => (XS.aloadN X0.here hx rfl (hb hby d28_77) rfl rfl (XS.iloadN X0.here hx rfl (hb hby d28_78) rfl (XS.iload X0.here hx rfl (hb hby d28_79) rfl (XS.iadd X0.here hx rfl (hb hby d28_81) rfl (own_bal X0 hx hZ e0 VA (j := (0 : Int32)) (v := (.int x0)) ⟨by decide, by decide⟩ rfl rfl rfl (hb hby d28_82) (XS.aloadN X0.here hx rfl (hb hby d28_83) rfl rfl (XS.iloadN X0.here hx rfl (hb hby d28_84) rfl (XS.iload X0.here hx rfl (hb hby d28_85) rfl k))))))))) ?_
  show Go p.tables e below Pf (s₁.setTop (mkF m 87 #[vr va, vi (0 : Int32), vr vb, vi (0 : Int32), vi (1 : Int32), vi (0 : Int32), .unset, .unset] [(.int (0 : Int32)), (.int (0 : Int32)), (.ref vb), (.int x0)]))
  refine Go.by' (fun t k => (XS.iadd X0.here hx rfl (hb hby d28_87) rfl (own_bal X0 hx hZ e0 VB (j := (0 : Int32)) (v := (.int (33 : Int32))) ⟨by decide, by decide⟩ rfl rfl rfl (hb hby d28_88) k))) ?_
  show Go p.tables e below Pf (s₁.setTop (mkF m 89 #[vr va, vi (0 : Int32), vr vb, vi (0 : Int32), vi (1 : Int32), vi (0 : Int32), .unset, .unset] [(.int (33 : Int32)), (.int x0)]))
  by_cases hc279 : x0 = (33 : Int32)
  · refine Go.by' (fun t k => (XS.icmpYes X0.here hx rfl (pc0 := 89) (pc' := 95) rfl (hb hby d28_89) rfl (teq hc279).1 (by decide) (by decide) (XS.iinc X0.here hx rfl (hb hby d28_95) rfl (l' := #[vr va, vi (0 : Int32), vr vb, vi (0 : Int32), vi (1 : Int32), vi (1 : Int32), .unset, .unset]) rfl (XS.goto X0.here hx rfl (pc0 := 98) (pc' := 70) rfl (hb hby d28_98) (by decide) (by decide) (XS.iload X0.here hx rfl (hb hby d28_70) rfl (XS.iload X0.here hx rfl (hb hby d28_72) rfl (XS.icmpYes X0.here hx rfl (pc0 := 74) (pc' := 101) rfl (hb hby d28_74) rfl (flt (by decide)).2.1 (by decide) (by decide) (XS.iconst X0.here hx rfl (hb hby d28_101) k)))))))) ?_
    show Go p.tables e below Pf (s₁.setTop (mkF m 102 #[vr va, vi (0 : Int32), vr vb, vi (0 : Int32), vi (1 : Int32), vi (1 : Int32), .unset, .unset] [(.int (-1 : Int32))]))
    rw [hPf]
    exact Go.retI' X0 hx hret hlk (by simp) rfl (hb hby d28_102) (by decide) (by decide) ⟨(-1 : Int32), rfl, rfl, e0, (Or.inl ⟨hc279, rfl⟩)⟩
  · refine Go.by' (fun t k => (XS.icmpNo X0.here hx rfl (hb hby d28_89) rfl (feq hc279).1 (XS.iload X0.here hx rfl (hb hby d28_92) rfl k))) ?_
    show Go p.tables e below Pf (s₁.setTop (mkF m 94 #[vr va, vi (0 : Int32), vr vb, vi (0 : Int32), vi (1 : Int32), vi (0 : Int32), .unset, .unset] [(.int (0 : Int32))]))
    rw [hPf]
    exact Go.retI' X0 hx hret hlk (by simp) rfl (hb hby d28_94) (by decide) (by decide) ⟨(0 : Int32), rfl, rfl, e0, (Or.inr ⟨hc279, rfl⟩)⟩
theorem ef_rmS2_3 (m : MethodId) {sa : Addr} {sb : Addr} : entryFrame m #[(.ref sa), (.ref sb), (.int (0 : Int32))] 8 = mkF m 0 #[vr sa, vr sb, vi (0 : Int32), .unset, .unset, .unset, .unset, .unset] [] := by first | (simp [entryFrame, mkF, argsToLocals, Value.category]; done) | rfl
def QrmS2_3 (Z : State) (vcs : Int32) (wI : Addr) (wA : Addr) (cA : Cell) (sa : Addr) (sb : Addr) (va : Addr) (vb : Addr) (ka : ClassId) (kb : ClassId) (x0 : Int32) (x1 : Int32) (x2 : Int32) (h0 : Heap) (n0 : Nat) (v : Option Value) (h : Heap) (L : List Loc) : Prop := ∃ (r : Int32), (v = some (.int r)) ∧ (L = []) ∧ (h = h0) ∧ ((x0 = (33 : Int32) ∧ r = (1 : Int32)) ∨ (¬ (x0 = (33 : Int32)) ∧ r = (0 : Int32)))
theorem rmS2_3 (l : Launch) (Z : State) (a0 : Array Value) (hw : ∀ d ∈ tables_1, d.before a0 Z = true) (ws : List Jvm.Cond) (vcs : Int32) (wI : Addr) (wA : Addr) (cA : Cell) (G : Gh Z vcs wI wA cA) (sa : Addr) (sb : Addr) (va : Addr) (vb : Addr) (ka : ClassId) (kb : ClassId) (x0 : Int32) (x1 : Int32) (x2 : Int32) (h0 : Heap) (n0 : Nat) (O0 : Old Z n0 h0) (EA : Exa Z h0 sa "java/lang/String") (FA : Fld Z h0 sa "java/lang/String" "value" "[B" (.ref va)) (CA : Fld Z h0 sa "java/lang/String" "coder" "B" (.int (0 : Int32))) (VA : Arv Z h0 va ka .byte (3 : Int32) [(.int x0), (.int x1), (.int x2)] (.int (0 : Int32))) (EB : Exa Z h0 sb "java/lang/String") (FB : Fld Z h0 sb "java/lang/String" "value" "[B" (.ref vb)) (CB : Fld Z h0 sb "java/lang/String" "coder" "B" (.int (0 : Int32))) (VB : Arv Z h0 vb kb .byte (1 : Int32) [(.int (33 : Int32))] (.int (0 : Int32))) :
    MetFree l own_y27 (head1 (Jvm.Cond.code own_y27 jdk_42_method_75_code 8 (some .boolean) :: ws) ({ frames := 2, cells := 0, slots := 0, locals := 27 } : Room)) (fun aa' UU' => aa' = #[(.ref sa), (.ref sb), (.int (0 : Int32))] ∧ Z.Warmed39 UU'.vm ∧ UU'.heap = h0) (fun _ _ _ _ _ => True) (fun _ UU' oo' VV' => ∃ v' L', oo' = .returned v' ∧ QrmS2_3 Z vcs wI wA cA sa sb va vb ka kb x0 x1 x2 h0 n0 v' VV'.heap L' ∧ FrameEnd UU' oo' VV' L' ({ frames := 2, cells := 0, slots := 0, locals := 27 } : Room).cells ({ frames := 2, cells := 0, slots := 0, locals := 27 } : Room).slots) := by
  refine MetFree.of_bodySF (plainFor_of_name pn_26) hisR ?_
  intro p e s m args below meth c s₁ Bd hml0 hP hK
  obtain ⟨rfl, hZ, hh⟩ := hP
  have hml : c.maxLocals = 8 := hml0
  obtain ⟨hx, hby, hlk, hown, hnm, hret, X0, e0⟩ := own_hd Bd hh
  have N0 := Fr.nil n0
  refine Go.body ?_
  obtain ⟨Pf, hPf⟩ : ∃ P, P = Fin' s below ({ frames := 2, cells := 0, slots := 0, locals := 27 } : Room).cells ({ frames := 2, cells := 0, slots := 0, locals := 27 } : Room).slots (QrmS2_3 Z vcs wI wA cA sa sb va vb ka kb x0 x1 x2 h0 n0) := ⟨_, rfl⟩
  rw [← hPf]
  refine Go.cast (ef_rmS2_3 m) ?_
  have hw3 := own_w hw 3 rfl
  have hw20 := own_w hw 20 rfl
  have hw107 := own_w hw 107 rfl
  have hw108 := own_w hw 108 rfl
  have hw109 := own_w hw 109 rfl
  have hw110 := own_w hw 110 rfl
  have hw111 := own_w hw 111 rfl
  have hw129 := own_w hw 129 rfl
  have hw130 := own_w hw 130 rfl
  have hw131 := own_w hw 131 rfl
  have hw132 := own_w hw 132 rfl
  have hw133 := own_w hw 133 rfl
  have hw134 := own_w hw 134 rfl
  have hw135 := own_w hw 135 rfl
  have hw136 := own_w hw 136 rfl
  have hw137 := own_w hw 137 rfl
  show Go p.tables e below Pf (s₁.setTop (mkF m 0 #[vr sa, vr sb, vi (0 : Int32), .unset, .unset, .unset, .unset, .unset] []))
  refine Go.by' (fun t k => (XS.iloadN X0.here hx rfl (hb hby d26_0) rfl (XS.ifNo X0.here hx rfl (hb hby d26_1) rfl ((if0 _ _).trans (flt (by decide)).1) (XS.iloadN X0.here hx rfl (hb hby d26_4) rfl (XS.aloadN X0.here hx rfl (hb hby d26_5) rfl rfl k))))) ?_
  obtain ⟨cq280, kq280, q280a, q280b, q280c⟩ := isOf hZ e0 EA
  obtain ⟨_, _, ⟨T280, L280, k280, n280⟩, -, X280, ⟨Lc280, hQ280, l280, y280, z280⟩, st280⟩ := X0.virtualBack hx (y := own_y19) (z := own_y19) hown (mvT hZ hw129) (mvT hZ hw130) (notFace_of_selects (args := #[]) (mvT hZ hw132)) (mvT hZ hw132) (mvT hZ hw131) (by decide) (backOf (W := 1) (rmLn l Z a0 hw [] vcs wI wA cA G sa va ka ((3 : Int32)) ([(Value.int x0), (Value.int x1), (Value.int x2)]) h0 n0 O0 EA FA CA VA) hZ hw133 hw3 (by decide) (by decide)) q280a q280c (g := (mkF m 6 #[vr sa, vr sb, vi (0 : Int32), .unset, .unset, .unset, .unset, .unset] [(.ref sa), (.int (0 : Int32))])) rfl (by rw [hml]; rfl) (Steps.refl _) (argsL := []) (rest := [(.int (0 : Int32))]) (lenOf pd_17 rfl) rfl (Nat.le_of_eq rfl) (hb hby d26_6) (fun _ _ => ⟨rfl, e0, (by decide : 0 + 0 ≤ _), (by decide : 0 + 0 ≤ _)⟩)
  dsimp only [Pt.U, Pt.locs, Pt.cells, Pt.slots] at X280 l280 y280 z280 st280 hQ280
  subst l280 y280 z280
  obtain ⟨rfl, rfl, e280⟩ := hQ280
  try replace X280 := own_nil X280
  refine Go.by' (fun t k => st280.trans k) ?_
  show Go p.tables e below Pf (T280.setTop (mkF m 9 #[vr sa, vr sb, vi (0 : Int32), .unset, .unset, .unset, .unset, .unset] [(.int (3 : Int32)), (.int (0 : Int32))]))
  refine Go.by' (fun t k => (XS.aloadN X280.here hx rfl (hb hby d26_9) rfl rfl k)) ?_
  obtain ⟨cq281, kq281, q281a, q281b, q281c⟩ := isOf hZ e280 EB
  obtain ⟨_, _, ⟨T281, L281, k281, n281⟩, -, X281, ⟨Lc281, hQ281, l281, y281, z281⟩, st281⟩ := X280.virtualBack hx (y := own_y19) (z := own_y19) hown (mvT hZ hw129) (mvT hZ hw130) (notFace_of_selects (args := #[]) (mvT hZ hw132)) (mvT hZ hw132) (mvT hZ hw131) (by decide) (backOf (W := 2) (rmLn l Z a0 hw [] vcs wI wA cA G sb vb kb ((1 : Int32)) ([(Value.int (33 : Int32))]) h0 n0 O0 EB FB CB VB) hZ hw133 hw3 (by decide) (by decide)) q281a q281c (g := (mkF m 10 #[vr sa, vr sb, vi (0 : Int32), .unset, .unset, .unset, .unset, .unset] [(.ref sb), (.int (3 : Int32)), (.int (0 : Int32))])) rfl (by rw [hml]; rfl) (Steps.refl _) (argsL := []) (rest := [(.int (3 : Int32)), (.int (0 : Int32))]) (lenOf pd_17 rfl) rfl (Nat.le_of_eq rfl) (hb hby d26_10) (fun _ _ => ⟨rfl, e280, (by decide : 0 + 0 ≤ _), (by decide : 0 + 0 ≤ _)⟩)
  dsimp only [Pt.U, Pt.locs, Pt.cells, Pt.slots] at X281 l281 y281 z281 st281 hQ281
  subst l281 y281 z281
  obtain ⟨rfl, rfl, e281⟩ := hQ281
  try replace X281 := own_nil X281
  refine Go.by' (fun t k => st281.trans k) ?_
  show Go p.tables e below Pf (T281.setTop (mkF m 13 #[vr sa, vr sb, vi (0 : Int32), .unset, .unset, .unset, .unset, .unset] [(.int (1 : Int32)), (.int (3 : Int32)), (.int (0 : Int32))]))
  refine Go.by' (fun t k => (XS.isub X281.here hx rfl (hb hby d26_13) rfl (XS.icmpYes X281.here hx rfl (pc0 := 14) (pc' := 19) rfl (hb hby d26_14) rfl (flt (by decide)).2.2.2 (by decide) (by decide) (XS.aloadN X281.here hx rfl (hb hby d26_19) rfl rfl k)))) ?_
  obtain ⟨T282, X282, e282, st282⟩ := getF X281 hx hZ hown (host := "") (Or.inl hw20) Via.refl e281 FA (g := (mkF m 20 #[vr sa, vr sb, vi (0 : Int32), .unset, .unset, .unset, .unset, .unset] [(.ref sa)])) rfl rfl (hb hby d26_20)
  refine Go.by' st282 ?_
  show Go p.tables e below Pf (T282.setTop (mkF m 23 #[vr sa, vr sb, vi (0 : Int32), .unset, .unset, .unset, .unset, .unset] [(.ref va)]))
  refine Go.by' (fun t k => (XS.astoreN X282.here hx rfl (hb hby d26_23) rfl rfl (l' := #[vr sa, vr sb, vi (0 : Int32), vr va, .unset, .unset, .unset, .unset]) rfl (XS.aloadN X282.here hx rfl (hb hby d26_24) rfl rfl k))) ?_
  obtain ⟨T283, X283, e283, st283⟩ := getF X282 hx hZ hown (host := "") (Or.inl hw20) Via.refl e282 FB (g := (mkF m 25 #[vr sa, vr sb, vi (0 : Int32), vr va, .unset, .unset, .unset, .unset] [(.ref sb)])) rfl rfl (hb hby d26_25)
  refine Go.by' st283 ?_
  show Go p.tables e below Pf (T283.setTop (mkF m 28 #[vr sa, vr sb, vi (0 : Int32), vr va, .unset, .unset, .unset, .unset] [(.ref vb)]))
  refine Go.by' (fun t k => (XS.astore X283.here hx rfl (hb hby d26_28) rfl rfl (l' := #[vr sa, vr sb, vi (0 : Int32), vr va, vr vb, .unset, .unset, .unset]) rfl (XS.iconst X283.here hx rfl (hb hby d26_30) (XS.istore X283.here hx rfl (hb hby d26_31) rfl (l' := #[vr sa, vr sb, vi (0 : Int32), vr va, vr vb, vi (0 : Int32), .unset, .unset]) rfl (XS.aload X283.here hx rfl (hb hby d26_33) rfl rfl (own_alen X283 hx hZ e283 VB rfl rfl (hb hby d26_35) (XS.istore X283.here hx rfl (hb hby d26_36) rfl (l' := #[vr sa, vr sb, vi (0 : Int32), vr va, vr vb, vi (0 : Int32), vi (1 : Int32), .unset]) rfl (XS.aloadN X283.here hx rfl (hb hby d26_38) rfl rfl k)))))))) ?_
  obtain ⟨cq285, kq285, q285a, q285b, q285c⟩ := isOf hZ e283 EA
  obtain ⟨_, _, ⟨T285, L285, k285, n285⟩, -, X285, ⟨Lc285, hQ285, l285, y285, z285⟩, st285⟩ := X283.virtualBack hx (y := own_y17) (z := own_y17) hown (mvT hZ hw107) (mvT hZ hw108) (notFace_of_selects (args := #[]) (mvT hZ hw110)) (mvT hZ hw110) (mvT hZ hw109) (by decide) (backOf (W := 0) (rmCo l Z a0 hw [] vcs wI wA cA G sa h0 n0 O0 CA) hZ hw111 hw3 (by decide) (by decide)) q285a q285c (g := (mkF m 39 #[vr sa, vr sb, vi (0 : Int32), vr va, vr vb, vi (0 : Int32), vi (1 : Int32), .unset] [(.ref sa)])) rfl (by rw [hml]; rfl) (Steps.refl _) (argsL := []) (rest := []) (lenOf pd_12 rfl) rfl (Nat.le_of_eq rfl) (hb hby d26_39) (fun _ _ => ⟨rfl, e283, (by decide : 0 + 0 ≤ _), (by decide : 0 + 0 ≤ _)⟩)
  dsimp only [Pt.U, Pt.locs, Pt.cells, Pt.slots] at X285 l285 y285 z285 st285 hQ285
  subst l285 y285 z285
  obtain ⟨rfl, rfl, e285⟩ := hQ285
  try replace X285 := own_nil X285
  refine Go.by' (fun t k => st285.trans k) ?_
  show Go p.tables e below Pf (T285.setTop (mkF m 42 #[vr sa, vr sb, vi (0 : Int32), vr va, vr vb, vi (0 : Int32), vi (1 : Int32), .unset] [(.int (0 : Int32))]))
  refine Go.by' (fun t k => (XS.istore X285.here hx rfl (hb hby d26_42) rfl (l' := #[vr sa, vr sb, vi (0 : Int32), vr va, vr vb, vi (0 : Int32), vi (1 : Int32), vi (0 : Int32)]) rfl (XS.iload X285.here hx rfl (hb hby d26_44) rfl (XS.aloadN X285.here hx rfl (hb hby d26_46) rfl rfl k)))) ?_
  obtain ⟨cq286, kq286, q286a, q286b, q286c⟩ := isOf hZ e285 EB
  obtain ⟨_, _, ⟨T286, L286, k286, n286⟩, -, X286, ⟨Lc286, hQ286, l286, y286, z286⟩, st286⟩ := X285.virtualBack hx (y := own_y17) (z := own_y17) hown (mvT hZ hw107) (mvT hZ hw108) (notFace_of_selects (args := #[]) (mvT hZ hw110)) (mvT hZ hw110) (mvT hZ hw109) (by decide) (backOf (W := 1) (rmCo l Z a0 hw [] vcs wI wA cA G sb h0 n0 O0 CB) hZ hw111 hw3 (by decide) (by decide)) q286a q286c (g := (mkF m 47 #[vr sa, vr sb, vi (0 : Int32), vr va, vr vb, vi (0 : Int32), vi (1 : Int32), vi (0 : Int32)] [(.ref sb), (.int (0 : Int32))])) rfl (by rw [hml]; rfl) (Steps.refl _) (argsL := []) (rest := [(.int (0 : Int32))]) (lenOf pd_12 rfl) rfl (Nat.le_of_eq rfl) (hb hby d26_47) (fun _ _ => ⟨rfl, e285, (by decide : 0 + 0 ≤ _), (by decide : 0 + 0 ≤ _)⟩)
  dsimp only [Pt.U, Pt.locs, Pt.cells, Pt.slots] at X286 l286 y286 z286 st286 hQ286
  subst l286 y286 z286
  obtain ⟨rfl, rfl, e286⟩ := hQ286
  try replace X286 := own_nil X286
  refine Go.by' (fun t k => st286.trans k) ?_
  show Go p.tables e below Pf (T286.setTop (mkF m 50 #[vr sa, vr sb, vi (0 : Int32), vr va, vr vb, vi (0 : Int32), vi (1 : Int32), vi (0 : Int32)] [(.int (0 : Int32)), (.int (0 : Int32))]))
  refine Go.by' (fun t k => (XS.icmpNo X286.here hx rfl (hb hby d26_50) rfl (teq (by decide)).2 (XS.iload X286.here hx rfl (hb hby d26_53) rfl (XS.iconst X286.here hx rfl (hb hby d26_55) (XS.icmpYes X286.here hx rfl (pc0 := 56) (pc' := 63) rfl (hb hby d26_56) rfl (feq (by decide)).2 (by decide) (by decide) (XS.aloadN X286.here hx rfl (hb hby d26_63) rfl rfl (XS.iloadN X286.here hx rfl (hb hby d26_64) rfl (XS.aload X286.here hx rfl (hb hby d26_65) rfl rfl (XS.iconst X286.here hx rfl (hb hby d26_67) k))))))))) ?_
  show Go p.tables e below Pf (T286.setTop (mkF m 68 #[vr sa, vr sb, vi (0 : Int32), vr va, vr vb, vi (0 : Int32), vi (1 : Int32), vi (0 : Int32)] [(.int (0 : Int32)), (.ref vb), (.int (0 : Int32)), (.ref va)]))
  refine Go.by' (fun t k => (XS.iload X286.here hx rfl (hb hby d26_68) rfl k)) ?_
  obtain ⟨_, _, ⟨T287, L287, k287, n287⟩, -, X287, ⟨Lc287, hQ287, l287, y287, z287⟩, st287⟩ := Jvm.LawKit.callS X286 hx (y := own_y26) hown (mvT hZ hw134) (mvT hZ hw135) (mvT hZ hw136) (mvT hZ hw137) (by decide) (backOf (W := 0) (rmMm_3 l Z a0 hw [] vcs wI wA cA G va vb ka kb x0 x1 x2 h0 n0 O0 VA VB) hZ hw137 hw136 (by decide) (by decide)) (g := (mkF m 70 #[vr sa, vr sb, vi (0 : Int32), vr va, vr vb, vi (0 : Int32), vi (1 : Int32), vi (0 : Int32)] [(.int (1 : Int32)), (.int (0 : Int32)), (.ref vb), (.int (0 : Int32)), (.ref va)])) rfl (by rw [hml]; rfl) (argsL := [(.ref va), (.int (0 : Int32)), (.ref vb), (.int (0 : Int32)), (.int (1 : Int32))]) (rest := []) (lenOf pd_13 rfl) rfl (Nat.le_of_eq rfl) (hb hby d26_70) (fun _ _ => ⟨rfl, e286, (by decide : 0 + 0 ≤ _), (by decide : 0 + 0 ≤ _)⟩)
  dsimp only [Pt.U, Pt.locs, Pt.cells, Pt.slots] at X287 l287 y287 z287 st287 hQ287
  subst l287 y287 z287
  obtain ⟨r_287, rfl, rfl, e287, r287_0⟩ := hQ287
  try replace X287 := own_nil X287
  refine Go.by' st287 ?_
  rcases r287_0 with ⟨hE287, hz287⟩ | ⟨hE287, hz287⟩
  · subst hz287
    show Go p.tables e below Pf (T287.setTop (mkF m 73 #[vr sa, vr sb, vi (0 : Int32), vr va, vr vb, vi (0 : Int32), vi (1 : Int32), vi (0 : Int32)] [(.int (-1 : Int32))]))
    refine Go.by' (fun t k => (XS.ifNo X287.here hx rfl (hb hby d26_73) rfl ((if0 _ _).trans (tlt (by decide)).2.1) (XS.iconst X287.here hx rfl (hb hby d26_76) (XS.goto X287.here hx rfl (pc0 := 77) (pc' := 81) rfl (hb hby d26_77) (by decide) (by decide) k)))) ?_
    show Go p.tables e below Pf (T287.setTop (mkF m 81 #[vr sa, vr sb, vi (0 : Int32), vr va, vr vb, vi (0 : Int32), vi (1 : Int32), vi (0 : Int32)] [(.int (1 : Int32))]))
    rw [hPf]
    exact Go.retI' X287 hx hret hlk (by simp) rfl (hb hby d26_81) (by decide) (by decide) ⟨(1 : Int32), rfl, rfl, e287, (Or.inl ⟨hE287, rfl⟩)⟩
  · subst hz287
    show Go p.tables e below Pf (T287.setTop (mkF m 73 #[vr sa, vr sb, vi (0 : Int32), vr va, vr vb, vi (0 : Int32), vi (1 : Int32), vi (0 : Int32)] [(.int (0 : Int32))]))
    refine Go.by' (fun t k => (XS.ifYes X287.here hx rfl (pc0 := 73) (pc' := 80) rfl (hb hby d26_73) rfl ((if0 _ _).trans (flt (by decide)).2.1) (by decide) (by decide) (XS.iconst X287.here hx rfl (hb hby d26_80) k))) ?_
    show Go p.tables e below Pf (T287.setTop (mkF m 81 #[vr sa, vr sb, vi (0 : Int32), vr va, vr vb, vi (0 : Int32), vi (1 : Int32), vi (0 : Int32)] [(.int (0 : Int32))]))
    rw [hPf]
    exact Go.retI' X287 hx hret hlk (by simp) rfl (hb hby d26_81) (by decide) (by decide) ⟨(0 : Int32), rfl, rfl, e287, (Or.inr ⟨hE287, rfl⟩)⟩
theorem ef_rmS1_3w (m : MethodId) {sa : Addr} {sb : Addr} : entryFrame m #[(.ref sa), (.ref sb)] 2 = mkF m 0 #[vr sa, vr sb] [] := by first | (simp [entryFrame, mkF, argsToLocals, Value.category]; done) | rfl
def QrmS1_3w (Z : State) (vcs : Int32) (wI : Addr) (wA : Addr) (cA : Cell) (sa : Addr) (sb : Addr) (va : Addr) (vb : Addr) (ka : ClassId) (kb : ClassId) (x0 : Int32) (x1 : Int32) (x2 : Int32) (h0 : Heap) (n0 : Nat) (v : Option Value) (h : Heap) (L : List Loc) : Prop := ∃ (r : Int32), (v = some (.int r)) ∧ (L = []) ∧ (h = h0) ∧ ((x0 = (33 : Int32) ∧ r = (1 : Int32)) ∨ (¬ (x0 = (33 : Int32)) ∧ r = (0 : Int32)))
theorem rmS1_3w (l : Launch) (Z : State) (a0 : Array Value) (hw : ∀ d ∈ tables_1, d.before a0 Z = true) (ws : List Jvm.Cond) (vcs : Int32) (wI : Addr) (wA : Addr) (cA : Cell) (G : Gh Z vcs wI wA cA) (sa : Addr) (sb : Addr) (va : Addr) (vb : Addr) (ka : ClassId) (kb : ClassId) (x0 : Int32) (x1 : Int32) (x2 : Int32) (h0 : Heap) (n0 : Nat) (O0 : Old Z n0 h0) (EA : Exa Z h0 sa "java/lang/String") (FA : Fld Z h0 sa "java/lang/String" "value" "[B" (.ref va)) (CA : Fld Z h0 sa "java/lang/String" "coder" "B" (.int (0 : Int32))) (VA : Arv Z h0 va ka .byte (3 : Int32) [(.int x0), (.int x1), (.int x2)] (.int (0 : Int32))) (EB : Exa Z h0 sb "java/lang/String") (FB : Fld Z h0 sb "java/lang/String" "value" "[B" (.ref vb)) (CB : Fld Z h0 sb "java/lang/String" "coder" "B" (.int (0 : Int32))) (VB : Arv Z h0 vb kb .byte (1 : Int32) [(.int (33 : Int32))] (.int (0 : Int32))) :
    MetFree l own_y28 (head1 (Jvm.Cond.code own_y28 jdk_42_method_76_code 2 (some .boolean) :: ws) ({ frames := 3, cells := 0, slots := 0, locals := 46 } : Room)) (fun aa' UU' => aa' = #[(.ref sa), (.ref sb)] ∧ Z.Warmed39 UU'.vm ∧ UU'.heap = h0) (fun _ _ _ _ _ => True) (fun _ UU' oo' VV' => ∃ v' L', oo' = .returned v' ∧ QrmS1_3w Z vcs wI wA cA sa sb va vb ka kb x0 x1 x2 h0 n0 v' VV'.heap L' ∧ FrameEnd UU' oo' VV' L' ({ frames := 3, cells := 0, slots := 0, locals := 46 } : Room).cells ({ frames := 3, cells := 0, slots := 0, locals := 46 } : Room).slots) := by
  refine MetFree.of_bodySF (plainFor_of_name pn_25) hisR ?_
  intro p e s m args below meth c s₁ Bd hml0 hP hK
  obtain ⟨rfl, hZ, hh⟩ := hP
  have hml : c.maxLocals = 2 := hml0
  obtain ⟨hx, hby, hlk, hown, hnm, hret, X0, e0⟩ := own_hd Bd hh
  have N0 := Fr.nil n0
  refine Go.body ?_
  obtain ⟨Pf, hPf⟩ : ∃ P, P = Fin' s below ({ frames := 3, cells := 0, slots := 0, locals := 46 } : Room).cells ({ frames := 3, cells := 0, slots := 0, locals := 46 } : Room).slots (QrmS1_3w Z vcs wI wA cA sa sb va vb ka kb x0 x1 x2 h0 n0) := ⟨_, rfl⟩
  rw [← hPf]
  refine Go.cast (ef_rmS1_3w m) ?_
  have hw3 := own_w hw 3 rfl
  have hw124 := own_w hw 124 rfl
  have hw125 := own_w hw 125 rfl
  have hw126 := own_w hw 126 rfl
  have hw127 := own_w hw 127 rfl
  have hw128 := own_w hw 128 rfl
  show Go p.tables e below Pf (s₁.setTop (mkF m 0 #[vr sa, vr sb] []))
  refine Go.by' (fun t k => (XS.aloadN X0.here hx rfl (hb hby d25_0) rfl rfl (XS.aloadN X0.here hx rfl (hb hby d25_1) rfl rfl (XS.iconst X0.here hx rfl (hb hby d25_2) k)))) ?_
  obtain ⟨cq288, kq288, q288a, q288b, q288c⟩ := isOf hZ e0 EA
  obtain ⟨_, _, ⟨T288, L288, k288, n288⟩, -, X288, ⟨Lc288, hQ288, l288, y288, z288⟩, st288⟩ := X0.virtualBack hx (y := own_y27) (z := own_y27) hown (mvT hZ hw124) (mvT hZ hw125) (notFace_of_selects (args := #[]) (mvT hZ hw127)) (mvT hZ hw127) (mvT hZ hw126) (by decide) (backOf (W := 0) (rmS2_3 l Z a0 hw [] vcs wI wA cA G sa sb va vb ka kb x0 x1 x2 h0 n0 O0 EA FA CA VA EB FB CB VB) hZ hw128 hw3 (by decide) (by decide)) q288a q288c (g := (mkF m 3 #[vr sa, vr sb] [(.int (0 : Int32)), (.ref sb), (.ref sa)])) rfl (by rw [hml]; rfl) (Steps.refl _) (argsL := [(.ref sb), (.int (0 : Int32))]) (rest := []) (lenOf pd_18 rfl) rfl (Nat.le_of_eq rfl) (hb hby d25_3) (fun _ _ => ⟨rfl, e0, (by decide : 0 + 0 ≤ _), (by decide : 0 + 0 ≤ _)⟩)
  dsimp only [Pt.U, Pt.locs, Pt.cells, Pt.slots] at X288 l288 y288 z288 st288 hQ288
  subst l288 y288 z288
  obtain ⟨r_288, rfl, rfl, e288, r288_0⟩ := hQ288
  try replace X288 := own_nil X288
  refine Go.by' (fun t k => st288.trans k) ?_
  have b288 : r_288 = 0 ∨ r_288 = 1 := r288_0.elim (fun q => Or.inr q.2) (fun q => Or.inl q.2)
  show Go p.tables e below Pf (T288.setTop (mkF m 6 #[vr sa, vr sb] [(.int r_288)]))
  rw [hPf]
  exact Go.retI' X288 hx hret hlk (by simp) (own_nb b288) (hb hby d25_6) (by decide) (by decide) ⟨r_288, rfl, rfl, e288, r288_0⟩
theorem d4_0 : decode prog_19_method_4_code 0 = .ok (.aload_n 0, 1) := by decide +kernel
theorem d4_1 : decode prog_19_method_4_code 1 = .ok (.invokevirtual 22, 3) := by decide +kernel
theorem d4_4 : decode prog_19_method_4_code 4 = .ok (.ifCond .ne 36, 3) := by decide +kernel
theorem d4_40 : decode prog_19_method_4_code 40 = .ok (.iconst 0, 1) := by decide +kernel
theorem d4_41 : decode prog_19_method_4_code 41 = .ok (.ireturn, 1) := by decide +kernel
theorem pn_4 : plainName "com/example/usher/usher/Profiles" = true := by first | (simp [plainName, overriddenIn]; done) | decide +kernel
theorem ef_rmN_0 (m : MethodId) {sa : Addr} : entryFrame m #[(.ref sa)] 1 = mkF m 0 #[vr sa] [] := by first | (simp [entryFrame, mkF, argsToLocals, Value.category]; done) | rfl
abbrev own_y29 : MethodName := ⟨"com/example/usher/usher/Profiles", "isName", "(Ljava/lang/String;)Z"⟩
def QrmN_0 (Z : State) (vcs : Int32) (wI : Addr) (wA : Addr) (cA : Cell) (sa : Addr) (va : Addr) (ka : ClassId) (h0 : Heap) (n0 : Nat) (v : Option Value) (h : Heap) (L : List Loc) : Prop := (v = some (.int (0 : Int32))) ∧ (L = []) ∧ (h = h0)
theorem rmN_0 (l : Launch) (Z : State) (a0 : Array Value) (hw : ∀ d ∈ tables_1, d.before a0 Z = true) (ws : List Jvm.Cond) (vcs : Int32) (wI : Addr) (wA : Addr) (cA : Cell) (G : Gh Z vcs wI wA cA) (sa : Addr) (va : Addr) (ka : ClassId) (h0 : Heap) (n0 : Nat) (O0 : Old Z n0 h0) (EA : Exa Z h0 sa "java/lang/String") (FA : Fld Z h0 sa "java/lang/String" "value" "[B" (.ref va)) (CA : Fld Z h0 sa "java/lang/String" "coder" "B" (.int (0 : Int32))) (VA : Arv Z h0 va ka .byte (0 : Int32) [] (.int (0 : Int32))) :
    MetFree l own_y29 (head1 (Jvm.Cond.code own_y29 prog_19_method_4_code 1 (some .boolean) :: ws) ({ frames := 1, cells := 0, slots := 0, locals := 12 } : Room)) (fun aa' UU' => aa' = #[(.ref sa)] ∧ Z.Warmed39 UU'.vm ∧ UU'.heap = h0) (fun _ _ _ _ _ => True) (fun _ UU' oo' VV' => ∃ v' L', oo' = .returned v' ∧ QrmN_0 Z vcs wI wA cA sa va ka h0 n0 v' VV'.heap L' ∧ FrameEnd UU' oo' VV' L' ({ frames := 1, cells := 0, slots := 0, locals := 12 } : Room).cells ({ frames := 1, cells := 0, slots := 0, locals := 12 } : Room).slots) := by
  refine MetFree.of_bodySF (plainFor_of_name pn_4) hisR ?_
  intro p e s m args below meth c s₁ Bd hml0 hP hK
  obtain ⟨rfl, hZ, hh⟩ := hP
  have hml : c.maxLocals = 1 := hml0
  obtain ⟨hx, hby, hlk, hown, hnm, hret, X0, e0⟩ := own_hd Bd hh
  have N0 := Fr.nil n0
  refine Go.body ?_
  obtain ⟨Pf, hPf⟩ : ∃ P, P = Fin' s below ({ frames := 1, cells := 0, slots := 0, locals := 12 } : Room).cells ({ frames := 1, cells := 0, slots := 0, locals := 12 } : Room).slots (QrmN_0 Z vcs wI wA cA sa va ka h0 n0) := ⟨_, rfl⟩
  rw [← hPf]
  refine Go.cast (ef_rmN_0 m) ?_
  have hw3 := own_w hw 3 rfl
  have hw26 := own_w hw 26 rfl
  have hw27 := own_w hw 27 rfl
  have hw28 := own_w hw 28 rfl
  have hw29 := own_w hw 29 rfl
  have hw30 := own_w hw 30 rfl
  show Go p.tables e below Pf (s₁.setTop (mkF m 0 #[vr sa] []))
  refine Go.by' (fun t k => (XS.aloadN X0.here hx rfl (hb hby d4_0) rfl rfl k)) ?_
  obtain ⟨cq289, kq289, q289a, q289b, q289c⟩ := isOf hZ e0 EA
  obtain ⟨_, _, ⟨T289, L289, k289, n289⟩, -, X289, ⟨Lc289, hQ289, l289, y289, z289⟩, st289⟩ := X0.virtualBack hx (y := own_y20) (z := own_y20) hown (mvT hZ hw26) (mvT hZ hw27) (notFace_of_selects (args := #[]) (mvT hZ hw29)) (mvT hZ hw29) (mvT hZ hw28) (by decide) (backOf (W := 0) (rmEm_0 l Z a0 hw [] vcs wI wA cA G sa va ka h0 n0 O0 EA FA CA VA) hZ hw30 hw3 (by decide) (by decide)) q289a q289c (g := (mkF m 1 #[vr sa] [(.ref sa)])) rfl (by rw [hml]; rfl) (Steps.refl _) (argsL := []) (rest := []) (lenOf pd_8 rfl) rfl (Nat.le_of_eq rfl) (hb hby d4_1) (fun _ _ => ⟨rfl, e0, (by decide : 0 + 0 ≤ _), (by decide : 0 + 0 ≤ _)⟩)
  dsimp only [Pt.U, Pt.locs, Pt.cells, Pt.slots] at X289 l289 y289 z289 st289 hQ289
  subst l289 y289 z289
  obtain ⟨rfl, rfl, e289⟩ := hQ289
  try replace X289 := own_nil X289
  refine Go.by' (fun t k => st289.trans k) ?_
  show Go p.tables e below Pf (T289.setTop (mkF m 4 #[vr sa] [(.int (1 : Int32))]))
  refine Go.by' (fun t k => (XS.ifYes X289.here hx rfl (pc0 := 4) (pc' := 40) rfl (hb hby d4_4) rfl ((if0 _ _).trans (feq (by decide)).2) (by decide) (by decide) (XS.iconst X289.here hx rfl (hb hby d4_40) k))) ?_
  show Go p.tables e below Pf (T289.setTop (mkF m 41 #[vr sa] [(.int (0 : Int32))]))
  rw [hPf]
  exact Go.retI' X289 hx hret hlk (by simp) rfl (hb hby d4_41) (by decide) (by decide) ⟨rfl, rfl, e289⟩
theorem d4_7 : decode prog_19_method_4_code 7 = .ok (.aload_n 0, 1) := by decide +kernel
theorem d4_8 : decode prog_19_method_4_code 8 = .ok (.invokevirtual 18, 3) := by decide +kernel
theorem d4_11 : decode prog_19_method_4_code 11 = .ok (.aload_n 0, 1) := by decide +kernel
theorem d4_12 : decode prog_19_method_4_code 12 = .ok (.invokevirtual 65, 3) := by decide +kernel
theorem pd_19 : parseMethodDescriptor "(Ljava/lang/Object;)Z" = some ⟨[(.object "java/lang/Object")], some .boolean⟩ := by decide +kernel
theorem d4_15 : decode prog_19_method_4_code 15 = .ok (.ifCond .eq 25, 3) := by decide +kernel
theorem d4_18 : decode prog_19_method_4_code 18 = .ok (.aload_n 0, 1) := by decide +kernel
theorem d4_19 : decode prog_19_method_4_code 19 = .ok (.ldc 10, 2) := by decide +kernel
theorem d4_21 : decode prog_19_method_4_code 21 = .ok (.invokevirtual 68, 3) := by decide +kernel
theorem pd_20 : parseMethodDescriptor "(Ljava/lang/CharSequence;)Z" = some ⟨[(.object "java/lang/CharSequence")], some .boolean⟩ := by decide +kernel
theorem d4_24 : decode prog_19_method_4_code 24 = .ok (.ifCond .ne 16, 3) := by decide +kernel
theorem d4_27 : decode prog_19_method_4_code 27 = .ok (.aload_n 0, 1) := by decide +kernel
theorem d4_28 : decode prog_19_method_4_code 28 = .ok (.ldc 72, 2) := by decide +kernel
theorem d4_30 : decode prog_19_method_4_code 30 = .ok (.invokevirtual 74, 3) := by decide +kernel
theorem pd_21 : parseMethodDescriptor "(Ljava/lang/String;)Z" = some ⟨[(.object "java/lang/String")], some .boolean⟩ := by decide +kernel
theorem d4_33 : decode prog_19_method_4_code 33 = .ok (.ifCond .ne 7, 3) := by decide +kernel
theorem d4_36 : decode prog_19_method_4_code 36 = .ok (.iconst 1, 1) := by decide +kernel
theorem d4_37 : decode prog_19_method_4_code 37 = .ok (.goto 4, 3) := by decide +kernel
theorem ef_rmN_1 (m : MethodId) {sa : Addr} : entryFrame m #[(.ref sa)] 1 = mkF m 0 #[vr sa] [] := by first | (simp [entryFrame, mkF, argsToLocals, Value.category]; done) | rfl
def QrmN_1 (Z : State) (vcs : Int32) (wI : Addr) (wA : Addr) (cA : Cell) (sa : Addr) (va : Addr) (ka : ClassId) (c0 : Int32) (h0 : Heap) (n0 : Nat) (v : Option Value) (h : Heap) (vm : Vm) (L : List Loc) : Prop := ∃ (r : Int32), (v = some (.int r)) ∧ (Fr n0 L) ∧ (Keep h0 h []) ∧ (((¬ Ws c0 ∧ ¬ Ws c0 ∧ ¬ (c0 = (44 : Int32)) ∧ ¬ (c0 = (33 : Int32))) ∧ r = (1 : Int32)) ∨ (¬ (¬ Ws c0 ∧ ¬ Ws c0 ∧ ¬ (c0 = (44 : Int32)) ∧ ¬ (c0 = (33 : Int32))) ∧ r = (0 : Int32)))
theorem rmN_1 (l : Launch) (Z : State) (a0 : Array Value) (hw : ∀ d ∈ tables_1, d.before a0 Z = true) (ws : List Jvm.Cond) (vcs : Int32) (wI : Addr) (wA : Addr) (cA : Cell) (G : Gh Z vcs wI wA cA) (sa : Addr) (va : Addr) (ka : ClassId) (c0 : Int32) (h0 : Heap) (n0 : Nat) (O0 : Old Z n0 h0) (EA : Exa Z h0 sa "java/lang/String") (FA : Fld Z h0 sa "java/lang/String" "value" "[B" (.ref va)) (CA : Fld Z h0 sa "java/lang/String" "coder" "B" (.int (0 : Int32))) (VA : Arv Z h0 va ka .byte (1 : Int32) [(.int (c0.toInt8.toInt32))] (.int (0 : Int32))) (hl0 : ¬ (c0 < (0 : Int32))) (hb0 : ¬ ((255 : Int32) < c0)) :
    MetFree l own_y29 (head1 (Jvm.Cond.code own_y29 prog_19_method_4_code 1 (some .boolean) :: ws) ({ frames := 5, cells := 4, slots := 16, locals := 72 } : Room)) (fun aa' UU' => aa' = #[(.ref sa)] ∧ Z.Warmed39 UU'.vm ∧ UU'.heap = h0 ∧ CHv Z consts_1 UU'.vm h0 ∧ ∀ x ∈ ([] : List Addr), Safe Z consts_1 UU'.vm h0 x) (fun _ _ _ _ _ => True) (fun _ UU' oo' VV' => ∃ v' L', oo' = .returned v' ∧ QrmN_1 Z vcs wI wA cA sa va ka c0 h0 n0 v' VV'.heap VV'.vm L' ∧ CHr Z consts_1 UU'.vm UU'.heap VV'.vm VV'.heap ∧ ReturnedEndW UU' oo' VV' L' ({ frames := 5, cells := 4, slots := 16, locals := 72 } : Room).cells ({ frames := 5, cells := 4, slots := 16, locals := 72 } : Room).slots) := by
  refine MetFree.of_bodySF (plainFor_of_name pn_4) hisR ?_
  intro p e s m args below meth c s₁ Bd hml0 hP hK
  obtain ⟨rfl, hZ, hh, hCH, hSf⟩ := hP
  have hml : c.maxLocals = 1 := hml0
  obtain ⟨hx, hby, hlk, hown, hnm, hret, X0, e0⟩ := own_hd Bd hh
  replace X0 : Stand p l e ({ frames := 5, cells := 4, slots := 16, locals := 72 } : Room) (s.setVm s.vm) m _ below meth c s₁ [] 0 0 := X0
  have N0 := Fr.nil n0
  have KC0 : Keep h0 h0 [] := Keep.refl _ _
  have Sb0 := Sb.start hZ hown hCH
  have hEL := own_EW hw
  have hSA := own_SA hw
  refine Go.bodyS ?_
  obtain ⟨Pf, hPf⟩ : ∃ P, P = FinS Z consts_1 s below ({ frames := 5, cells := 4, slots := 16, locals := 72 } : Room).cells ({ frames := 5, cells := 4, slots := 16, locals := 72 } : Room).slots (QrmN_1 Z vcs wI wA cA sa va ka c0 h0 n0) := ⟨_, rfl⟩
  rw [← hPf]
  refine Go.cast (ef_rmN_1 m) ?_
  have hw3 := own_w hw 3 rfl
  have hw26 := own_w hw 26 rfl
  have hw27 := own_w hw 27 rfl
  have hw28 := own_w hw 28 rfl
  have hw29 := own_w hw 29 rfl
  have hw30 := own_w hw 30 rfl
  have hw46 := own_w hw 46 rfl
  have hw47 := own_w hw 47 rfl
  have hw48 := own_w hw 48 rfl
  have hw49 := own_w hw 49 rfl
  have hw50 := own_w hw 50 rfl
  have hw82 := own_w hw 82 rfl
  have hw83 := own_w hw 83 rfl
  have hw84 := own_w hw 84 rfl
  have hw85 := own_w hw 85 rfl
  have hw86 := own_w hw 86 rfl
  have hw87 := own_w hw 87 rfl
  have hw88 := own_w hw 88 rfl
  have hw89 := own_w hw 89 rfl
  have hw90 := own_w hw 90 rfl
  have hw91 := own_w hw 91 rfl
  have hw92 := own_w hw 92 rfl
  have hw118 := own_w hw 118 rfl
  have hw119 := own_w hw 119 rfl
  have hw120 := own_w hw 120 rfl
  have hw121 := own_w hw 121 rfl
  have hw122 := own_w hw 122 rfl
  have hw123 := own_w hw 123 rfl
  have u0 : ((c0.toInt8.toInt32) &&& (255 : Int32)) = c0 := own_u8 hl0 hb0
  have b0 : ((c0.toInt8.toInt32) = (44 : Int32)) ↔ c0 = (44 : Int32) := own_bk hl0 hb0 (by decide) (by decide) (by decide)
  have b33 : ((c0.toInt8.toInt32) = (33 : Int32)) ↔ c0 = (33 : Int32) := own_bk hl0 hb0 (by decide) (by decide) (by decide)
  show Go p.tables e below Pf (s₁.setTop (mkF m 0 #[vr sa] []))
  by_cases hW0 : Ws c0
  · show Go p.tables e below Pf (s₁.setTop (mkF m 0 #[vr sa] []))
    refine Go.by' (fun t k => (XS.aloadN X0.here hx rfl (hb hby d4_0) rfl rfl k)) ?_
    obtain ⟨cq290, kq290, q290a, q290b, q290c⟩ := isOf hZ e0 EA
    obtain ⟨_, _, ⟨T290, L290, k290, n290⟩, -, X290, ⟨Lc290, hQ290, l290, y290, z290⟩, st290⟩ := X0.virtualBack hx (y := own_y20) (z := own_y20) hown (mvT hZ hw26) (mvT hZ hw27) (notFace_of_selects (args := #[]) (mvT hZ hw29)) (mvT hZ hw29) (mvT hZ hw28) (by decide) (backOf (W := 0) (rmEm_1 l Z a0 hw [] vcs wI wA cA G sa va ka ((c0.toInt8.toInt32)) h0 n0 O0 EA FA CA VA) hZ hw30 hw3 (by decide) (by decide)) q290a q290c (g := (mkF m 1 #[vr sa] [(.ref sa)])) rfl (by rw [hml]; rfl) (Steps.refl _) (argsL := []) (rest := []) (lenOf pd_8 rfl) rfl (Nat.le_of_eq rfl) (hb hby d4_1) (fun _ _ => ⟨rfl, e0, (by decide : 0 + 0 ≤ _), (by decide : 0 + 0 ≤ _)⟩)
    dsimp only [Pt.U, Pt.locs, Pt.cells, Pt.slots] at X290 l290 y290 z290 st290 hQ290
    subst l290 y290 z290
    obtain ⟨rfl, rfl, e290⟩ := hQ290
    try replace X290 := own_nil X290
    refine Go.by' (fun t k => st290.trans k) ?_
    show Go p.tables e below Pf (T290.setTop (mkF m 4 #[vr sa] [(.int (0 : Int32))]))
    refine Go.by' (fun t k => (XS.ifNo X290.here hx rfl (hb hby d4_4) rfl ((if0 _ _).trans (teq (by decide)).2) (XS.aloadN X290.here hx rfl (hb hby d4_7) rfl rfl k))) ?_
    obtain ⟨cq291, kq291, q291a, q291b, q291c⟩ := isOf hZ e290 EA
    obtain ⟨_, _, ⟨T291, L291, k291, n291⟩, -, X291, Si291, Gr291, ⟨Lc291, hQ291, l291, y291, z291, A291⟩, st291⟩ := X290.virtualBackS hx (y := own_y14) (z := own_y14) hown (mvT hZ hw46) (mvT hZ hw47) (notFace_of_selects (args := #[]) (mvT hZ hw49)) (mvT hZ hw49) (mvT hZ hw48) (by decide) (own_backS (W := 0) (rmSTC_1 l Z a0 hw [] vcs wI wA cA G sa va ka ((c0.toInt8.toInt32)) h0 n0 O0 EA FA CA VA (Or.inl (by rw [u0]; exact hW0))) Sb0 hw50 hw3 (by decide) (by decide) hEL all0) q291a q291c (g := (mkF m 8 #[vr sa] [(.ref sa)])) rfl (by rw [hml]; rfl) (Steps.refl _) (argsL := []) (rest := []) (lenOf pd_15 rfl) rfl (Nat.le_of_eq rfl) (hb hby d4_8) (fun _ _ => ⟨rfl, e290, (by decide : 0 + 2 ≤ _), (by decide : 0 + 4 ≤ _)⟩)
    dsimp only [Pt.U, Pt.locs, Pt.cells, Pt.slots] at X291 l291 y291 z291 st291 hQ291 Si291 Gr291 A291
    subst l291 y291 z291
    obtain ⟨r_291, rb_291, kb_291, zr_291, vsr_291, rfl, N291q, K291, f291_0, f291_1, f291_2, f291_3, r291_0⟩ := hQ291
    have N291 := Fr.app N0 N291q
    obtain ⟨lc291, X291, N291⟩ := own_pack X291 N291
    replace X291 := own_reb X291
    have Sb291 := Sb0.called Si291 (by rw [← e290]; exact Gr291) A291
    have hZ291 := Sb291.hZ
    have hO291 := Sb291.hO
    refine Go.by' (fun t k => st291.trans k) ?_
    have O291 := O0.keep K291 all0
    have KC291 : Keep h0 T291.heap [] := KC0.trans K291 all0
    show Go p.tables e below Pf (T291.setTop (mkF m 11 #[vr sa] [(.ref r_291)]))
    refine Go.by' (fun t k => (XS.aloadN X291.here hx rfl (hb hby d4_11) rfl rfl k)) ?_
    obtain ⟨cq292, kq292, q292a, q292b, q292c⟩ := isOf hZ291 rfl f291_0
    obtain ⟨_, _, ⟨T292, L292, k292, n292⟩, -, X292, ⟨Lc292, hQ292, l292, y292, z292⟩, st292⟩ := X291.virtualBack hx (y := own_y15) (z := own_y15) hO291 (mvT hZ291 hw82) (mvT hZ291 hw83) (notFace_of_selects (args := #[]) (mvT hZ291 hw85)) (mvT hZ291 hw85) (mvT hZ291 hw84) (by decide) (backOf (W := 0) (rmED l Z a0 hw [] vcs wI wA cA G r_291 sa rb_291 va kb_291 ka zr_291 ((1 : Int32)) vsr_291 ([(Value.int (c0.toInt8.toInt32))]) T291.heap n0 O291 f291_0 (EA.keep K291) f291_1 (FA.keep K291 nin0) f291_2 (CA.keep K291 nin0) (own_sne f291_1 (FA.keep K291 nin0) f291_3 (VA.keep K291 nin0) r291_0) f291_3 (VA.keep K291 nin0) r291_0) hZ291 hw86 hw3 (by decide) (by decide)) q292a q292c (g := (mkF m 12 #[vr sa] [(.ref sa), (.ref r_291)])) rfl (by rw [hml]; rfl) (Steps.refl _) (argsL := [(.ref sa)]) (rest := []) (lenOf pd_19 rfl) rfl (Nat.le_of_eq rfl) (hb hby d4_12) (fun _ _ => ⟨rfl, rfl, (by decide : 2 + 0 ≤ _), (by decide : 4 + 0 ≤ _)⟩)
    dsimp only [Pt.U, Pt.locs, Pt.cells, Pt.slots] at X292 l292 y292 z292 st292 hQ292
    subst l292 y292 z292
    obtain ⟨rfl, rfl, e292⟩ := hQ292
    try replace X292 := own_nil X292
    refine Go.by' (fun t k => st292.trans k) ?_
    show Go p.tables e below Pf (T292.setTop (mkF m 15 #[vr sa] [(.int (0 : Int32))]))
    refine Go.by' (fun t k => (XS.ifYes X292.here hx rfl (pc0 := 15) (pc' := 40) rfl (hb hby d4_15) rfl ((if0 _ _).trans (teq (by decide)).1) (by decide) (by decide) (XS.iconst X292.here hx rfl (hb hby d4_40) k))) ?_
    show Go p.tables e below Pf (T292.setTop (mkF m 41 #[vr sa] [(.int (0 : Int32))]))
    rw [hPf]
    exact Go.retIS X292 hx hEL Sb291 e292 hh hret hlk (by simp) rfl (hb hby d4_41) (by decide) (by decide) ⟨(0 : Int32), rfl, N291, (by rw [e292]; exact KC291), (Or.inr ⟨fun q => q.1 hW0, rfl⟩)⟩
  · show Go p.tables e below Pf (s₁.setTop (mkF m 0 #[vr sa] []))
    by_cases hWl : Ws c0
    · show Go p.tables e below Pf (s₁.setTop (mkF m 0 #[vr sa] []))
      refine Go.by' (fun t k => (XS.aloadN X0.here hx rfl (hb hby d4_0) rfl rfl k)) ?_
      obtain ⟨cq293, kq293, q293a, q293b, q293c⟩ := isOf hZ e0 EA
      obtain ⟨_, _, ⟨T293, L293, k293, n293⟩, -, X293, ⟨Lc293, hQ293, l293, y293, z293⟩, st293⟩ := X0.virtualBack hx (y := own_y20) (z := own_y20) hown (mvT hZ hw26) (mvT hZ hw27) (notFace_of_selects (args := #[]) (mvT hZ hw29)) (mvT hZ hw29) (mvT hZ hw28) (by decide) (backOf (W := 0) (rmEm_1 l Z a0 hw [] vcs wI wA cA G sa va ka ((c0.toInt8.toInt32)) h0 n0 O0 EA FA CA VA) hZ hw30 hw3 (by decide) (by decide)) q293a q293c (g := (mkF m 1 #[vr sa] [(.ref sa)])) rfl (by rw [hml]; rfl) (Steps.refl _) (argsL := []) (rest := []) (lenOf pd_8 rfl) rfl (Nat.le_of_eq rfl) (hb hby d4_1) (fun _ _ => ⟨rfl, e0, (by decide : 0 + 0 ≤ _), (by decide : 0 + 0 ≤ _)⟩)
      dsimp only [Pt.U, Pt.locs, Pt.cells, Pt.slots] at X293 l293 y293 z293 st293 hQ293
      subst l293 y293 z293
      obtain ⟨rfl, rfl, e293⟩ := hQ293
      try replace X293 := own_nil X293
      refine Go.by' (fun t k => st293.trans k) ?_
      show Go p.tables e below Pf (T293.setTop (mkF m 4 #[vr sa] [(.int (0 : Int32))]))
      refine Go.by' (fun t k => (XS.ifNo X293.here hx rfl (hb hby d4_4) rfl ((if0 _ _).trans (teq (by decide)).2) (XS.aloadN X293.here hx rfl (hb hby d4_7) rfl rfl k))) ?_
      obtain ⟨cq294, kq294, q294a, q294b, q294c⟩ := isOf hZ e293 EA
      obtain ⟨_, _, ⟨T294, L294, k294, n294⟩, -, X294, Si294, Gr294, ⟨Lc294, hQ294, l294, y294, z294, A294⟩, st294⟩ := X293.virtualBackS hx (y := own_y14) (z := own_y14) hown (mvT hZ hw46) (mvT hZ hw47) (notFace_of_selects (args := #[]) (mvT hZ hw49)) (mvT hZ hw49) (mvT hZ hw48) (by decide) (own_backS (W := 0) (rmSTC_1 l Z a0 hw [] vcs wI wA cA G sa va ka ((c0.toInt8.toInt32)) h0 n0 O0 EA FA CA VA (Or.inr (by rw [u0]; exact hWl))) Sb0 hw50 hw3 (by decide) (by decide) hEL all0) q294a q294c (g := (mkF m 8 #[vr sa] [(.ref sa)])) rfl (by rw [hml]; rfl) (Steps.refl _) (argsL := []) (rest := []) (lenOf pd_15 rfl) rfl (Nat.le_of_eq rfl) (hb hby d4_8) (fun _ _ => ⟨rfl, e293, (by decide : 0 + 2 ≤ _), (by decide : 0 + 4 ≤ _)⟩)
      dsimp only [Pt.U, Pt.locs, Pt.cells, Pt.slots] at X294 l294 y294 z294 st294 hQ294 Si294 Gr294 A294
      subst l294 y294 z294
      obtain ⟨r_294, rb_294, kb_294, zr_294, vsr_294, rfl, N294q, K294, f294_0, f294_1, f294_2, f294_3, r294_0⟩ := hQ294
      have N294 := Fr.app N0 N294q
      obtain ⟨lc294, X294, N294⟩ := own_pack X294 N294
      replace X294 := own_reb X294
      have Sb294 := Sb0.called Si294 (by rw [← e293]; exact Gr294) A294
      have hZ294 := Sb294.hZ
      have hO294 := Sb294.hO
      refine Go.by' (fun t k => st294.trans k) ?_
      have O294 := O0.keep K294 all0
      have KC294 : Keep h0 T294.heap [] := KC0.trans K294 all0
      show Go p.tables e below Pf (T294.setTop (mkF m 11 #[vr sa] [(.ref r_294)]))
      refine Go.by' (fun t k => (XS.aloadN X294.here hx rfl (hb hby d4_11) rfl rfl k)) ?_
      obtain ⟨cq295, kq295, q295a, q295b, q295c⟩ := isOf hZ294 rfl f294_0
      obtain ⟨_, _, ⟨T295, L295, k295, n295⟩, -, X295, ⟨Lc295, hQ295, l295, y295, z295⟩, st295⟩ := X294.virtualBack hx (y := own_y15) (z := own_y15) hO294 (mvT hZ294 hw82) (mvT hZ294 hw83) (notFace_of_selects (args := #[]) (mvT hZ294 hw85)) (mvT hZ294 hw85) (mvT hZ294 hw84) (by decide) (backOf (W := 0) (rmED l Z a0 hw [] vcs wI wA cA G r_294 sa rb_294 va kb_294 ka zr_294 ((1 : Int32)) vsr_294 ([(Value.int (c0.toInt8.toInt32))]) T294.heap n0 O294 f294_0 (EA.keep K294) f294_1 (FA.keep K294 nin0) f294_2 (CA.keep K294 nin0) (own_sne f294_1 (FA.keep K294 nin0) f294_3 (VA.keep K294 nin0) r294_0) f294_3 (VA.keep K294 nin0) r294_0) hZ294 hw86 hw3 (by decide) (by decide)) q295a q295c (g := (mkF m 12 #[vr sa] [(.ref sa), (.ref r_294)])) rfl (by rw [hml]; rfl) (Steps.refl _) (argsL := [(.ref sa)]) (rest := []) (lenOf pd_19 rfl) rfl (Nat.le_of_eq rfl) (hb hby d4_12) (fun _ _ => ⟨rfl, rfl, (by decide : 2 + 0 ≤ _), (by decide : 4 + 0 ≤ _)⟩)
      dsimp only [Pt.U, Pt.locs, Pt.cells, Pt.slots] at X295 l295 y295 z295 st295 hQ295
      subst l295 y295 z295
      obtain ⟨rfl, rfl, e295⟩ := hQ295
      try replace X295 := own_nil X295
      refine Go.by' (fun t k => st295.trans k) ?_
      show Go p.tables e below Pf (T295.setTop (mkF m 15 #[vr sa] [(.int (0 : Int32))]))
      refine Go.by' (fun t k => (XS.ifYes X295.here hx rfl (pc0 := 15) (pc' := 40) rfl (hb hby d4_15) rfl ((if0 _ _).trans (teq (by decide)).1) (by decide) (by decide) (XS.iconst X295.here hx rfl (hb hby d4_40) k))) ?_
      show Go p.tables e below Pf (T295.setTop (mkF m 41 #[vr sa] [(.int (0 : Int32))]))
      rw [hPf]
      exact Go.retIS X295 hx hEL Sb294 e295 hh hret hlk (by simp) rfl (hb hby d4_41) (by decide) (by decide) ⟨(0 : Int32), rfl, N294, (by rw [e295]; exact KC294), (Or.inr ⟨fun q => q.2.1 hWl, rfl⟩)⟩
    · show Go p.tables e below Pf (s₁.setTop (mkF m 0 #[vr sa] []))
      refine Go.by' (fun t k => (XS.aloadN X0.here hx rfl (hb hby d4_0) rfl rfl k)) ?_
      obtain ⟨cq296, kq296, q296a, q296b, q296c⟩ := isOf hZ e0 EA
      obtain ⟨_, _, ⟨T296, L296, k296, n296⟩, -, X296, ⟨Lc296, hQ296, l296, y296, z296⟩, st296⟩ := X0.virtualBack hx (y := own_y20) (z := own_y20) hown (mvT hZ hw26) (mvT hZ hw27) (notFace_of_selects (args := #[]) (mvT hZ hw29)) (mvT hZ hw29) (mvT hZ hw28) (by decide) (backOf (W := 0) (rmEm_1 l Z a0 hw [] vcs wI wA cA G sa va ka ((c0.toInt8.toInt32)) h0 n0 O0 EA FA CA VA) hZ hw30 hw3 (by decide) (by decide)) q296a q296c (g := (mkF m 1 #[vr sa] [(.ref sa)])) rfl (by rw [hml]; rfl) (Steps.refl _) (argsL := []) (rest := []) (lenOf pd_8 rfl) rfl (Nat.le_of_eq rfl) (hb hby d4_1) (fun _ _ => ⟨rfl, e0, (by decide : 0 + 0 ≤ _), (by decide : 0 + 0 ≤ _)⟩)
      dsimp only [Pt.U, Pt.locs, Pt.cells, Pt.slots] at X296 l296 y296 z296 st296 hQ296
      subst l296 y296 z296
      obtain ⟨rfl, rfl, e296⟩ := hQ296
      try replace X296 := own_nil X296
      refine Go.by' (fun t k => st296.trans k) ?_
      show Go p.tables e below Pf (T296.setTop (mkF m 4 #[vr sa] [(.int (0 : Int32))]))
      refine Go.by' (fun t k => (XS.ifNo X296.here hx rfl (hb hby d4_4) rfl ((if0 _ _).trans (teq (by decide)).2) (XS.aloadN X296.here hx rfl (hb hby d4_7) rfl rfl k))) ?_
      obtain ⟨cq297, kq297, q297a, q297b, q297c⟩ := isOf hZ e296 EA
      obtain ⟨_, _, ⟨T297, L297, k297, n297⟩, -, X297, ⟨Lc297, hQ297, l297, y297, z297⟩, st297⟩ := X296.virtualBack hx (y := own_y14) (z := own_y14) hown (mvT hZ hw46) (mvT hZ hw47) (notFace_of_selects (args := #[]) (mvT hZ hw49)) (mvT hZ hw49) (mvT hZ hw48) (by decide) (backOf (W := 0) (rmSTN_1 l Z a0 hw [] vcs wI wA cA G sa va ka ((c0.toInt8.toInt32)) h0 n0 O0 EA FA CA VA (by rw [u0]; exact hW0) (by rw [u0]; exact hWl)) hZ hw50 hw3 (by decide) (by decide)) q297a q297c (g := (mkF m 8 #[vr sa] [(.ref sa)])) rfl (by rw [hml]; rfl) (Steps.refl _) (argsL := []) (rest := []) (lenOf pd_15 rfl) rfl (Nat.le_of_eq rfl) (hb hby d4_8) (fun _ _ => ⟨rfl, e296, (by decide : 0 + 0 ≤ _), (by decide : 0 + 0 ≤ _)⟩)
      dsimp only [Pt.U, Pt.locs, Pt.cells, Pt.slots] at X297 l297 y297 z297 st297 hQ297
      subst l297 y297 z297
      obtain ⟨rfl, rfl, e297⟩ := hQ297
      try replace X297 := own_nil X297
      refine Go.by' (fun t k => st297.trans k) ?_
      show Go p.tables e below Pf (T297.setTop (mkF m 11 #[vr sa] [(.ref sa)]))
      refine Go.by' (fun t k => (XS.aloadN X297.here hx rfl (hb hby d4_11) rfl rfl k)) ?_
      obtain ⟨cq298, kq298, q298a, q298b, q298c⟩ := isOf hZ e297 EA
      obtain ⟨_, _, ⟨T298, L298, k298, n298⟩, -, X298, ⟨Lc298, hQ298, l298, y298, z298⟩, st298⟩ := X297.virtualBack hx (y := own_y15) (z := own_y15) hown (mvT hZ hw82) (mvT hZ hw83) (notFace_of_selects (args := #[]) (mvT hZ hw85)) (mvT hZ hw85) (mvT hZ hw84) (by decide) (backOf (W := 0) (rmEI l Z a0 hw [] vcs wI wA cA G sa h0 n0 O0 ) hZ hw86 hw3 (by decide) (by decide)) q298a q298c (g := (mkF m 12 #[vr sa] [(.ref sa), (.ref sa)])) rfl (by rw [hml]; rfl) (Steps.refl _) (argsL := [(.ref sa)]) (rest := []) (lenOf pd_19 rfl) rfl (Nat.le_of_eq rfl) (hb hby d4_12) (fun _ _ => ⟨rfl, e297, (by decide : 0 + 0 ≤ _), (by decide : 0 + 0 ≤ _)⟩)
      dsimp only [Pt.U, Pt.locs, Pt.cells, Pt.slots] at X298 l298 y298 z298 st298 hQ298
      subst l298 y298 z298
      obtain ⟨rfl, rfl, e298⟩ := hQ298
      try replace X298 := own_nil X298
      refine Go.by' (fun t k => st298.trans k) ?_
      show Go p.tables e below Pf (T298.setTop (mkF m 15 #[vr sa] [(.int (1 : Int32))]))
      refine Go.by' (fun t k => (XS.ifNo X298.here hx rfl (hb hby d4_15) rfl ((if0 _ _).trans (feq (by decide)).1) (XS.aloadN X298.here hx rfl (hb hby d4_18) rfl rfl k))) ?_
      obtain ⟨T299, h299, a299, bb299, kb299, X299, e299, E299, Sb299, A299, Ex299, Fc299, Fv299, Vb299, Ne299, st299⟩ := own_ldc X298 hx Sb0 hw87 hSA e298 hEL (List.mem_of_getElem? (i := 0) rfl) (vs := [(.int (44 : Int32))]) (z := (1 : Int32)) (by decide +kernel) (by decide) rfl (g := (mkF m 19 #[vr sa] [(.ref sa)])) rfl (hb hby d4_19) (n := 4) (by decide +kernel) (by decide) (by decide) (by decide)
      refine Go.by' st299 ?_
      have O299 := O0.ext E299
      have KC299 : Keep h0 h299 [] := KC0.ext E299
      have hZ299 := Sb299.hZ
      have hO299 := Sb299.hO
      obtain ⟨cq300, kq300, q300a, q300b, q300c⟩ := isOf hZ299 e299 (EA.ext E299)
      obtain ⟨_, _, ⟨T300, L300, k300, n300⟩, -, X300, ⟨Lc300, hQ300, l300, y300, z300⟩, st300⟩ := X299.virtualBack hx (y := own_y25) (z := own_y25) hO299 (mvT hZ299 hw88) (mvT hZ299 hw89) (notFace_of_selects (args := #[]) (mvT hZ299 hw91)) (mvT hZ299 hw91) (mvT hZ299 hw90) (by decide) (backOf (W := 0) (rmCn_1 l Z a0 hw [] vcs wI wA cA G sa a299 va bb299 ka kb299 ((c0.toInt8.toInt32)) h299 n0 O299 (EA.ext E299) (FA.ext E299) (CA.ext E299) (VA.ext E299) Ex299 Fv299 Fc299 Vb299) hZ299 hw92 hw3 (by decide) (by decide)) q300a q300c (g := (mkF m 21 #[vr sa] [(.ref a299), (.ref sa)])) rfl (by rw [hml]; rfl) (Steps.refl _) (argsL := [(.ref a299)]) (rest := []) (lenOf pd_20 rfl) rfl (Nat.le_of_eq rfl) (hb hby d4_21) (fun _ _ => ⟨rfl, e299, (by decide : 2 + 0 ≤ _), (by decide : 8 + 0 ≤ _)⟩)
      dsimp only [Pt.U, Pt.locs, Pt.cells, Pt.slots] at X300 l300 y300 z300 st300 hQ300
      subst l300 y300 z300
      obtain ⟨r_300, rfl, rfl, e300, r300_0⟩ := hQ300
      try replace X300 := own_nil X300
      refine Go.by' (fun t k => st300.trans k) ?_
      rcases r300_0 with ⟨hE300, hz300⟩ | ⟨hE300, hz300⟩
      · subst hz300
        rw [b0] at hE300
        show Go p.tables e below Pf (T300.setTop (mkF m 24 #[vr sa] [(.int (1 : Int32))]))
        refine Go.by' (fun t k => (XS.ifYes X300.here hx rfl (pc0 := 24) (pc' := 40) rfl (hb hby d4_24) rfl ((if0 _ _).trans (feq (by decide)).2) (by decide) (by decide) (XS.iconst X300.here hx rfl (hb hby d4_40) k))) ?_
        show Go p.tables e below Pf (T300.setTop (mkF m 41 #[vr sa] [(.int (0 : Int32))]))
        rw [hPf]
        exact Go.retIS X300 hx hEL Sb299 e300 hh hret hlk (by simp) rfl (hb hby d4_41) (by decide) (by decide) ⟨(0 : Int32), rfl, N0, (by rw [e300]; exact KC299), (Or.inr ⟨fun q => q.2.2.1 hE300, rfl⟩)⟩
      · subst hz300
        rw [b0] at hE300
        show Go p.tables e below Pf (T300.setTop (mkF m 24 #[vr sa] [(.int (0 : Int32))]))
        refine Go.by' (fun t k => (XS.ifNo X300.here hx rfl (hb hby d4_24) rfl ((if0 _ _).trans (teq (by decide)).2) (XS.aloadN X300.here hx rfl (hb hby d4_27) rfl rfl k))) ?_
        obtain ⟨T301, h301, a301, bb301, kb301, X301, e301, E301, Sb301, A301, Ex301, Fc301, Fv301, Vb301, Ne301, st301⟩ := own_ldc X300 hx Sb299 hw118 hSA e300 hEL (List.mem_of_getElem? (i := 1) rfl) (vs := [(.int (33 : Int32))]) (z := (1 : Int32)) (by decide +kernel) (by decide) rfl (g := (mkF m 28 #[vr sa] [(.ref sa)])) rfl (hb hby d4_28) (n := 4) (by decide +kernel) (by decide) (by decide) (by decide)
        refine Go.by' st301 ?_
        have O301 := O299.ext E301
        have KC301 : Keep h0 h301 [] := KC299.ext E301
        have hZ301 := Sb301.hZ
        have hO301 := Sb301.hO
        have c303 := ((VA.ext E299).ext E301)
        have c304 := ((EA.ext E299).ext E301)
        have c305 := ((FA.ext E299).ext E301)
        have c306 := ((CA.ext E299).ext E301)
        obtain ⟨cq302, kq302, q302a, q302b, q302c⟩ := isOf hZ301 e301 c304
        obtain ⟨_, _, ⟨T302, L302, k302, n302⟩, -, X302, ⟨Lc302, hQ302, l302, y302, z302⟩, st302⟩ := X301.virtualBack hx (y := own_y28) (z := own_y28) hO301 (mvT hZ301 hw119) (mvT hZ301 hw120) (notFace_of_selects (args := #[]) (mvT hZ301 hw122)) (mvT hZ301 hw122) (mvT hZ301 hw121) (by decide) (backOf (W := 0) (rmS1_1w l Z a0 hw [] vcs wI wA cA G sa a301 va bb301 ka kb301 ((c0.toInt8.toInt32)) h301 n0 O301 c304 c305 c306 c303 Ex301 Fv301 Fc301 Vb301) hZ301 hw123 hw3 (by decide) (by decide)) q302a q302c (g := (mkF m 30 #[vr sa] [(.ref a301), (.ref sa)])) rfl (by rw [hml]; rfl) (Steps.refl _) (argsL := [(.ref a301)]) (rest := []) (lenOf pd_21 rfl) rfl (Nat.le_of_eq rfl) (hb hby d4_30) (fun _ _ => ⟨rfl, e301, (by decide : 4 + 0 ≤ _), (by decide : 16 + 0 ≤ _)⟩)
        dsimp only [Pt.U, Pt.locs, Pt.cells, Pt.slots] at X302 l302 y302 z302 st302 hQ302
        subst l302 y302 z302
        obtain ⟨r_302, rfl, rfl, e302, r302_0⟩ := hQ302
        try replace X302 := own_nil X302
        refine Go.by' (fun t k => st302.trans k) ?_
        rcases r302_0 with ⟨hE302, hz302⟩ | ⟨hE302, hz302⟩
        · subst hz302
          rw [b33] at hE302
          show Go p.tables e below Pf (T302.setTop (mkF m 33 #[vr sa] [(.int (1 : Int32))]))
          refine Go.by' (fun t k => (XS.ifYes X302.here hx rfl (pc0 := 33) (pc' := 40) rfl (hb hby d4_33) rfl ((if0 _ _).trans (feq (by decide)).2) (by decide) (by decide) (XS.iconst X302.here hx rfl (hb hby d4_40) k))) ?_
          show Go p.tables e below Pf (T302.setTop (mkF m 41 #[vr sa] [(.int (0 : Int32))]))
          rw [hPf]
          exact Go.retIS X302 hx hEL Sb301 e302 hh hret hlk (by simp) rfl (hb hby d4_41) (by decide) (by decide) ⟨(0 : Int32), rfl, N0, (by rw [e302]; exact KC301), (Or.inr ⟨fun q => q.2.2.2 hE302, rfl⟩)⟩
        · subst hz302
          rw [b33] at hE302
          show Go p.tables e below Pf (T302.setTop (mkF m 33 #[vr sa] [(.int (0 : Int32))]))
          refine Go.by' (fun t k => (XS.ifNo X302.here hx rfl (hb hby d4_33) rfl ((if0 _ _).trans (teq (by decide)).2) (XS.iconst X302.here hx rfl (hb hby d4_36) (XS.goto X302.here hx rfl (pc0 := 37) (pc' := 41) rfl (hb hby d4_37) (by decide) (by decide) k)))) ?_
          show Go p.tables e below Pf (T302.setTop (mkF m 41 #[vr sa] [(.int (1 : Int32))]))
          rw [hPf]
          exact Go.retIS X302 hx hEL Sb301 e302 hh hret hlk (by simp) rfl (hb hby d4_41) (by decide) (by decide) ⟨(1 : Int32), rfl, N0, (by rw [e302]; exact KC301), (Or.inl ⟨⟨hW0, hWl, hE300, hE302⟩, rfl⟩)⟩
theorem ef_rmN_2 (m : MethodId) {sa : Addr} : entryFrame m #[(.ref sa)] 1 = mkF m 0 #[vr sa] [] := by first | (simp [entryFrame, mkF, argsToLocals, Value.category]; done) | rfl
def QrmN_2 (Z : State) (vcs : Int32) (wI : Addr) (wA : Addr) (cA : Cell) (sa : Addr) (va : Addr) (ka : ClassId) (c0 : Int32) (c1 : Int32) (h0 : Heap) (n0 : Nat) (v : Option Value) (h : Heap) (vm : Vm) (L : List Loc) : Prop := ∃ (r : Int32), (v = some (.int r)) ∧ (Fr n0 L) ∧ (Keep h0 h []) ∧ (((¬ Ws c0 ∧ ¬ Ws c1 ∧ ¬ (c0 = (44 : Int32) ∨ c1 = (44 : Int32)) ∧ ¬ (c0 = (33 : Int32))) ∧ r = (1 : Int32)) ∨ (¬ (¬ Ws c0 ∧ ¬ Ws c1 ∧ ¬ (c0 = (44 : Int32) ∨ c1 = (44 : Int32)) ∧ ¬ (c0 = (33 : Int32))) ∧ r = (0 : Int32)))
theorem rmN_2 (l : Launch) (Z : State) (a0 : Array Value) (hw : ∀ d ∈ tables_1, d.before a0 Z = true) (ws : List Jvm.Cond) (vcs : Int32) (wI : Addr) (wA : Addr) (cA : Cell) (G : Gh Z vcs wI wA cA) (sa : Addr) (va : Addr) (ka : ClassId) (c0 : Int32) (c1 : Int32) (h0 : Heap) (n0 : Nat) (O0 : Old Z n0 h0) (EA : Exa Z h0 sa "java/lang/String") (FA : Fld Z h0 sa "java/lang/String" "value" "[B" (.ref va)) (CA : Fld Z h0 sa "java/lang/String" "coder" "B" (.int (0 : Int32))) (VA : Arv Z h0 va ka .byte (2 : Int32) [(.int (c0.toInt8.toInt32)), (.int (c1.toInt8.toInt32))] (.int (0 : Int32))) (hl0 : ¬ (c0 < (0 : Int32))) (hb0 : ¬ ((255 : Int32) < c0)) (hl1 : ¬ (c1 < (0 : Int32))) (hb1 : ¬ ((255 : Int32) < c1)) :
    MetFree l own_y29 (head1 (Jvm.Cond.code own_y29 prog_19_method_4_code 1 (some .boolean) :: ws) ({ frames := 6, cells := 4, slots := 16, locals := 114 } : Room)) (fun aa' UU' => aa' = #[(.ref sa)] ∧ Z.Warmed39 UU'.vm ∧ UU'.heap = h0 ∧ CHv Z consts_1 UU'.vm h0 ∧ ∀ x ∈ ([] : List Addr), Safe Z consts_1 UU'.vm h0 x) (fun _ _ _ _ _ => True) (fun _ UU' oo' VV' => ∃ v' L', oo' = .returned v' ∧ QrmN_2 Z vcs wI wA cA sa va ka c0 c1 h0 n0 v' VV'.heap VV'.vm L' ∧ CHr Z consts_1 UU'.vm UU'.heap VV'.vm VV'.heap ∧ ReturnedEndW UU' oo' VV' L' ({ frames := 6, cells := 4, slots := 16, locals := 114 } : Room).cells ({ frames := 6, cells := 4, slots := 16, locals := 114 } : Room).slots) := by
  refine MetFree.of_bodySF (plainFor_of_name pn_4) hisR ?_
  intro p e s m args below meth c s₁ Bd hml0 hP hK
  obtain ⟨rfl, hZ, hh, hCH, hSf⟩ := hP
  have hml : c.maxLocals = 1 := hml0
  obtain ⟨hx, hby, hlk, hown, hnm, hret, X0, e0⟩ := own_hd Bd hh
  replace X0 : Stand p l e ({ frames := 6, cells := 4, slots := 16, locals := 114 } : Room) (s.setVm s.vm) m _ below meth c s₁ [] 0 0 := X0
  have N0 := Fr.nil n0
  have KC0 : Keep h0 h0 [] := Keep.refl _ _
  have Sb0 := Sb.start hZ hown hCH
  have hEL := own_EW hw
  have hSA := own_SA hw
  refine Go.bodyS ?_
  obtain ⟨Pf, hPf⟩ : ∃ P, P = FinS Z consts_1 s below ({ frames := 6, cells := 4, slots := 16, locals := 114 } : Room).cells ({ frames := 6, cells := 4, slots := 16, locals := 114 } : Room).slots (QrmN_2 Z vcs wI wA cA sa va ka c0 c1 h0 n0) := ⟨_, rfl⟩
  rw [← hPf]
  refine Go.cast (ef_rmN_2 m) ?_
  have hw3 := own_w hw 3 rfl
  have hw26 := own_w hw 26 rfl
  have hw27 := own_w hw 27 rfl
  have hw28 := own_w hw 28 rfl
  have hw29 := own_w hw 29 rfl
  have hw30 := own_w hw 30 rfl
  have hw46 := own_w hw 46 rfl
  have hw47 := own_w hw 47 rfl
  have hw48 := own_w hw 48 rfl
  have hw49 := own_w hw 49 rfl
  have hw50 := own_w hw 50 rfl
  have hw82 := own_w hw 82 rfl
  have hw83 := own_w hw 83 rfl
  have hw84 := own_w hw 84 rfl
  have hw85 := own_w hw 85 rfl
  have hw86 := own_w hw 86 rfl
  have hw87 := own_w hw 87 rfl
  have hw88 := own_w hw 88 rfl
  have hw89 := own_w hw 89 rfl
  have hw90 := own_w hw 90 rfl
  have hw91 := own_w hw 91 rfl
  have hw92 := own_w hw 92 rfl
  have hw118 := own_w hw 118 rfl
  have hw119 := own_w hw 119 rfl
  have hw120 := own_w hw 120 rfl
  have hw121 := own_w hw 121 rfl
  have hw122 := own_w hw 122 rfl
  have hw123 := own_w hw 123 rfl
  have u0 : ((c0.toInt8.toInt32) &&& (255 : Int32)) = c0 := own_u8 hl0 hb0
  have u1 : ((c1.toInt8.toInt32) &&& (255 : Int32)) = c1 := own_u8 hl1 hb1
  have b0 : ((c0.toInt8.toInt32) = (44 : Int32)) ↔ c0 = (44 : Int32) := own_bk hl0 hb0 (by decide) (by decide) (by decide)
  have b1 : ((c1.toInt8.toInt32) = (44 : Int32)) ↔ c1 = (44 : Int32) := own_bk hl1 hb1 (by decide) (by decide) (by decide)
  have b33 : ((c0.toInt8.toInt32) = (33 : Int32)) ↔ c0 = (33 : Int32) := own_bk hl0 hb0 (by decide) (by decide) (by decide)
  show Go p.tables e below Pf (s₁.setTop (mkF m 0 #[vr sa] []))
  by_cases hW0 : Ws c0
  · show Go p.tables e below Pf (s₁.setTop (mkF m 0 #[vr sa] []))
    refine Go.by' (fun t k => (XS.aloadN X0.here hx rfl (hb hby d4_0) rfl rfl k)) ?_
    obtain ⟨cq307, kq307, q307a, q307b, q307c⟩ := isOf hZ e0 EA
    obtain ⟨_, _, ⟨T307, L307, k307, n307⟩, -, X307, ⟨Lc307, hQ307, l307, y307, z307⟩, st307⟩ := X0.virtualBack hx (y := own_y20) (z := own_y20) hown (mvT hZ hw26) (mvT hZ hw27) (notFace_of_selects (args := #[]) (mvT hZ hw29)) (mvT hZ hw29) (mvT hZ hw28) (by decide) (backOf (W := 0) (rmEm_2 l Z a0 hw [] vcs wI wA cA G sa va ka ((c0.toInt8.toInt32)) ((c1.toInt8.toInt32)) h0 n0 O0 EA FA CA VA) hZ hw30 hw3 (by decide) (by decide)) q307a q307c (g := (mkF m 1 #[vr sa] [(.ref sa)])) rfl (by rw [hml]; rfl) (Steps.refl _) (argsL := []) (rest := []) (lenOf pd_8 rfl) rfl (Nat.le_of_eq rfl) (hb hby d4_1) (fun _ _ => ⟨rfl, e0, (by decide : 0 + 0 ≤ _), (by decide : 0 + 0 ≤ _)⟩)
    dsimp only [Pt.U, Pt.locs, Pt.cells, Pt.slots] at X307 l307 y307 z307 st307 hQ307
    subst l307 y307 z307
    obtain ⟨rfl, rfl, e307⟩ := hQ307
    try replace X307 := own_nil X307
    refine Go.by' (fun t k => st307.trans k) ?_
    show Go p.tables e below Pf (T307.setTop (mkF m 4 #[vr sa] [(.int (0 : Int32))]))
    refine Go.by' (fun t k => (XS.ifNo X307.here hx rfl (hb hby d4_4) rfl ((if0 _ _).trans (teq (by decide)).2) (XS.aloadN X307.here hx rfl (hb hby d4_7) rfl rfl k))) ?_
    obtain ⟨cq308, kq308, q308a, q308b, q308c⟩ := isOf hZ e307 EA
    obtain ⟨_, _, ⟨T308, L308, k308, n308⟩, -, X308, Si308, Gr308, ⟨Lc308, hQ308, l308, y308, z308, A308⟩, st308⟩ := X307.virtualBackS hx (y := own_y14) (z := own_y14) hown (mvT hZ hw46) (mvT hZ hw47) (notFace_of_selects (args := #[]) (mvT hZ hw49)) (mvT hZ hw49) (mvT hZ hw48) (by decide) (own_backS (W := 0) (rmSTC_2 l Z a0 hw [] vcs wI wA cA G sa va ka ((c0.toInt8.toInt32)) ((c1.toInt8.toInt32)) h0 n0 O0 EA FA CA VA (Or.inl (by rw [u0]; exact hW0))) Sb0 hw50 hw3 (by decide) (by decide) hEL all0) q308a q308c (g := (mkF m 8 #[vr sa] [(.ref sa)])) rfl (by rw [hml]; rfl) (Steps.refl _) (argsL := []) (rest := []) (lenOf pd_15 rfl) rfl (Nat.le_of_eq rfl) (hb hby d4_8) (fun _ _ => ⟨rfl, e307, (by decide : 0 + 2 ≤ _), (by decide : 0 + 7 ≤ _)⟩)
    dsimp only [Pt.U, Pt.locs, Pt.cells, Pt.slots] at X308 l308 y308 z308 st308 hQ308 Si308 Gr308 A308
    subst l308 y308 z308
    obtain ⟨r_308, rb_308, kb_308, zr_308, vsr_308, rfl, N308q, K308, f308_0, f308_1, f308_2, f308_3, r308_0⟩ := hQ308
    have N308 := Fr.app N0 N308q
    obtain ⟨lc308, X308, N308⟩ := own_pack X308 N308
    replace X308 := own_reb X308
    have Sb308 := Sb0.called Si308 (by rw [← e307]; exact Gr308) A308
    have hZ308 := Sb308.hZ
    have hO308 := Sb308.hO
    refine Go.by' (fun t k => st308.trans k) ?_
    have O308 := O0.keep K308 all0
    have KC308 : Keep h0 T308.heap [] := KC0.trans K308 all0
    show Go p.tables e below Pf (T308.setTop (mkF m 11 #[vr sa] [(.ref r_308)]))
    refine Go.by' (fun t k => (XS.aloadN X308.here hx rfl (hb hby d4_11) rfl rfl k)) ?_
    obtain ⟨cq309, kq309, q309a, q309b, q309c⟩ := isOf hZ308 rfl f308_0
    obtain ⟨_, _, ⟨T309, L309, k309, n309⟩, -, X309, ⟨Lc309, hQ309, l309, y309, z309⟩, st309⟩ := X308.virtualBack hx (y := own_y15) (z := own_y15) hO308 (mvT hZ308 hw82) (mvT hZ308 hw83) (notFace_of_selects (args := #[]) (mvT hZ308 hw85)) (mvT hZ308 hw85) (mvT hZ308 hw84) (by decide) (backOf (W := 0) (rmED l Z a0 hw [] vcs wI wA cA G r_308 sa rb_308 va kb_308 ka zr_308 ((2 : Int32)) vsr_308 ([(Value.int (c0.toInt8.toInt32)), (Value.int (c1.toInt8.toInt32))]) T308.heap n0 O308 f308_0 (EA.keep K308) f308_1 (FA.keep K308 nin0) f308_2 (CA.keep K308 nin0) (own_sne f308_1 (FA.keep K308 nin0) f308_3 (VA.keep K308 nin0) r308_0) f308_3 (VA.keep K308 nin0) r308_0) hZ308 hw86 hw3 (by decide) (by decide)) q309a q309c (g := (mkF m 12 #[vr sa] [(.ref sa), (.ref r_308)])) rfl (by rw [hml]; rfl) (Steps.refl _) (argsL := [(.ref sa)]) (rest := []) (lenOf pd_19 rfl) rfl (Nat.le_of_eq rfl) (hb hby d4_12) (fun _ _ => ⟨rfl, rfl, (by decide : 2 + 0 ≤ _), (by decide : 7 + 0 ≤ _)⟩)
    dsimp only [Pt.U, Pt.locs, Pt.cells, Pt.slots] at X309 l309 y309 z309 st309 hQ309
    subst l309 y309 z309
    obtain ⟨rfl, rfl, e309⟩ := hQ309
    try replace X309 := own_nil X309
    refine Go.by' (fun t k => st309.trans k) ?_
    show Go p.tables e below Pf (T309.setTop (mkF m 15 #[vr sa] [(.int (0 : Int32))]))
    refine Go.by' (fun t k => (XS.ifYes X309.here hx rfl (pc0 := 15) (pc' := 40) rfl (hb hby d4_15) rfl ((if0 _ _).trans (teq (by decide)).1) (by decide) (by decide) (XS.iconst X309.here hx rfl (hb hby d4_40) k))) ?_
    show Go p.tables e below Pf (T309.setTop (mkF m 41 #[vr sa] [(.int (0 : Int32))]))
    rw [hPf]
    exact Go.retIS X309 hx hEL Sb308 e309 hh hret hlk (by simp) rfl (hb hby d4_41) (by decide) (by decide) ⟨(0 : Int32), rfl, N308, (by rw [e309]; exact KC308), (Or.inr ⟨fun q => q.1 hW0, rfl⟩)⟩
  · show Go p.tables e below Pf (s₁.setTop (mkF m 0 #[vr sa] []))
    by_cases hWl : Ws c1
    · show Go p.tables e below Pf (s₁.setTop (mkF m 0 #[vr sa] []))
      refine Go.by' (fun t k => (XS.aloadN X0.here hx rfl (hb hby d4_0) rfl rfl k)) ?_
      obtain ⟨cq310, kq310, q310a, q310b, q310c⟩ := isOf hZ e0 EA
      obtain ⟨_, _, ⟨T310, L310, k310, n310⟩, -, X310, ⟨Lc310, hQ310, l310, y310, z310⟩, st310⟩ := X0.virtualBack hx (y := own_y20) (z := own_y20) hown (mvT hZ hw26) (mvT hZ hw27) (notFace_of_selects (args := #[]) (mvT hZ hw29)) (mvT hZ hw29) (mvT hZ hw28) (by decide) (backOf (W := 0) (rmEm_2 l Z a0 hw [] vcs wI wA cA G sa va ka ((c0.toInt8.toInt32)) ((c1.toInt8.toInt32)) h0 n0 O0 EA FA CA VA) hZ hw30 hw3 (by decide) (by decide)) q310a q310c (g := (mkF m 1 #[vr sa] [(.ref sa)])) rfl (by rw [hml]; rfl) (Steps.refl _) (argsL := []) (rest := []) (lenOf pd_8 rfl) rfl (Nat.le_of_eq rfl) (hb hby d4_1) (fun _ _ => ⟨rfl, e0, (by decide : 0 + 0 ≤ _), (by decide : 0 + 0 ≤ _)⟩)
      dsimp only [Pt.U, Pt.locs, Pt.cells, Pt.slots] at X310 l310 y310 z310 st310 hQ310
      subst l310 y310 z310
      obtain ⟨rfl, rfl, e310⟩ := hQ310
      try replace X310 := own_nil X310
      refine Go.by' (fun t k => st310.trans k) ?_
      show Go p.tables e below Pf (T310.setTop (mkF m 4 #[vr sa] [(.int (0 : Int32))]))
      refine Go.by' (fun t k => (XS.ifNo X310.here hx rfl (hb hby d4_4) rfl ((if0 _ _).trans (teq (by decide)).2) (XS.aloadN X310.here hx rfl (hb hby d4_7) rfl rfl k))) ?_
      obtain ⟨cq311, kq311, q311a, q311b, q311c⟩ := isOf hZ e310 EA
      obtain ⟨_, _, ⟨T311, L311, k311, n311⟩, -, X311, Si311, Gr311, ⟨Lc311, hQ311, l311, y311, z311, A311⟩, st311⟩ := X310.virtualBackS hx (y := own_y14) (z := own_y14) hown (mvT hZ hw46) (mvT hZ hw47) (notFace_of_selects (args := #[]) (mvT hZ hw49)) (mvT hZ hw49) (mvT hZ hw48) (by decide) (own_backS (W := 0) (rmSTC_2 l Z a0 hw [] vcs wI wA cA G sa va ka ((c0.toInt8.toInt32)) ((c1.toInt8.toInt32)) h0 n0 O0 EA FA CA VA (Or.inr (by rw [u1]; exact hWl))) Sb0 hw50 hw3 (by decide) (by decide) hEL all0) q311a q311c (g := (mkF m 8 #[vr sa] [(.ref sa)])) rfl (by rw [hml]; rfl) (Steps.refl _) (argsL := []) (rest := []) (lenOf pd_15 rfl) rfl (Nat.le_of_eq rfl) (hb hby d4_8) (fun _ _ => ⟨rfl, e310, (by decide : 0 + 2 ≤ _), (by decide : 0 + 7 ≤ _)⟩)
      dsimp only [Pt.U, Pt.locs, Pt.cells, Pt.slots] at X311 l311 y311 z311 st311 hQ311 Si311 Gr311 A311
      subst l311 y311 z311
      obtain ⟨r_311, rb_311, kb_311, zr_311, vsr_311, rfl, N311q, K311, f311_0, f311_1, f311_2, f311_3, r311_0⟩ := hQ311
      have N311 := Fr.app N0 N311q
      obtain ⟨lc311, X311, N311⟩ := own_pack X311 N311
      replace X311 := own_reb X311
      have Sb311 := Sb0.called Si311 (by rw [← e310]; exact Gr311) A311
      have hZ311 := Sb311.hZ
      have hO311 := Sb311.hO
      refine Go.by' (fun t k => st311.trans k) ?_
      have O311 := O0.keep K311 all0
      have KC311 : Keep h0 T311.heap [] := KC0.trans K311 all0
      show Go p.tables e below Pf (T311.setTop (mkF m 11 #[vr sa] [(.ref r_311)]))
      refine Go.by' (fun t k => (XS.aloadN X311.here hx rfl (hb hby d4_11) rfl rfl k)) ?_
      obtain ⟨cq312, kq312, q312a, q312b, q312c⟩ := isOf hZ311 rfl f311_0
      obtain ⟨_, _, ⟨T312, L312, k312, n312⟩, -, X312, ⟨Lc312, hQ312, l312, y312, z312⟩, st312⟩ := X311.virtualBack hx (y := own_y15) (z := own_y15) hO311 (mvT hZ311 hw82) (mvT hZ311 hw83) (notFace_of_selects (args := #[]) (mvT hZ311 hw85)) (mvT hZ311 hw85) (mvT hZ311 hw84) (by decide) (backOf (W := 0) (rmED l Z a0 hw [] vcs wI wA cA G r_311 sa rb_311 va kb_311 ka zr_311 ((2 : Int32)) vsr_311 ([(Value.int (c0.toInt8.toInt32)), (Value.int (c1.toInt8.toInt32))]) T311.heap n0 O311 f311_0 (EA.keep K311) f311_1 (FA.keep K311 nin0) f311_2 (CA.keep K311 nin0) (own_sne f311_1 (FA.keep K311 nin0) f311_3 (VA.keep K311 nin0) r311_0) f311_3 (VA.keep K311 nin0) r311_0) hZ311 hw86 hw3 (by decide) (by decide)) q312a q312c (g := (mkF m 12 #[vr sa] [(.ref sa), (.ref r_311)])) rfl (by rw [hml]; rfl) (Steps.refl _) (argsL := [(.ref sa)]) (rest := []) (lenOf pd_19 rfl) rfl (Nat.le_of_eq rfl) (hb hby d4_12) (fun _ _ => ⟨rfl, rfl, (by decide : 2 + 0 ≤ _), (by decide : 7 + 0 ≤ _)⟩)
      dsimp only [Pt.U, Pt.locs, Pt.cells, Pt.slots] at X312 l312 y312 z312 st312 hQ312
      subst l312 y312 z312
      obtain ⟨rfl, rfl, e312⟩ := hQ312
      try replace X312 := own_nil X312
      refine Go.by' (fun t k => st312.trans k) ?_
      show Go p.tables e below Pf (T312.setTop (mkF m 15 #[vr sa] [(.int (0 : Int32))]))
      refine Go.by' (fun t k => (XS.ifYes X312.here hx rfl (pc0 := 15) (pc' := 40) rfl (hb hby d4_15) rfl ((if0 _ _).trans (teq (by decide)).1) (by decide) (by decide) (XS.iconst X312.here hx rfl (hb hby d4_40) k))) ?_
      show Go p.tables e below Pf (T312.setTop (mkF m 41 #[vr sa] [(.int (0 : Int32))]))
      rw [hPf]
      exact Go.retIS X312 hx hEL Sb311 e312 hh hret hlk (by simp) rfl (hb hby d4_41) (by decide) (by decide) ⟨(0 : Int32), rfl, N311, (by rw [e312]; exact KC311), (Or.inr ⟨fun q => q.2.1 hWl, rfl⟩)⟩
    · show Go p.tables e below Pf (s₁.setTop (mkF m 0 #[vr sa] []))
      refine Go.by' (fun t k => (XS.aloadN X0.here hx rfl (hb hby d4_0) rfl rfl k)) ?_
      obtain ⟨cq313, kq313, q313a, q313b, q313c⟩ := isOf hZ e0 EA
      obtain ⟨_, _, ⟨T313, L313, k313, n313⟩, -, X313, ⟨Lc313, hQ313, l313, y313, z313⟩, st313⟩ := X0.virtualBack hx (y := own_y20) (z := own_y20) hown (mvT hZ hw26) (mvT hZ hw27) (notFace_of_selects (args := #[]) (mvT hZ hw29)) (mvT hZ hw29) (mvT hZ hw28) (by decide) (backOf (W := 0) (rmEm_2 l Z a0 hw [] vcs wI wA cA G sa va ka ((c0.toInt8.toInt32)) ((c1.toInt8.toInt32)) h0 n0 O0 EA FA CA VA) hZ hw30 hw3 (by decide) (by decide)) q313a q313c (g := (mkF m 1 #[vr sa] [(.ref sa)])) rfl (by rw [hml]; rfl) (Steps.refl _) (argsL := []) (rest := []) (lenOf pd_8 rfl) rfl (Nat.le_of_eq rfl) (hb hby d4_1) (fun _ _ => ⟨rfl, e0, (by decide : 0 + 0 ≤ _), (by decide : 0 + 0 ≤ _)⟩)
      dsimp only [Pt.U, Pt.locs, Pt.cells, Pt.slots] at X313 l313 y313 z313 st313 hQ313
      subst l313 y313 z313
      obtain ⟨rfl, rfl, e313⟩ := hQ313
      try replace X313 := own_nil X313
      refine Go.by' (fun t k => st313.trans k) ?_
      show Go p.tables e below Pf (T313.setTop (mkF m 4 #[vr sa] [(.int (0 : Int32))]))
      refine Go.by' (fun t k => (XS.ifNo X313.here hx rfl (hb hby d4_4) rfl ((if0 _ _).trans (teq (by decide)).2) (XS.aloadN X313.here hx rfl (hb hby d4_7) rfl rfl k))) ?_
      obtain ⟨cq314, kq314, q314a, q314b, q314c⟩ := isOf hZ e313 EA
      obtain ⟨_, _, ⟨T314, L314, k314, n314⟩, -, X314, ⟨Lc314, hQ314, l314, y314, z314⟩, st314⟩ := X313.virtualBack hx (y := own_y14) (z := own_y14) hown (mvT hZ hw46) (mvT hZ hw47) (notFace_of_selects (args := #[]) (mvT hZ hw49)) (mvT hZ hw49) (mvT hZ hw48) (by decide) (backOf (W := 0) (rmSTN_2 l Z a0 hw [] vcs wI wA cA G sa va ka ((c0.toInt8.toInt32)) ((c1.toInt8.toInt32)) h0 n0 O0 EA FA CA VA (by rw [u0]; exact hW0) (by rw [u1]; exact hWl)) hZ hw50 hw3 (by decide) (by decide)) q314a q314c (g := (mkF m 8 #[vr sa] [(.ref sa)])) rfl (by rw [hml]; rfl) (Steps.refl _) (argsL := []) (rest := []) (lenOf pd_15 rfl) rfl (Nat.le_of_eq rfl) (hb hby d4_8) (fun _ _ => ⟨rfl, e313, (by decide : 0 + 0 ≤ _), (by decide : 0 + 0 ≤ _)⟩)
      dsimp only [Pt.U, Pt.locs, Pt.cells, Pt.slots] at X314 l314 y314 z314 st314 hQ314
      subst l314 y314 z314
      obtain ⟨rfl, rfl, e314⟩ := hQ314
      try replace X314 := own_nil X314
      refine Go.by' (fun t k => st314.trans k) ?_
      show Go p.tables e below Pf (T314.setTop (mkF m 11 #[vr sa] [(.ref sa)]))
      refine Go.by' (fun t k => (XS.aloadN X314.here hx rfl (hb hby d4_11) rfl rfl k)) ?_
      obtain ⟨cq315, kq315, q315a, q315b, q315c⟩ := isOf hZ e314 EA
      obtain ⟨_, _, ⟨T315, L315, k315, n315⟩, -, X315, ⟨Lc315, hQ315, l315, y315, z315⟩, st315⟩ := X314.virtualBack hx (y := own_y15) (z := own_y15) hown (mvT hZ hw82) (mvT hZ hw83) (notFace_of_selects (args := #[]) (mvT hZ hw85)) (mvT hZ hw85) (mvT hZ hw84) (by decide) (backOf (W := 0) (rmEI l Z a0 hw [] vcs wI wA cA G sa h0 n0 O0 ) hZ hw86 hw3 (by decide) (by decide)) q315a q315c (g := (mkF m 12 #[vr sa] [(.ref sa), (.ref sa)])) rfl (by rw [hml]; rfl) (Steps.refl _) (argsL := [(.ref sa)]) (rest := []) (lenOf pd_19 rfl) rfl (Nat.le_of_eq rfl) (hb hby d4_12) (fun _ _ => ⟨rfl, e314, (by decide : 0 + 0 ≤ _), (by decide : 0 + 0 ≤ _)⟩)
      dsimp only [Pt.U, Pt.locs, Pt.cells, Pt.slots] at X315 l315 y315 z315 st315 hQ315
      subst l315 y315 z315
      obtain ⟨rfl, rfl, e315⟩ := hQ315
      try replace X315 := own_nil X315
      refine Go.by' (fun t k => st315.trans k) ?_
      show Go p.tables e below Pf (T315.setTop (mkF m 15 #[vr sa] [(.int (1 : Int32))]))
      refine Go.by' (fun t k => (XS.ifNo X315.here hx rfl (hb hby d4_15) rfl ((if0 _ _).trans (feq (by decide)).1) (XS.aloadN X315.here hx rfl (hb hby d4_18) rfl rfl k))) ?_
      obtain ⟨T316, h316, a316, bb316, kb316, X316, e316, E316, Sb316, A316, Ex316, Fc316, Fv316, Vb316, Ne316, st316⟩ := own_ldc X315 hx Sb0 hw87 hSA e315 hEL (List.mem_of_getElem? (i := 0) rfl) (vs := [(.int (44 : Int32))]) (z := (1 : Int32)) (by decide +kernel) (by decide) rfl (g := (mkF m 19 #[vr sa] [(.ref sa)])) rfl (hb hby d4_19) (n := 4) (by decide +kernel) (by decide) (by decide) (by decide)
      refine Go.by' st316 ?_
      have O316 := O0.ext E316
      have KC316 : Keep h0 h316 [] := KC0.ext E316
      have hZ316 := Sb316.hZ
      have hO316 := Sb316.hO
      obtain ⟨cq317, kq317, q317a, q317b, q317c⟩ := isOf hZ316 e316 (EA.ext E316)
      obtain ⟨_, _, ⟨T317, L317, k317, n317⟩, -, X317, ⟨Lc317, hQ317, l317, y317, z317⟩, st317⟩ := X316.virtualBack hx (y := own_y25) (z := own_y25) hO316 (mvT hZ316 hw88) (mvT hZ316 hw89) (notFace_of_selects (args := #[]) (mvT hZ316 hw91)) (mvT hZ316 hw91) (mvT hZ316 hw90) (by decide) (backOf (W := 0) (rmCn_2 l Z a0 hw [] vcs wI wA cA G sa a316 va bb316 ka kb316 ((c0.toInt8.toInt32)) ((c1.toInt8.toInt32)) h316 n0 O316 (EA.ext E316) (FA.ext E316) (CA.ext E316) (VA.ext E316) Ex316 Fv316 Fc316 Vb316) hZ316 hw92 hw3 (by decide) (by decide)) q317a q317c (g := (mkF m 21 #[vr sa] [(.ref a316), (.ref sa)])) rfl (by rw [hml]; rfl) (Steps.refl _) (argsL := [(.ref a316)]) (rest := []) (lenOf pd_20 rfl) rfl (Nat.le_of_eq rfl) (hb hby d4_21) (fun _ _ => ⟨rfl, e316, (by decide : 2 + 0 ≤ _), (by decide : 8 + 0 ≤ _)⟩)
      dsimp only [Pt.U, Pt.locs, Pt.cells, Pt.slots] at X317 l317 y317 z317 st317 hQ317
      subst l317 y317 z317
      obtain ⟨r_317, rfl, rfl, e317, r317_0⟩ := hQ317
      try replace X317 := own_nil X317
      refine Go.by' (fun t k => st317.trans k) ?_
      rcases r317_0 with ⟨hE317, hz317⟩ | ⟨hE317, hz317⟩
      · subst hz317
        rw [b0, b1] at hE317
        show Go p.tables e below Pf (T317.setTop (mkF m 24 #[vr sa] [(.int (1 : Int32))]))
        refine Go.by' (fun t k => (XS.ifYes X317.here hx rfl (pc0 := 24) (pc' := 40) rfl (hb hby d4_24) rfl ((if0 _ _).trans (feq (by decide)).2) (by decide) (by decide) (XS.iconst X317.here hx rfl (hb hby d4_40) k))) ?_
        show Go p.tables e below Pf (T317.setTop (mkF m 41 #[vr sa] [(.int (0 : Int32))]))
        rw [hPf]
        exact Go.retIS X317 hx hEL Sb316 e317 hh hret hlk (by simp) rfl (hb hby d4_41) (by decide) (by decide) ⟨(0 : Int32), rfl, N0, (by rw [e317]; exact KC316), (Or.inr ⟨fun q => q.2.2.1 hE317, rfl⟩)⟩
      · subst hz317
        rw [b0, b1] at hE317
        show Go p.tables e below Pf (T317.setTop (mkF m 24 #[vr sa] [(.int (0 : Int32))]))
        refine Go.by' (fun t k => (XS.ifNo X317.here hx rfl (hb hby d4_24) rfl ((if0 _ _).trans (teq (by decide)).2) (XS.aloadN X317.here hx rfl (hb hby d4_27) rfl rfl k))) ?_
        obtain ⟨T318, h318, a318, bb318, kb318, X318, e318, E318, Sb318, A318, Ex318, Fc318, Fv318, Vb318, Ne318, st318⟩ := own_ldc X317 hx Sb316 hw118 hSA e317 hEL (List.mem_of_getElem? (i := 1) rfl) (vs := [(.int (33 : Int32))]) (z := (1 : Int32)) (by decide +kernel) (by decide) rfl (g := (mkF m 28 #[vr sa] [(.ref sa)])) rfl (hb hby d4_28) (n := 4) (by decide +kernel) (by decide) (by decide) (by decide)
        refine Go.by' st318 ?_
        have O318 := O316.ext E318
        have KC318 : Keep h0 h318 [] := KC316.ext E318
        have hZ318 := Sb318.hZ
        have hO318 := Sb318.hO
        have c320 := ((VA.ext E316).ext E318)
        have c321 := ((EA.ext E316).ext E318)
        have c322 := ((FA.ext E316).ext E318)
        have c323 := ((CA.ext E316).ext E318)
        obtain ⟨cq319, kq319, q319a, q319b, q319c⟩ := isOf hZ318 e318 c321
        obtain ⟨_, _, ⟨T319, L319, k319, n319⟩, -, X319, ⟨Lc319, hQ319, l319, y319, z319⟩, st319⟩ := X318.virtualBack hx (y := own_y28) (z := own_y28) hO318 (mvT hZ318 hw119) (mvT hZ318 hw120) (notFace_of_selects (args := #[]) (mvT hZ318 hw122)) (mvT hZ318 hw122) (mvT hZ318 hw121) (by decide) (backOf (W := 0) (rmS1_2w l Z a0 hw [] vcs wI wA cA G sa a318 va bb318 ka kb318 ((c0.toInt8.toInt32)) ((c1.toInt8.toInt32)) h318 n0 O318 c321 c322 c323 c320 Ex318 Fv318 Fc318 Vb318) hZ318 hw123 hw3 (by decide) (by decide)) q319a q319c (g := (mkF m 30 #[vr sa] [(.ref a318), (.ref sa)])) rfl (by rw [hml]; rfl) (Steps.refl _) (argsL := [(.ref a318)]) (rest := []) (lenOf pd_21 rfl) rfl (Nat.le_of_eq rfl) (hb hby d4_30) (fun _ _ => ⟨rfl, e318, (by decide : 4 + 0 ≤ _), (by decide : 16 + 0 ≤ _)⟩)
        dsimp only [Pt.U, Pt.locs, Pt.cells, Pt.slots] at X319 l319 y319 z319 st319 hQ319
        subst l319 y319 z319
        obtain ⟨r_319, rfl, rfl, e319, r319_0⟩ := hQ319
        try replace X319 := own_nil X319
        refine Go.by' (fun t k => st319.trans k) ?_
        rcases r319_0 with ⟨hE319, hz319⟩ | ⟨hE319, hz319⟩
        · subst hz319
          rw [b33] at hE319
          show Go p.tables e below Pf (T319.setTop (mkF m 33 #[vr sa] [(.int (1 : Int32))]))
          refine Go.by' (fun t k => (XS.ifYes X319.here hx rfl (pc0 := 33) (pc' := 40) rfl (hb hby d4_33) rfl ((if0 _ _).trans (feq (by decide)).2) (by decide) (by decide) (XS.iconst X319.here hx rfl (hb hby d4_40) k))) ?_
          show Go p.tables e below Pf (T319.setTop (mkF m 41 #[vr sa] [(.int (0 : Int32))]))
          rw [hPf]
          exact Go.retIS X319 hx hEL Sb318 e319 hh hret hlk (by simp) rfl (hb hby d4_41) (by decide) (by decide) ⟨(0 : Int32), rfl, N0, (by rw [e319]; exact KC318), (Or.inr ⟨fun q => q.2.2.2 hE319, rfl⟩)⟩
        · subst hz319
          rw [b33] at hE319
          show Go p.tables e below Pf (T319.setTop (mkF m 33 #[vr sa] [(.int (0 : Int32))]))
          refine Go.by' (fun t k => (XS.ifNo X319.here hx rfl (hb hby d4_33) rfl ((if0 _ _).trans (teq (by decide)).2) (XS.iconst X319.here hx rfl (hb hby d4_36) (XS.goto X319.here hx rfl (pc0 := 37) (pc' := 41) rfl (hb hby d4_37) (by decide) (by decide) k)))) ?_
          show Go p.tables e below Pf (T319.setTop (mkF m 41 #[vr sa] [(.int (1 : Int32))]))
          rw [hPf]
          exact Go.retIS X319 hx hEL Sb318 e319 hh hret hlk (by simp) rfl (hb hby d4_41) (by decide) (by decide) ⟨(1 : Int32), rfl, N0, (by rw [e319]; exact KC318), (Or.inl ⟨⟨hW0, hWl, hE317, hE319⟩, rfl⟩)⟩
theorem ef_rmN_3 (m : MethodId) {sa : Addr} : entryFrame m #[(.ref sa)] 1 = mkF m 0 #[vr sa] [] := by first | (simp [entryFrame, mkF, argsToLocals, Value.category]; done) | rfl
def QrmN_3 (Z : State) (vcs : Int32) (wI : Addr) (wA : Addr) (cA : Cell) (sa : Addr) (va : Addr) (ka : ClassId) (c0 : Int32) (c1 : Int32) (c2 : Int32) (h0 : Heap) (n0 : Nat) (v : Option Value) (h : Heap) (vm : Vm) (L : List Loc) : Prop := ∃ (r : Int32), (v = some (.int r)) ∧ (Fr n0 L) ∧ (Keep h0 h []) ∧ (((¬ Ws c0 ∧ ¬ Ws c2 ∧ ¬ (c0 = (44 : Int32) ∨ c1 = (44 : Int32) ∨ c2 = (44 : Int32)) ∧ ¬ (c0 = (33 : Int32))) ∧ r = (1 : Int32)) ∨ (¬ (¬ Ws c0 ∧ ¬ Ws c2 ∧ ¬ (c0 = (44 : Int32) ∨ c1 = (44 : Int32) ∨ c2 = (44 : Int32)) ∧ ¬ (c0 = (33 : Int32))) ∧ r = (0 : Int32)))
theorem rmN_3 (l : Launch) (Z : State) (a0 : Array Value) (hw : ∀ d ∈ tables_1, d.before a0 Z = true) (ws : List Jvm.Cond) (vcs : Int32) (wI : Addr) (wA : Addr) (cA : Cell) (G : Gh Z vcs wI wA cA) (sa : Addr) (va : Addr) (ka : ClassId) (c0 : Int32) (c1 : Int32) (c2 : Int32) (h0 : Heap) (n0 : Nat) (O0 : Old Z n0 h0) (EA : Exa Z h0 sa "java/lang/String") (FA : Fld Z h0 sa "java/lang/String" "value" "[B" (.ref va)) (CA : Fld Z h0 sa "java/lang/String" "coder" "B" (.int (0 : Int32))) (VA : Arv Z h0 va ka .byte (3 : Int32) [(.int (c0.toInt8.toInt32)), (.int (c1.toInt8.toInt32)), (.int (c2.toInt8.toInt32))] (.int (0 : Int32))) (hl0 : ¬ (c0 < (0 : Int32))) (hb0 : ¬ ((255 : Int32) < c0)) (hl1 : ¬ (c1 < (0 : Int32))) (hb1 : ¬ ((255 : Int32) < c1)) (hl2 : ¬ (c2 < (0 : Int32))) (hb2 : ¬ ((255 : Int32) < c2)) :
    MetFree l own_y29 (head1 (Jvm.Cond.code own_y29 prog_19_method_4_code 1 (some .boolean) :: ws) ({ frames := 6, cells := 4, slots := 16, locals := 114 } : Room)) (fun aa' UU' => aa' = #[(.ref sa)] ∧ Z.Warmed39 UU'.vm ∧ UU'.heap = h0 ∧ CHv Z consts_1 UU'.vm h0 ∧ ∀ x ∈ ([] : List Addr), Safe Z consts_1 UU'.vm h0 x) (fun _ _ _ _ _ => True) (fun _ UU' oo' VV' => ∃ v' L', oo' = .returned v' ∧ QrmN_3 Z vcs wI wA cA sa va ka c0 c1 c2 h0 n0 v' VV'.heap VV'.vm L' ∧ CHr Z consts_1 UU'.vm UU'.heap VV'.vm VV'.heap ∧ ReturnedEndW UU' oo' VV' L' ({ frames := 6, cells := 4, slots := 16, locals := 114 } : Room).cells ({ frames := 6, cells := 4, slots := 16, locals := 114 } : Room).slots) := by
  refine MetFree.of_bodySF (plainFor_of_name pn_4) hisR ?_
  intro p e s m args below meth c s₁ Bd hml0 hP hK
  obtain ⟨rfl, hZ, hh, hCH, hSf⟩ := hP
  have hml : c.maxLocals = 1 := hml0
  obtain ⟨hx, hby, hlk, hown, hnm, hret, X0, e0⟩ := own_hd Bd hh
  replace X0 : Stand p l e ({ frames := 6, cells := 4, slots := 16, locals := 114 } : Room) (s.setVm s.vm) m _ below meth c s₁ [] 0 0 := X0
  have N0 := Fr.nil n0
  have KC0 : Keep h0 h0 [] := Keep.refl _ _
  have Sb0 := Sb.start hZ hown hCH
  have hEL := own_EW hw
  have hSA := own_SA hw
  refine Go.bodyS ?_
  obtain ⟨Pf, hPf⟩ : ∃ P, P = FinS Z consts_1 s below ({ frames := 6, cells := 4, slots := 16, locals := 114 } : Room).cells ({ frames := 6, cells := 4, slots := 16, locals := 114 } : Room).slots (QrmN_3 Z vcs wI wA cA sa va ka c0 c1 c2 h0 n0) := ⟨_, rfl⟩
  rw [← hPf]
  refine Go.cast (ef_rmN_3 m) ?_
  have hw3 := own_w hw 3 rfl
  have hw26 := own_w hw 26 rfl
  have hw27 := own_w hw 27 rfl
  have hw28 := own_w hw 28 rfl
  have hw29 := own_w hw 29 rfl
  have hw30 := own_w hw 30 rfl
  have hw46 := own_w hw 46 rfl
  have hw47 := own_w hw 47 rfl
  have hw48 := own_w hw 48 rfl
  have hw49 := own_w hw 49 rfl
  have hw50 := own_w hw 50 rfl
  have hw82 := own_w hw 82 rfl
  have hw83 := own_w hw 83 rfl
  have hw84 := own_w hw 84 rfl
  have hw85 := own_w hw 85 rfl
  have hw86 := own_w hw 86 rfl
  have hw87 := own_w hw 87 rfl
  have hw88 := own_w hw 88 rfl
  have hw89 := own_w hw 89 rfl
  have hw90 := own_w hw 90 rfl
  have hw91 := own_w hw 91 rfl
  have hw92 := own_w hw 92 rfl
  have hw118 := own_w hw 118 rfl
  have hw119 := own_w hw 119 rfl
  have hw120 := own_w hw 120 rfl
  have hw121 := own_w hw 121 rfl
  have hw122 := own_w hw 122 rfl
  have hw123 := own_w hw 123 rfl
  have u0 : ((c0.toInt8.toInt32) &&& (255 : Int32)) = c0 := own_u8 hl0 hb0
  have u2 : ((c2.toInt8.toInt32) &&& (255 : Int32)) = c2 := own_u8 hl2 hb2
  have b0 : ((c0.toInt8.toInt32) = (44 : Int32)) ↔ c0 = (44 : Int32) := own_bk hl0 hb0 (by decide) (by decide) (by decide)
  have b1 : ((c1.toInt8.toInt32) = (44 : Int32)) ↔ c1 = (44 : Int32) := own_bk hl1 hb1 (by decide) (by decide) (by decide)
  have b2 : ((c2.toInt8.toInt32) = (44 : Int32)) ↔ c2 = (44 : Int32) := own_bk hl2 hb2 (by decide) (by decide) (by decide)
  have b33 : ((c0.toInt8.toInt32) = (33 : Int32)) ↔ c0 = (33 : Int32) := own_bk hl0 hb0 (by decide) (by decide) (by decide)
  show Go p.tables e below Pf (s₁.setTop (mkF m 0 #[vr sa] []))
  by_cases hW0 : Ws c0
  · show Go p.tables e below Pf (s₁.setTop (mkF m 0 #[vr sa] []))
    refine Go.by' (fun t k => (XS.aloadN X0.here hx rfl (hb hby d4_0) rfl rfl k)) ?_
    obtain ⟨cq324, kq324, q324a, q324b, q324c⟩ := isOf hZ e0 EA
    obtain ⟨_, _, ⟨T324, L324, k324, n324⟩, -, X324, ⟨Lc324, hQ324, l324, y324, z324⟩, st324⟩ := X0.virtualBack hx (y := own_y20) (z := own_y20) hown (mvT hZ hw26) (mvT hZ hw27) (notFace_of_selects (args := #[]) (mvT hZ hw29)) (mvT hZ hw29) (mvT hZ hw28) (by decide) (backOf (W := 0) (rmEm_3 l Z a0 hw [] vcs wI wA cA G sa va ka ((c0.toInt8.toInt32)) ((c1.toInt8.toInt32)) ((c2.toInt8.toInt32)) h0 n0 O0 EA FA CA VA) hZ hw30 hw3 (by decide) (by decide)) q324a q324c (g := (mkF m 1 #[vr sa] [(.ref sa)])) rfl (by rw [hml]; rfl) (Steps.refl _) (argsL := []) (rest := []) (lenOf pd_8 rfl) rfl (Nat.le_of_eq rfl) (hb hby d4_1) (fun _ _ => ⟨rfl, e0, (by decide : 0 + 0 ≤ _), (by decide : 0 + 0 ≤ _)⟩)
    dsimp only [Pt.U, Pt.locs, Pt.cells, Pt.slots] at X324 l324 y324 z324 st324 hQ324
    subst l324 y324 z324
    obtain ⟨rfl, rfl, e324⟩ := hQ324
    try replace X324 := own_nil X324
    refine Go.by' (fun t k => st324.trans k) ?_
    show Go p.tables e below Pf (T324.setTop (mkF m 4 #[vr sa] [(.int (0 : Int32))]))
    refine Go.by' (fun t k => (XS.ifNo X324.here hx rfl (hb hby d4_4) rfl ((if0 _ _).trans (teq (by decide)).2) (XS.aloadN X324.here hx rfl (hb hby d4_7) rfl rfl k))) ?_
    obtain ⟨cq325, kq325, q325a, q325b, q325c⟩ := isOf hZ e324 EA
    obtain ⟨_, _, ⟨T325, L325, k325, n325⟩, -, X325, Si325, Gr325, ⟨Lc325, hQ325, l325, y325, z325, A325⟩, st325⟩ := X324.virtualBackS hx (y := own_y14) (z := own_y14) hown (mvT hZ hw46) (mvT hZ hw47) (notFace_of_selects (args := #[]) (mvT hZ hw49)) (mvT hZ hw49) (mvT hZ hw48) (by decide) (own_backS (W := 0) (rmSTC_3 l Z a0 hw [] vcs wI wA cA G sa va ka ((c0.toInt8.toInt32)) ((c1.toInt8.toInt32)) ((c2.toInt8.toInt32)) h0 n0 O0 EA FA CA VA (Or.inl (by rw [u0]; exact hW0))) Sb0 hw50 hw3 (by decide) (by decide) hEL all0) q325a q325c (g := (mkF m 8 #[vr sa] [(.ref sa)])) rfl (by rw [hml]; rfl) (Steps.refl _) (argsL := []) (rest := []) (lenOf pd_15 rfl) rfl (Nat.le_of_eq rfl) (hb hby d4_8) (fun _ _ => ⟨rfl, e324, (by decide : 0 + 2 ≤ _), (by decide : 0 + 7 ≤ _)⟩)
    dsimp only [Pt.U, Pt.locs, Pt.cells, Pt.slots] at X325 l325 y325 z325 st325 hQ325 Si325 Gr325 A325
    subst l325 y325 z325
    obtain ⟨r_325, rb_325, kb_325, zr_325, vsr_325, rfl, N325q, K325, f325_0, f325_1, f325_2, f325_3, r325_0⟩ := hQ325
    have N325 := Fr.app N0 N325q
    obtain ⟨lc325, X325, N325⟩ := own_pack X325 N325
    replace X325 := own_reb X325
    have Sb325 := Sb0.called Si325 (by rw [← e324]; exact Gr325) A325
    have hZ325 := Sb325.hZ
    have hO325 := Sb325.hO
    refine Go.by' (fun t k => st325.trans k) ?_
    have O325 := O0.keep K325 all0
    have KC325 : Keep h0 T325.heap [] := KC0.trans K325 all0
    show Go p.tables e below Pf (T325.setTop (mkF m 11 #[vr sa] [(.ref r_325)]))
    refine Go.by' (fun t k => (XS.aloadN X325.here hx rfl (hb hby d4_11) rfl rfl k)) ?_
    obtain ⟨cq326, kq326, q326a, q326b, q326c⟩ := isOf hZ325 rfl f325_0
    obtain ⟨_, _, ⟨T326, L326, k326, n326⟩, -, X326, ⟨Lc326, hQ326, l326, y326, z326⟩, st326⟩ := X325.virtualBack hx (y := own_y15) (z := own_y15) hO325 (mvT hZ325 hw82) (mvT hZ325 hw83) (notFace_of_selects (args := #[]) (mvT hZ325 hw85)) (mvT hZ325 hw85) (mvT hZ325 hw84) (by decide) (backOf (W := 0) (rmED l Z a0 hw [] vcs wI wA cA G r_325 sa rb_325 va kb_325 ka zr_325 ((3 : Int32)) vsr_325 ([(Value.int (c0.toInt8.toInt32)), (Value.int (c1.toInt8.toInt32)), (Value.int (c2.toInt8.toInt32))]) T325.heap n0 O325 f325_0 (EA.keep K325) f325_1 (FA.keep K325 nin0) f325_2 (CA.keep K325 nin0) (own_sne f325_1 (FA.keep K325 nin0) f325_3 (VA.keep K325 nin0) r325_0) f325_3 (VA.keep K325 nin0) r325_0) hZ325 hw86 hw3 (by decide) (by decide)) q326a q326c (g := (mkF m 12 #[vr sa] [(.ref sa), (.ref r_325)])) rfl (by rw [hml]; rfl) (Steps.refl _) (argsL := [(.ref sa)]) (rest := []) (lenOf pd_19 rfl) rfl (Nat.le_of_eq rfl) (hb hby d4_12) (fun _ _ => ⟨rfl, rfl, (by decide : 2 + 0 ≤ _), (by decide : 7 + 0 ≤ _)⟩)
    dsimp only [Pt.U, Pt.locs, Pt.cells, Pt.slots] at X326 l326 y326 z326 st326 hQ326
    subst l326 y326 z326
    obtain ⟨rfl, rfl, e326⟩ := hQ326
    try replace X326 := own_nil X326
    refine Go.by' (fun t k => st326.trans k) ?_
    show Go p.tables e below Pf (T326.setTop (mkF m 15 #[vr sa] [(.int (0 : Int32))]))
    refine Go.by' (fun t k => (XS.ifYes X326.here hx rfl (pc0 := 15) (pc' := 40) rfl (hb hby d4_15) rfl ((if0 _ _).trans (teq (by decide)).1) (by decide) (by decide) (XS.iconst X326.here hx rfl (hb hby d4_40) k))) ?_
    show Go p.tables e below Pf (T326.setTop (mkF m 41 #[vr sa] [(.int (0 : Int32))]))
    rw [hPf]
    exact Go.retIS X326 hx hEL Sb325 e326 hh hret hlk (by simp) rfl (hb hby d4_41) (by decide) (by decide) ⟨(0 : Int32), rfl, N325, (by rw [e326]; exact KC325), (Or.inr ⟨fun q => q.1 hW0, rfl⟩)⟩
  · show Go p.tables e below Pf (s₁.setTop (mkF m 0 #[vr sa] []))
    by_cases hWl : Ws c2
    · show Go p.tables e below Pf (s₁.setTop (mkF m 0 #[vr sa] []))
      refine Go.by' (fun t k => (XS.aloadN X0.here hx rfl (hb hby d4_0) rfl rfl k)) ?_
      obtain ⟨cq327, kq327, q327a, q327b, q327c⟩ := isOf hZ e0 EA
      obtain ⟨_, _, ⟨T327, L327, k327, n327⟩, -, X327, ⟨Lc327, hQ327, l327, y327, z327⟩, st327⟩ := X0.virtualBack hx (y := own_y20) (z := own_y20) hown (mvT hZ hw26) (mvT hZ hw27) (notFace_of_selects (args := #[]) (mvT hZ hw29)) (mvT hZ hw29) (mvT hZ hw28) (by decide) (backOf (W := 0) (rmEm_3 l Z a0 hw [] vcs wI wA cA G sa va ka ((c0.toInt8.toInt32)) ((c1.toInt8.toInt32)) ((c2.toInt8.toInt32)) h0 n0 O0 EA FA CA VA) hZ hw30 hw3 (by decide) (by decide)) q327a q327c (g := (mkF m 1 #[vr sa] [(.ref sa)])) rfl (by rw [hml]; rfl) (Steps.refl _) (argsL := []) (rest := []) (lenOf pd_8 rfl) rfl (Nat.le_of_eq rfl) (hb hby d4_1) (fun _ _ => ⟨rfl, e0, (by decide : 0 + 0 ≤ _), (by decide : 0 + 0 ≤ _)⟩)
      dsimp only [Pt.U, Pt.locs, Pt.cells, Pt.slots] at X327 l327 y327 z327 st327 hQ327
      subst l327 y327 z327
      obtain ⟨rfl, rfl, e327⟩ := hQ327
      try replace X327 := own_nil X327
      refine Go.by' (fun t k => st327.trans k) ?_
      show Go p.tables e below Pf (T327.setTop (mkF m 4 #[vr sa] [(.int (0 : Int32))]))
      refine Go.by' (fun t k => (XS.ifNo X327.here hx rfl (hb hby d4_4) rfl ((if0 _ _).trans (teq (by decide)).2) (XS.aloadN X327.here hx rfl (hb hby d4_7) rfl rfl k))) ?_
      obtain ⟨cq328, kq328, q328a, q328b, q328c⟩ := isOf hZ e327 EA
      obtain ⟨_, _, ⟨T328, L328, k328, n328⟩, -, X328, Si328, Gr328, ⟨Lc328, hQ328, l328, y328, z328, A328⟩, st328⟩ := X327.virtualBackS hx (y := own_y14) (z := own_y14) hown (mvT hZ hw46) (mvT hZ hw47) (notFace_of_selects (args := #[]) (mvT hZ hw49)) (mvT hZ hw49) (mvT hZ hw48) (by decide) (own_backS (W := 0) (rmSTC_3 l Z a0 hw [] vcs wI wA cA G sa va ka ((c0.toInt8.toInt32)) ((c1.toInt8.toInt32)) ((c2.toInt8.toInt32)) h0 n0 O0 EA FA CA VA (Or.inr (by rw [u2]; exact hWl))) Sb0 hw50 hw3 (by decide) (by decide) hEL all0) q328a q328c (g := (mkF m 8 #[vr sa] [(.ref sa)])) rfl (by rw [hml]; rfl) (Steps.refl _) (argsL := []) (rest := []) (lenOf pd_15 rfl) rfl (Nat.le_of_eq rfl) (hb hby d4_8) (fun _ _ => ⟨rfl, e327, (by decide : 0 + 2 ≤ _), (by decide : 0 + 7 ≤ _)⟩)
      dsimp only [Pt.U, Pt.locs, Pt.cells, Pt.slots] at X328 l328 y328 z328 st328 hQ328 Si328 Gr328 A328
      subst l328 y328 z328
      obtain ⟨r_328, rb_328, kb_328, zr_328, vsr_328, rfl, N328q, K328, f328_0, f328_1, f328_2, f328_3, r328_0⟩ := hQ328
      have N328 := Fr.app N0 N328q
      obtain ⟨lc328, X328, N328⟩ := own_pack X328 N328
      replace X328 := own_reb X328
      have Sb328 := Sb0.called Si328 (by rw [← e327]; exact Gr328) A328
      have hZ328 := Sb328.hZ
      have hO328 := Sb328.hO
      refine Go.by' (fun t k => st328.trans k) ?_
      have O328 := O0.keep K328 all0
      have KC328 : Keep h0 T328.heap [] := KC0.trans K328 all0
      show Go p.tables e below Pf (T328.setTop (mkF m 11 #[vr sa] [(.ref r_328)]))
      refine Go.by' (fun t k => (XS.aloadN X328.here hx rfl (hb hby d4_11) rfl rfl k)) ?_
      obtain ⟨cq329, kq329, q329a, q329b, q329c⟩ := isOf hZ328 rfl f328_0
      obtain ⟨_, _, ⟨T329, L329, k329, n329⟩, -, X329, ⟨Lc329, hQ329, l329, y329, z329⟩, st329⟩ := X328.virtualBack hx (y := own_y15) (z := own_y15) hO328 (mvT hZ328 hw82) (mvT hZ328 hw83) (notFace_of_selects (args := #[]) (mvT hZ328 hw85)) (mvT hZ328 hw85) (mvT hZ328 hw84) (by decide) (backOf (W := 0) (rmED l Z a0 hw [] vcs wI wA cA G r_328 sa rb_328 va kb_328 ka zr_328 ((3 : Int32)) vsr_328 ([(Value.int (c0.toInt8.toInt32)), (Value.int (c1.toInt8.toInt32)), (Value.int (c2.toInt8.toInt32))]) T328.heap n0 O328 f328_0 (EA.keep K328) f328_1 (FA.keep K328 nin0) f328_2 (CA.keep K328 nin0) (own_sne f328_1 (FA.keep K328 nin0) f328_3 (VA.keep K328 nin0) r328_0) f328_3 (VA.keep K328 nin0) r328_0) hZ328 hw86 hw3 (by decide) (by decide)) q329a q329c (g := (mkF m 12 #[vr sa] [(.ref sa), (.ref r_328)])) rfl (by rw [hml]; rfl) (Steps.refl _) (argsL := [(.ref sa)]) (rest := []) (lenOf pd_19 rfl) rfl (Nat.le_of_eq rfl) (hb hby d4_12) (fun _ _ => ⟨rfl, rfl, (by decide : 2 + 0 ≤ _), (by decide : 7 + 0 ≤ _)⟩)
      dsimp only [Pt.U, Pt.locs, Pt.cells, Pt.slots] at X329 l329 y329 z329 st329 hQ329
      subst l329 y329 z329
      obtain ⟨rfl, rfl, e329⟩ := hQ329
      try replace X329 := own_nil X329
      refine Go.by' (fun t k => st329.trans k) ?_
      show Go p.tables e below Pf (T329.setTop (mkF m 15 #[vr sa] [(.int (0 : Int32))]))
      refine Go.by' (fun t k => (XS.ifYes X329.here hx rfl (pc0 := 15) (pc' := 40) rfl (hb hby d4_15) rfl ((if0 _ _).trans (teq (by decide)).1) (by decide) (by decide) (XS.iconst X329.here hx rfl (hb hby d4_40) k))) ?_
      show Go p.tables e below Pf (T329.setTop (mkF m 41 #[vr sa] [(.int (0 : Int32))]))
      rw [hPf]
      exact Go.retIS X329 hx hEL Sb328 e329 hh hret hlk (by simp) rfl (hb hby d4_41) (by decide) (by decide) ⟨(0 : Int32), rfl, N328, (by rw [e329]; exact KC328), (Or.inr ⟨fun q => q.2.1 hWl, rfl⟩)⟩
    · show Go p.tables e below Pf (s₁.setTop (mkF m 0 #[vr sa] []))
      refine Go.by' (fun t k => (XS.aloadN X0.here hx rfl (hb hby d4_0) rfl rfl k)) ?_
      obtain ⟨cq330, kq330, q330a, q330b, q330c⟩ := isOf hZ e0 EA
      obtain ⟨_, _, ⟨T330, L330, k330, n330⟩, -, X330, ⟨Lc330, hQ330, l330, y330, z330⟩, st330⟩ := X0.virtualBack hx (y := own_y20) (z := own_y20) hown (mvT hZ hw26) (mvT hZ hw27) (notFace_of_selects (args := #[]) (mvT hZ hw29)) (mvT hZ hw29) (mvT hZ hw28) (by decide) (backOf (W := 0) (rmEm_3 l Z a0 hw [] vcs wI wA cA G sa va ka ((c0.toInt8.toInt32)) ((c1.toInt8.toInt32)) ((c2.toInt8.toInt32)) h0 n0 O0 EA FA CA VA) hZ hw30 hw3 (by decide) (by decide)) q330a q330c (g := (mkF m 1 #[vr sa] [(.ref sa)])) rfl (by rw [hml]; rfl) (Steps.refl _) (argsL := []) (rest := []) (lenOf pd_8 rfl) rfl (Nat.le_of_eq rfl) (hb hby d4_1) (fun _ _ => ⟨rfl, e0, (by decide : 0 + 0 ≤ _), (by decide : 0 + 0 ≤ _)⟩)
      dsimp only [Pt.U, Pt.locs, Pt.cells, Pt.slots] at X330 l330 y330 z330 st330 hQ330
      subst l330 y330 z330
      obtain ⟨rfl, rfl, e330⟩ := hQ330
      try replace X330 := own_nil X330
      refine Go.by' (fun t k => st330.trans k) ?_
      show Go p.tables e below Pf (T330.setTop (mkF m 4 #[vr sa] [(.int (0 : Int32))]))
      refine Go.by' (fun t k => (XS.ifNo X330.here hx rfl (hb hby d4_4) rfl ((if0 _ _).trans (teq (by decide)).2) (XS.aloadN X330.here hx rfl (hb hby d4_7) rfl rfl k))) ?_
      obtain ⟨cq331, kq331, q331a, q331b, q331c⟩ := isOf hZ e330 EA
      obtain ⟨_, _, ⟨T331, L331, k331, n331⟩, -, X331, ⟨Lc331, hQ331, l331, y331, z331⟩, st331⟩ := X330.virtualBack hx (y := own_y14) (z := own_y14) hown (mvT hZ hw46) (mvT hZ hw47) (notFace_of_selects (args := #[]) (mvT hZ hw49)) (mvT hZ hw49) (mvT hZ hw48) (by decide) (backOf (W := 0) (rmSTN_3 l Z a0 hw [] vcs wI wA cA G sa va ka ((c0.toInt8.toInt32)) ((c1.toInt8.toInt32)) ((c2.toInt8.toInt32)) h0 n0 O0 EA FA CA VA (by rw [u0]; exact hW0) (by rw [u2]; exact hWl)) hZ hw50 hw3 (by decide) (by decide)) q331a q331c (g := (mkF m 8 #[vr sa] [(.ref sa)])) rfl (by rw [hml]; rfl) (Steps.refl _) (argsL := []) (rest := []) (lenOf pd_15 rfl) rfl (Nat.le_of_eq rfl) (hb hby d4_8) (fun _ _ => ⟨rfl, e330, (by decide : 0 + 0 ≤ _), (by decide : 0 + 0 ≤ _)⟩)
      dsimp only [Pt.U, Pt.locs, Pt.cells, Pt.slots] at X331 l331 y331 z331 st331 hQ331
      subst l331 y331 z331
      obtain ⟨rfl, rfl, e331⟩ := hQ331
      try replace X331 := own_nil X331
      refine Go.by' (fun t k => st331.trans k) ?_
      show Go p.tables e below Pf (T331.setTop (mkF m 11 #[vr sa] [(.ref sa)]))
      refine Go.by' (fun t k => (XS.aloadN X331.here hx rfl (hb hby d4_11) rfl rfl k)) ?_
      obtain ⟨cq332, kq332, q332a, q332b, q332c⟩ := isOf hZ e331 EA
      obtain ⟨_, _, ⟨T332, L332, k332, n332⟩, -, X332, ⟨Lc332, hQ332, l332, y332, z332⟩, st332⟩ := X331.virtualBack hx (y := own_y15) (z := own_y15) hown (mvT hZ hw82) (mvT hZ hw83) (notFace_of_selects (args := #[]) (mvT hZ hw85)) (mvT hZ hw85) (mvT hZ hw84) (by decide) (backOf (W := 0) (rmEI l Z a0 hw [] vcs wI wA cA G sa h0 n0 O0 ) hZ hw86 hw3 (by decide) (by decide)) q332a q332c (g := (mkF m 12 #[vr sa] [(.ref sa), (.ref sa)])) rfl (by rw [hml]; rfl) (Steps.refl _) (argsL := [(.ref sa)]) (rest := []) (lenOf pd_19 rfl) rfl (Nat.le_of_eq rfl) (hb hby d4_12) (fun _ _ => ⟨rfl, e331, (by decide : 0 + 0 ≤ _), (by decide : 0 + 0 ≤ _)⟩)
      dsimp only [Pt.U, Pt.locs, Pt.cells, Pt.slots] at X332 l332 y332 z332 st332 hQ332
      subst l332 y332 z332
      obtain ⟨rfl, rfl, e332⟩ := hQ332
      try replace X332 := own_nil X332
      refine Go.by' (fun t k => st332.trans k) ?_
      show Go p.tables e below Pf (T332.setTop (mkF m 15 #[vr sa] [(.int (1 : Int32))]))
      refine Go.by' (fun t k => (XS.ifNo X332.here hx rfl (hb hby d4_15) rfl ((if0 _ _).trans (feq (by decide)).1) (XS.aloadN X332.here hx rfl (hb hby d4_18) rfl rfl k))) ?_
      obtain ⟨T333, h333, a333, bb333, kb333, X333, e333, E333, Sb333, A333, Ex333, Fc333, Fv333, Vb333, Ne333, st333⟩ := own_ldc X332 hx Sb0 hw87 hSA e332 hEL (List.mem_of_getElem? (i := 0) rfl) (vs := [(.int (44 : Int32))]) (z := (1 : Int32)) (by decide +kernel) (by decide) rfl (g := (mkF m 19 #[vr sa] [(.ref sa)])) rfl (hb hby d4_19) (n := 4) (by decide +kernel) (by decide) (by decide) (by decide)
      refine Go.by' st333 ?_
      have O333 := O0.ext E333
      have KC333 : Keep h0 h333 [] := KC0.ext E333
      have hZ333 := Sb333.hZ
      have hO333 := Sb333.hO
      obtain ⟨cq334, kq334, q334a, q334b, q334c⟩ := isOf hZ333 e333 (EA.ext E333)
      obtain ⟨_, _, ⟨T334, L334, k334, n334⟩, -, X334, ⟨Lc334, hQ334, l334, y334, z334⟩, st334⟩ := X333.virtualBack hx (y := own_y25) (z := own_y25) hO333 (mvT hZ333 hw88) (mvT hZ333 hw89) (notFace_of_selects (args := #[]) (mvT hZ333 hw91)) (mvT hZ333 hw91) (mvT hZ333 hw90) (by decide) (backOf (W := 0) (rmCn_3 l Z a0 hw [] vcs wI wA cA G sa a333 va bb333 ka kb333 ((c0.toInt8.toInt32)) ((c1.toInt8.toInt32)) ((c2.toInt8.toInt32)) h333 n0 O333 (EA.ext E333) (FA.ext E333) (CA.ext E333) (VA.ext E333) Ex333 Fv333 Fc333 Vb333) hZ333 hw92 hw3 (by decide) (by decide)) q334a q334c (g := (mkF m 21 #[vr sa] [(.ref a333), (.ref sa)])) rfl (by rw [hml]; rfl) (Steps.refl _) (argsL := [(.ref a333)]) (rest := []) (lenOf pd_20 rfl) rfl (Nat.le_of_eq rfl) (hb hby d4_21) (fun _ _ => ⟨rfl, e333, (by decide : 2 + 0 ≤ _), (by decide : 8 + 0 ≤ _)⟩)
      dsimp only [Pt.U, Pt.locs, Pt.cells, Pt.slots] at X334 l334 y334 z334 st334 hQ334
      subst l334 y334 z334
      obtain ⟨r_334, rfl, rfl, e334, r334_0⟩ := hQ334
      try replace X334 := own_nil X334
      refine Go.by' (fun t k => st334.trans k) ?_
      rcases r334_0 with ⟨hE334, hz334⟩ | ⟨hE334, hz334⟩
      · subst hz334
        rw [b0, b1, b2] at hE334
        show Go p.tables e below Pf (T334.setTop (mkF m 24 #[vr sa] [(.int (1 : Int32))]))
        refine Go.by' (fun t k => (XS.ifYes X334.here hx rfl (pc0 := 24) (pc' := 40) rfl (hb hby d4_24) rfl ((if0 _ _).trans (feq (by decide)).2) (by decide) (by decide) (XS.iconst X334.here hx rfl (hb hby d4_40) k))) ?_
        show Go p.tables e below Pf (T334.setTop (mkF m 41 #[vr sa] [(.int (0 : Int32))]))
        rw [hPf]
        exact Go.retIS X334 hx hEL Sb333 e334 hh hret hlk (by simp) rfl (hb hby d4_41) (by decide) (by decide) ⟨(0 : Int32), rfl, N0, (by rw [e334]; exact KC333), (Or.inr ⟨fun q => q.2.2.1 hE334, rfl⟩)⟩
      · subst hz334
        rw [b0, b1, b2] at hE334
        show Go p.tables e below Pf (T334.setTop (mkF m 24 #[vr sa] [(.int (0 : Int32))]))
        refine Go.by' (fun t k => (XS.ifNo X334.here hx rfl (hb hby d4_24) rfl ((if0 _ _).trans (teq (by decide)).2) (XS.aloadN X334.here hx rfl (hb hby d4_27) rfl rfl k))) ?_
        obtain ⟨T335, h335, a335, bb335, kb335, X335, e335, E335, Sb335, A335, Ex335, Fc335, Fv335, Vb335, Ne335, st335⟩ := own_ldc X334 hx Sb333 hw118 hSA e334 hEL (List.mem_of_getElem? (i := 1) rfl) (vs := [(.int (33 : Int32))]) (z := (1 : Int32)) (by decide +kernel) (by decide) rfl (g := (mkF m 28 #[vr sa] [(.ref sa)])) rfl (hb hby d4_28) (n := 4) (by decide +kernel) (by decide) (by decide) (by decide)
        refine Go.by' st335 ?_
        have O335 := O333.ext E335
        have KC335 : Keep h0 h335 [] := KC333.ext E335
        have hZ335 := Sb335.hZ
        have hO335 := Sb335.hO
        have c337 := ((VA.ext E333).ext E335)
        have c338 := ((EA.ext E333).ext E335)
        have c339 := ((FA.ext E333).ext E335)
        have c340 := ((CA.ext E333).ext E335)
        obtain ⟨cq336, kq336, q336a, q336b, q336c⟩ := isOf hZ335 e335 c338
        obtain ⟨_, _, ⟨T336, L336, k336, n336⟩, -, X336, ⟨Lc336, hQ336, l336, y336, z336⟩, st336⟩ := X335.virtualBack hx (y := own_y28) (z := own_y28) hO335 (mvT hZ335 hw119) (mvT hZ335 hw120) (notFace_of_selects (args := #[]) (mvT hZ335 hw122)) (mvT hZ335 hw122) (mvT hZ335 hw121) (by decide) (backOf (W := 0) (rmS1_3w l Z a0 hw [] vcs wI wA cA G sa a335 va bb335 ka kb335 ((c0.toInt8.toInt32)) ((c1.toInt8.toInt32)) ((c2.toInt8.toInt32)) h335 n0 O335 c338 c339 c340 c337 Ex335 Fv335 Fc335 Vb335) hZ335 hw123 hw3 (by decide) (by decide)) q336a q336c (g := (mkF m 30 #[vr sa] [(.ref a335), (.ref sa)])) rfl (by rw [hml]; rfl) (Steps.refl _) (argsL := [(.ref a335)]) (rest := []) (lenOf pd_21 rfl) rfl (Nat.le_of_eq rfl) (hb hby d4_30) (fun _ _ => ⟨rfl, e335, (by decide : 4 + 0 ≤ _), (by decide : 16 + 0 ≤ _)⟩)
        dsimp only [Pt.U, Pt.locs, Pt.cells, Pt.slots] at X336 l336 y336 z336 st336 hQ336
        subst l336 y336 z336
        obtain ⟨r_336, rfl, rfl, e336, r336_0⟩ := hQ336
        try replace X336 := own_nil X336
        refine Go.by' (fun t k => st336.trans k) ?_
        rcases r336_0 with ⟨hE336, hz336⟩ | ⟨hE336, hz336⟩
        · subst hz336
          rw [b33] at hE336
          show Go p.tables e below Pf (T336.setTop (mkF m 33 #[vr sa] [(.int (1 : Int32))]))
          refine Go.by' (fun t k => (XS.ifYes X336.here hx rfl (pc0 := 33) (pc' := 40) rfl (hb hby d4_33) rfl ((if0 _ _).trans (feq (by decide)).2) (by decide) (by decide) (XS.iconst X336.here hx rfl (hb hby d4_40) k))) ?_
          show Go p.tables e below Pf (T336.setTop (mkF m 41 #[vr sa] [(.int (0 : Int32))]))
          rw [hPf]
          exact Go.retIS X336 hx hEL Sb335 e336 hh hret hlk (by simp) rfl (hb hby d4_41) (by decide) (by decide) ⟨(0 : Int32), rfl, N0, (by rw [e336]; exact KC335), (Or.inr ⟨fun q => q.2.2.2 hE336, rfl⟩)⟩
        · subst hz336
          rw [b33] at hE336
          show Go p.tables e below Pf (T336.setTop (mkF m 33 #[vr sa] [(.int (0 : Int32))]))
          refine Go.by' (fun t k => (XS.ifNo X336.here hx rfl (hb hby d4_33) rfl ((if0 _ _).trans (teq (by decide)).2) (XS.iconst X336.here hx rfl (hb hby d4_36) (XS.goto X336.here hx rfl (pc0 := 37) (pc' := 41) rfl (hb hby d4_37) (by decide) (by decide) k)))) ?_
          show Go p.tables e below Pf (T336.setTop (mkF m 41 #[vr sa] [(.int (1 : Int32))]))
          rw [hPf]
          exact Go.retIS X336 hx hEL Sb335 e336 hh hret hlk (by simp) rfl (hb hby d4_41) (by decide) (by decide) ⟨(1 : Int32), rfl, N0, (by rw [e336]; exact KC335), (Or.inl ⟨⟨hW0, hWl, hE334, hE336⟩, rfl⟩)⟩
theorem d7_0 : decode jdk_52_method_21_code 0 = .ok (.iconst 0, 1) := by decide +kernel
theorem d7_1 : decode jdk_52_method_21_code 1 = .ok (.istore 5, 2) := by decide +kernel
theorem d7_3 : decode jdk_52_method_21_code 3 = .ok (.iload 5, 2) := by decide +kernel
theorem d7_5 : decode jdk_52_method_21_code 5 = .ok (.iload 4, 2) := by decide +kernel
theorem d7_7 : decode jdk_52_method_21_code 7 = .ok (.if_icmp .ge 37, 3) := by decide +kernel
theorem d7_10 : decode jdk_52_method_21_code 10 = .ok (.aload_n 0, 1) := by decide +kernel
theorem d7_11 : decode jdk_52_method_21_code 11 = .ok (.iload_n 1, 1) := by decide +kernel
theorem d7_12 : decode jdk_52_method_21_code 12 = .ok (.caload, 1) := by decide +kernel
theorem d7_13 : decode jdk_52_method_21_code 13 = .ok (.istore 6, 2) := by decide +kernel
theorem d7_15 : decode jdk_52_method_21_code 15 = .ok (.iload 6, 2) := by decide +kernel
theorem d7_17 : decode jdk_52_method_21_code 17 = .ok (.sipush 255, 3) := by decide +kernel
theorem d7_20 : decode jdk_52_method_21_code 20 = .ok (.if_icmp .le 6, 3) := by decide +kernel
theorem d7_26 : decode jdk_52_method_21_code 26 = .ok (.aload_n 2, 1) := by decide +kernel
theorem d7_27 : decode jdk_52_method_21_code 27 = .ok (.iload_n 3, 1) := by decide +kernel
theorem d7_28 : decode jdk_52_method_21_code 28 = .ok (.iload 6, 2) := by decide +kernel
theorem d7_30 : decode jdk_52_method_21_code 30 = .ok (.i2b, 1) := by decide +kernel
theorem d7_31 : decode jdk_52_method_21_code 31 = .ok (.bastore, 1) := by decide +kernel
theorem d7_32 : decode jdk_52_method_21_code 32 = .ok (.iinc 1 1, 3) := by decide +kernel
theorem d7_35 : decode jdk_52_method_21_code 35 = .ok (.iinc 3 1, 3) := by decide +kernel
theorem d7_38 : decode jdk_52_method_21_code 38 = .ok (.iinc 5 1, 3) := by decide +kernel
theorem d7_41 : decode jdk_52_method_21_code 41 = .ok (.goto (-38), 3) := by decide +kernel
theorem d7_44 : decode jdk_52_method_21_code 44 = .ok (.iload 4, 2) := by decide +kernel
theorem d7_46 : decode jdk_52_method_21_code 46 = .ok (.ireturn, 1) := by decide +kernel
theorem pn_7 : plainName "java/lang/StringUTF16" = true := by first | (simp [plainName, overriddenIn]; done) | decide +kernel
theorem ef_rmC5_1 (m : MethodId) {ca : Addr} {ba : Addr} : entryFrame m #[(.ref ca), (.int (0 : Int32)), (.ref ba), (.int (0 : Int32)), (.int (1 : Int32))] 7 = mkF m 0 #[vr ca, vi (0 : Int32), vr ba, vi (0 : Int32), vi (1 : Int32), .unset, .unset] [] := by first | (simp [entryFrame, mkF, argsToLocals, Value.category]; done) | rfl
abbrev own_y30 : MethodName := ⟨"java/lang/StringUTF16", "compress", "([CI[BII)I"⟩
def QrmC5_1 (Z : State) (vcs : Int32) (wI : Addr) (wA : Addr) (cA : Cell) (ca : Addr) (ba : Addr) (kc : ClassId) (kb : ClassId) (c0 : Int32) (h0 : Heap) (n0 : Nat) (v : Option Value) (h : Heap) (L : List Loc) : Prop := (v = some (.int (1 : Int32))) ∧ (Fr n0 L) ∧ (Keep h0 h [ba]) ∧ (Arv Z h ba kb .byte (1 : Int32) [(.int (c0.toInt8.toInt32))] (.int (0 : Int32)))
theorem rmC5_1 (l : Launch) (Z : State) (a0 : Array Value) (hw : ∀ d ∈ tables_1, d.before a0 Z = true) (ws : List Jvm.Cond) (vcs : Int32) (wI : Addr) (wA : Addr) (cA : Cell) (G : Gh Z vcs wI wA cA) (ca : Addr) (ba : Addr) (kc : ClassId) (kb : ClassId) (c0 : Int32) (h0 : Heap) (n0 : Nat) (O0 : Old Z n0 h0) (VC : Arv Z h0 ca kc .char (1 : Int32) [(.int c0)] (.int (0 : Int32))) (VB : Arv Z h0 ba kb .byte (1 : Int32) [(.int (0 : Int32))] (.int (0 : Int32))) (g_ba : n0 ≤ ba) (hne : ca ≠ ba) (hb0 : ¬ ((255 : Int32) < c0)) :
    MetFree l own_y30 (head1 (Jvm.Cond.code own_y30 jdk_52_method_21_code 7 (some .int) :: ws) ({ frames := 0, cells := 0, slots := 0, locals := 0 } : Room)) (fun aa' UU' => aa' = #[(.ref ca), (.int (0 : Int32)), (.ref ba), (.int (0 : Int32)), (.int (1 : Int32))] ∧ Z.Warmed39 UU'.vm ∧ UU'.heap = h0) (fun _ _ _ _ _ => True) (fun _ UU' oo' VV' => ∃ v' L', oo' = .returned v' ∧ QrmC5_1 Z vcs wI wA cA ca ba kc kb c0 h0 n0 v' VV'.heap L' ∧ FrameEnd UU' oo' VV' L' ({ frames := 0, cells := 0, slots := 0, locals := 0 } : Room).cells ({ frames := 0, cells := 0, slots := 0, locals := 0 } : Room).slots) := by
  refine MetFree.of_bodySF (plainFor_of_name pn_7) hisR ?_
  intro p e s m args below meth c s₁ Bd hml0 hP hK
  obtain ⟨rfl, hZ, hh⟩ := hP
  have hml : c.maxLocals = 7 := hml0
  obtain ⟨hx, hby, hlk, hown, hnm, hret, X0, e0⟩ := own_hd Bd hh
  have N0 := Fr.nil n0
  have KC0 : Keep h0 h0 [ba] := Keep.refl _ _
  refine Go.body ?_
  obtain ⟨Pf, hPf⟩ : ∃ P, P = Fin' s below ({ frames := 0, cells := 0, slots := 0, locals := 0 } : Room).cells ({ frames := 0, cells := 0, slots := 0, locals := 0 } : Room).slots (QrmC5_1 Z vcs wI wA cA ca ba kc kb c0 h0 n0) := ⟨_, rfl⟩
  rw [← hPf]
  refine Go.cast (ef_rmC5_1 m) ?_
  show Go p.tables e below Pf (s₁.setTop (mkF m 0 #[vr ca, vi (0 : Int32), vr ba, vi (0 : Int32), vi (1 : Int32), .unset, .unset] []))
  refine Go.by' (fun t k => (XS.iconst X0.here hx rfl (hb hby d7_0) (XS.istore X0.here hx rfl (hb hby d7_1) rfl (l' := #[vr ca, vi (0 : Int32), vr ba, vi (0 : Int32), vi (1 : Int32), vi (0 : Int32), .unset]) rfl (XS.iload X0.here hx rfl (hb hby d7_3) rfl (XS.iload X0.here hx rfl (hb hby d7_5) rfl (XS.icmpNo X0.here hx rfl (hb hby d7_7) rfl (tlt (by decide)).2.1 (XS.aloadN X0.here hx rfl (hb hby d7_10) rfl rfl (XS.iloadN X0.here hx rfl (hb hby d7_11) rfl (own_cal X0 hx hZ e0 VC (j := (0 : Int32)) (v := (.int c0)) ⟨by decide, by decide⟩ rfl rfl rfl (hb hby d7_12) k))))))))) ?_
  show Go p.tables e below Pf (s₁.setTop (mkF m 13 #[vr ca, vi (0 : Int32), vr ba, vi (0 : Int32), vi (1 : Int32), vi (0 : Int32), .unset] [(.int c0)]))
  refine Go.by' (fun t k => (XS.istore X0.here hx rfl (hb hby d7_13) rfl (l' := #[vr ca, vi (0 : Int32), vr ba, vi (0 : Int32), vi (1 : Int32), vi (0 : Int32), vi c0]) rfl (XS.iload X0.here hx rfl (hb hby d7_15) rfl (XS.sipush X0.here hx rfl (hb hby d7_17) (XS.icmpYes X0.here hx rfl (pc0 := 20) (pc' := 26) rfl (hb hby d7_20) rfl (flt hb0).2.2.2 (by decide) (by decide) (XS.aloadN X0.here hx rfl (hb hby d7_26) rfl rfl (XS.iloadN X0.here hx rfl (hb hby d7_27) rfl (XS.iload X0.here hx rfl (hb hby d7_28) rfl (XS.i2b X0.here hx rfl (hb hby d7_30) rfl k))))))))) ?_
  obtain ⟨cl342, Ar342, q342, S342, P342, H342, G342⟩ := (id VB)
  have hin342 : ¬ ((0 : Int32) < 0 ∨ cl342.slots.size ≤ ((0 : Int32)).toNatClampNeg) := inb_of S342 ⟨by decide, by decide⟩
  obtain ⟨T343, h343, X343, e343, W343, st343⟩ := stB X0 hx hZ e0 Ar342 (j := (0 : Int32)) hin342 (g := (mkF m 31 #[vr ca, vi (0 : Int32), vr ba, vi (0 : Int32), vi (1 : Int32), vi (0 : Int32), vi c0] [(.int (c0.toInt8.toInt32)), (.int (0 : Int32)), (.ref ba)])) rfl rfl (hb hby d7_31)
  refine Go.by' st343 ?_
  rw [own_bb] at W343
  have V343 : Arv Z h343 ba kb .byte (1 : Int32) [(.int (c0.toInt8.toInt32))] (Value.int (0 : Int32)) := Arv.set Ar342 q342 S342 P342 H342 G342 (fits_nar_byte _) W343 0 rfl (Nat.le_of_ble_eq_true rfl)
  have N343 := Fr.snoc X343 N0 g_ba
  obtain ⟨lc343, X343, N343⟩ := own_pack X343 N343
  have O343 := O0.wr W343 g_ba
  have KC343 : Keep h0 h343 [ba] := KC0.wr W343 (Or.inl (List.mem_of_getElem? (i := 0) rfl))
  show Go p.tables e below Pf (T343.setTop (mkF m 32 #[vr ca, vi (0 : Int32), vr ba, vi (0 : Int32), vi (1 : Int32), vi (0 : Int32), vi c0] []))
  refine Go.by' (fun t k => (XS.iinc X343.here hx rfl (hb hby d7_32) rfl (l' := #[vr ca, vi (1 : Int32), vr ba, vi (0 : Int32), vi (1 : Int32), vi (0 : Int32), vi c0]) rfl (XS.iinc X343.here hx rfl (hb hby d7_35) rfl (l' := #[vr ca, vi (1 : Int32), vr ba, vi (1 : Int32), vi (1 : Int32), vi (0 : Int32), vi c0]) rfl (XS.iinc X343.here hx rfl (hb hby d7_38) rfl (l' := #[vr ca, vi (1 : Int32), vr ba, vi (1 : Int32), vi (1 : Int32), vi (1 : Int32), vi c0]) rfl (XS.goto X343.here hx rfl (pc0 := 41) (pc' := 3) rfl (hb hby d7_41) (by decide) (by decide) (XS.iload X343.here hx rfl (hb hby d7_3) rfl (XS.iload X343.here hx rfl (hb hby d7_5) rfl (XS.icmpYes X343.here hx rfl (pc0 := 7) (pc' := 44) rfl (hb hby d7_7) rfl (flt (by decide)).2.1 (by decide) (by decide) (XS.iload X343.here hx rfl (hb hby d7_44) rfl k))))))))) ?_
  show Go p.tables e below Pf (T343.setTop (mkF m 46 #[vr ca, vi (1 : Int32), vr ba, vi (1 : Int32), vi (1 : Int32), vi (1 : Int32), vi c0] [(.int (1 : Int32))]))
  rw [hPf]
  exact Go.retI' X343 hx hret hlk (by simp) rfl (hb hby d7_46) (by decide) (by decide) ⟨rfl, N343, (by rw [e343]; exact KC343), (by rw [e343]; exact V343)⟩
theorem d6_0 : decode jdk_52_method_16_code 0 = .ok (.iload_n 2, 1) := by decide +kernel
theorem d6_1 : decode jdk_52_method_16_code 1 = .ok (.newarray .byte, 2) := by decide +kernel
theorem d6_3 : decode jdk_52_method_16_code 3 = .ok (.astore_n 3, 1) := by decide +kernel
theorem d6_4 : decode jdk_52_method_16_code 4 = .ok (.aload_n 0, 1) := by decide +kernel
theorem d6_5 : decode jdk_52_method_16_code 5 = .ok (.iload_n 1, 1) := by decide +kernel
theorem d6_6 : decode jdk_52_method_16_code 6 = .ok (.aload_n 3, 1) := by decide +kernel
theorem d6_7 : decode jdk_52_method_16_code 7 = .ok (.iconst 0, 1) := by decide +kernel
theorem d6_8 : decode jdk_52_method_16_code 8 = .ok (.iload_n 2, 1) := by decide +kernel
theorem d6_9 : decode jdk_52_method_16_code 9 = .ok (.invokestatic 115, 3) := by decide +kernel
theorem pd_22 : parseMethodDescriptor "([CI[BII)I" = some ⟨[(.array .char), .int, (.array .byte), .int, .int], some .int⟩ := by decide +kernel
theorem d6_12 : decode jdk_52_method_16_code 12 = .ok (.istore 4, 2) := by decide +kernel
theorem d6_14 : decode jdk_52_method_16_code 14 = .ok (.iload 4, 2) := by decide +kernel
theorem d6_16 : decode jdk_52_method_16_code 16 = .ok (.iload_n 2, 1) := by decide +kernel
theorem d6_17 : decode jdk_52_method_16_code 17 = .ok (.if_icmp .eq 40, 3) := by decide +kernel
theorem d6_57 : decode jdk_52_method_16_code 57 = .ok (.aload_n 3, 1) := by decide +kernel
theorem d6_58 : decode jdk_52_method_16_code 58 = .ok (.areturn, 1) := by decide +kernel
theorem pn_6 : plainName "java/lang/StringUTF16" = true := by first | (simp [plainName, overriddenIn]; done) | decide +kernel
theorem ef_rmC3_1 (m : MethodId) {ca : Addr} : entryFrame m #[(.ref ca), (.int (0 : Int32)), (.int (1 : Int32))] 6 = mkF m 0 #[vr ca, vi (0 : Int32), vi (1 : Int32), .unset, .unset, .unset] [] := by first | (simp [entryFrame, mkF, argsToLocals, Value.category]; done) | rfl
abbrev own_y31 : MethodName := ⟨"java/lang/StringUTF16", "compress", "([CII)[B"⟩
def QrmC3_1 (Z : State) (vcs : Int32) (wI : Addr) (wA : Addr) (cA : Cell) (ca : Addr) (kc : ClassId) (c0 : Int32) (h0 : Heap) (n0 : Nat) (v : Option Value) (h : Heap) (L : List Loc) : Prop := ∃ (rb : Addr) (kb : ClassId), (v = some (.ref rb)) ∧ (Fr n0 L) ∧ (Keep h0 h []) ∧ (Arv Z h rb kb .byte (1 : Int32) [(.int (c0.toInt8.toInt32))] (.int (0 : Int32))) ∧ (h0.size ≤ rb)
theorem rmC3_1 (l : Launch) (Z : State) (a0 : Array Value) (hw : ∀ d ∈ tables_1, d.before a0 Z = true) (ws : List Jvm.Cond) (vcs : Int32) (wI : Addr) (wA : Addr) (cA : Cell) (G : Gh Z vcs wI wA cA) (ca : Addr) (kc : ClassId) (c0 : Int32) (h0 : Heap) (n0 : Nat) (O0 : Old Z n0 h0) (VC : Arv Z h0 ca kc .char (1 : Int32) [(.int c0)] (.int (0 : Int32))) (hb0 : ¬ ((255 : Int32) < c0)) :
    MetFree l own_y31 (head1 (Jvm.Cond.code own_y31 jdk_52_method_16_code 6 (some (.array .byte)) :: ws) ({ frames := 1, cells := 1, slots := 1, locals := 18 } : Room)) (fun aa' UU' => aa' = #[(.ref ca), (.int (0 : Int32)), (.int (1 : Int32))] ∧ Z.Warmed39 UU'.vm ∧ UU'.heap = h0) (fun _ _ _ _ _ => True) (fun _ UU' oo' VV' => ∃ v' L', oo' = .returned v' ∧ QrmC3_1 Z vcs wI wA cA ca kc c0 h0 n0 v' VV'.heap L' ∧ FrameEnd UU' oo' VV' L' ({ frames := 1, cells := 1, slots := 1, locals := 18 } : Room).cells ({ frames := 1, cells := 1, slots := 1, locals := 18 } : Room).slots) := by
  refine MetFree.of_bodySF (plainFor_of_name pn_6) hisR ?_
  intro p e s m args below meth c s₁ Bd hml0 hP hK
  obtain ⟨rfl, hZ, hh⟩ := hP
  have hml : c.maxLocals = 6 := hml0
  obtain ⟨hx, hby, hlk, hown, hnm, hret, X0, e0⟩ := own_hd Bd hh
  have N0 := Fr.nil n0
  have KC0 : Keep h0 h0 [] := Keep.refl _ _
  refine Go.body ?_
  obtain ⟨Pf, hPf⟩ : ∃ P, P = Fin' s below ({ frames := 1, cells := 1, slots := 1, locals := 18 } : Room).cells ({ frames := 1, cells := 1, slots := 1, locals := 18 } : Room).slots (QrmC3_1 Z vcs wI wA cA ca kc c0 h0 n0) := ⟨_, rfl⟩
  rw [← hPf]
  refine Go.cast (ef_rmC3_1 m) ?_
  have hw15 := own_w hw 15 rfl
  have hw34 := own_w hw 34 rfl
  have hw36 := own_w hw 36 rfl
  have hw37 := own_w hw 37 rfl
  have hw38 := own_w hw 38 rfl
  show Go p.tables e below Pf (s₁.setTop (mkF m 0 #[vr ca, vi (0 : Int32), vi (1 : Int32), .unset, .unset, .unset] []))
  refine Go.by' (fun t k => (XS.iloadN X0.here hx rfl (hb hby d6_0) rfl k)) ?_
  obtain ⟨T344, h344, k344, X344, e344, E344, A344, st344⟩ := newP (aty := .byte) X0 hx hZ hw15 e0 (g := (mkF m 1 #[vr ca, vi (0 : Int32), vi (1 : Int32), .unset, .unset, .unset] [(.int (1 : Int32))])) rfl (hb hby d6_1) rfl (by decide) (cap := 1) (by decide) (by decide) (by decide) (by decide)
  obtain ⟨b344, g344⟩ : ∃ z, z = h0.size := ⟨_, rfl⟩
  rw [← g344] at A344 st344
  refine Go.by' st344 ?_
  have g_b344 : n0 ≤ b344 := Nat.le_trans (own_le O0) (Nat.le_of_eq g344.symm)
  have sz_b344 : h0.size ≤ b344 := Nat.le_trans KC0.1 (Nat.le_of_eq g344.symm)
  have O344 := O0.ext E344
  have KC344 : Keep h0 h344 [] := KC0.ext E344
  have V344 : Arv Z h344 b344 k344 .byte (1 : Int32) [(.int (0 : Int32))] (Value.int (0 : Int32)) := (Arv.new A344 (by decide)).pad (pad_rep [] (Value.int (0 : Int32)) 1)
  show Go p.tables e below Pf (T344.setTop (mkF m 3 #[vr ca, vi (0 : Int32), vi (1 : Int32), .unset, .unset, .unset] [(.ref b344)]))
  refine Go.by' (fun t k => (XS.astoreN X344.here hx rfl (hb hby d6_3) rfl rfl (l' := #[vr ca, vi (0 : Int32), vi (1 : Int32), vr b344, .unset, .unset]) rfl (XS.aloadN X344.here hx rfl (hb hby d6_4) rfl rfl (XS.iloadN X344.here hx rfl (hb hby d6_5) rfl (XS.aloadN X344.here hx rfl (hb hby d6_6) rfl rfl (XS.iconst X344.here hx rfl (hb hby d6_7) (XS.iloadN X344.here hx rfl (hb hby d6_8) rfl k))))))) ?_
  obtain ⟨_, _, ⟨T345, L345, k345, n345⟩, -, X345, ⟨Lc345, hQ345, l345, y345, z345⟩, st345⟩ := Jvm.LawKit.callS X344 hx (y := own_y30) hown (mvT hZ hw36) (mvT hZ hw37) (mvT hZ hw34) (mvT hZ hw38) (by decide) (backOf (W := 0) (rmC5_1 l Z a0 hw [] vcs wI wA cA G ca b344 kc k344 c0 h344 n0 O344 (VC.ext E344) V344 g_b344 (Nat.ne_of_lt (Nat.lt_of_lt_of_le VC.lt (Nat.le_of_eq g344.symm))) hb0) hZ hw38 hw34 (by decide) (by decide)) (g := (mkF m 9 #[vr ca, vi (0 : Int32), vi (1 : Int32), vr b344, .unset, .unset] [(.int (1 : Int32)), (.int (0 : Int32)), (.ref b344), (.int (0 : Int32)), (.ref ca)])) rfl (by rw [hml]; rfl) (argsL := [(.ref ca), (.int (0 : Int32)), (.ref b344), (.int (0 : Int32)), (.int (1 : Int32))]) (rest := []) (lenOf pd_22 rfl) rfl (Nat.le_of_eq rfl) (hb hby d6_9) (fun _ _ => ⟨rfl, e344, (by decide : 1 + 0 ≤ _), (by decide : 1 + 0 ≤ _)⟩)
  dsimp only [Pt.U, Pt.locs, Pt.cells, Pt.slots] at X345 l345 y345 z345 st345 hQ345
  subst l345 y345 z345
  obtain ⟨rfl, N345q, K345, f345_0⟩ := hQ345
  have N345 := Fr.app N0 N345q
  obtain ⟨lc345, X345, N345⟩ := own_pack X345 N345
  refine Go.by' st345 ?_
  have O345 := O344.keep K345 (allS g_b344 all0)
  have KC345 : Keep h0 T345.heap [] := KC344.trans K345 (allS (Or.inr sz_b344) all0)
  show Go p.tables e below Pf (T345.setTop (mkF m 12 #[vr ca, vi (0 : Int32), vi (1 : Int32), vr b344, .unset, .unset] [(.int (1 : Int32))]))
  refine Go.by' (fun t k => (XS.istore X345.here hx rfl (hb hby d6_12) rfl (l' := #[vr ca, vi (0 : Int32), vi (1 : Int32), vr b344, vi (1 : Int32), .unset]) rfl (XS.iload X345.here hx rfl (hb hby d6_14) rfl (XS.iloadN X345.here hx rfl (hb hby d6_16) rfl (XS.icmpYes X345.here hx rfl (pc0 := 17) (pc' := 57) rfl (hb hby d6_17) rfl (teq (by decide)).1 (by decide) (by decide) (XS.aloadN X345.here hx rfl (hb hby d6_57) rfl rfl k)))))) ?_
  show Go p.tables e below Pf (T345.setTop (mkF m 58 #[vr ca, vi (0 : Int32), vi (1 : Int32), vr b344, vi (1 : Int32), .unset] [(.ref b344)]))
  rw [hPf]
  exact Go.retA' X345 hx hret hlk rfl rfl (hb hby d6_58) (by decide) (by decide) ⟨b344, k344, rfl, N345, KC345, f345_0, sz_b344⟩
theorem d8_0 : decode jdk_52_method_15_code 0 = .ok (.iload_n 1, 1) := by decide +kernel
theorem d8_1 : decode jdk_52_method_15_code 1 = .ok (.aload_n 0, 1) := by decide +kernel
theorem d8_2 : decode jdk_52_method_15_code 2 = .ok (.arraylength, 1) := by decide +kernel
theorem d8_3 : decode jdk_52_method_15_code 3 = .ok (.isub, 1) := by decide +kernel
theorem d8_4 : decode jdk_52_method_15_code 4 = .ok (.bipush 31, 2) := by decide +kernel
theorem d8_6 : decode jdk_52_method_15_code 6 = .ok (.iushr, 1) := by decide +kernel
theorem d8_7 : decode jdk_52_method_15_code 7 = .ok (.i2b, 1) := by decide +kernel
theorem d8_8 : decode jdk_52_method_15_code 8 = .ok (.ireturn, 1) := by decide +kernel
theorem pn_8 : plainName "java/lang/StringUTF16" = true := by first | (simp [plainName, overriddenIn]; done) | decide +kernel
theorem ef_rmCL_1 (m : MethodId) {ba : Addr} : entryFrame m #[(.ref ba), (.int (1 : Int32))] 2 = mkF m 0 #[vr ba, vi (1 : Int32)] [] := by first | (simp [entryFrame, mkF, argsToLocals, Value.category]; done) | rfl
abbrev own_y32 : MethodName := ⟨"java/lang/StringUTF16", "coderFromArrayLen", "([BI)B"⟩
def QrmCL_1 (Z : State) (vcs : Int32) (wI : Addr) (wA : Addr) (cA : Cell) (ba : Addr) (kb : ClassId) (x0 : Value) (h0 : Heap) (n0 : Nat) (v : Option Value) (h : Heap) (L : List Loc) : Prop := (v = some (.int (0 : Int32))) ∧ (L = []) ∧ (h = h0)
theorem rmCL_1 (l : Launch) (Z : State) (a0 : Array Value) (hw : ∀ d ∈ tables_1, d.before a0 Z = true) (ws : List Jvm.Cond) (vcs : Int32) (wI : Addr) (wA : Addr) (cA : Cell) (G : Gh Z vcs wI wA cA) (ba : Addr) (kb : ClassId) (x0 : Value) (h0 : Heap) (n0 : Nat) (O0 : Old Z n0 h0) (VB : Arv Z h0 ba kb .byte (1 : Int32) [x0] (.int (0 : Int32))) :
    MetFree l own_y32 (head1 (Jvm.Cond.code own_y32 jdk_52_method_15_code 2 (some .byte) :: ws) ({ frames := 0, cells := 0, slots := 0, locals := 0 } : Room)) (fun aa' UU' => aa' = #[(.ref ba), (.int (1 : Int32))] ∧ Z.Warmed39 UU'.vm ∧ UU'.heap = h0) (fun _ _ _ _ _ => True) (fun _ UU' oo' VV' => ∃ v' L', oo' = .returned v' ∧ QrmCL_1 Z vcs wI wA cA ba kb x0 h0 n0 v' VV'.heap L' ∧ FrameEnd UU' oo' VV' L' ({ frames := 0, cells := 0, slots := 0, locals := 0 } : Room).cells ({ frames := 0, cells := 0, slots := 0, locals := 0 } : Room).slots) := by
  refine MetFree.of_bodySF (plainFor_of_name pn_8) hisR ?_
  intro p e s m args below meth c s₁ Bd hml0 hP hK
  obtain ⟨rfl, hZ, hh⟩ := hP
  have hml : c.maxLocals = 2 := hml0
  obtain ⟨hx, hby, hlk, hown, hnm, hret, X0, e0⟩ := own_hd Bd hh
  have N0 := Fr.nil n0
  refine Go.body ?_
  obtain ⟨Pf, hPf⟩ : ∃ P, P = Fin' s below ({ frames := 0, cells := 0, slots := 0, locals := 0 } : Room).cells ({ frames := 0, cells := 0, slots := 0, locals := 0 } : Room).slots (QrmCL_1 Z vcs wI wA cA ba kb x0 h0 n0) := ⟨_, rfl⟩
  rw [← hPf]
  refine Go.cast (ef_rmCL_1 m) ?_
  show Go p.tables e below Pf (s₁.setTop (mkF m 0 #[vr ba, vi (1 : Int32)] []))
  refine Go.by' (fun t k => (XS.iloadN X0.here hx rfl (hb hby d8_0) rfl (XS.aloadN X0.here hx rfl (hb hby d8_1) rfl rfl (own_alen X0 hx hZ e0 VB rfl rfl (hb hby d8_2) (XS.isub X0.here hx rfl (hb hby d8_3) rfl (XS.bipush X0.here hx rfl (hb hby d8_4) (XS.iushr X0.here hx rfl (hb hby d8_6) rfl (XS.i2b X0.here hx rfl (hb hby d8_7) rfl k)))))))) ?_
  show Go p.tables e below Pf (s₁.setTop (mkF m 8 #[vr ba, vi (1 : Int32)] [(.int (0 : Int32))]))
  rw [hPf]
  exact Go.retI' X0 hx hret hlk (by simp) rfl (hb hby d8_8) (by decide) (by decide) ⟨rfl, rfl, e0⟩
theorem d2_0 : decode jdk_42_method_149_code 0 = .ok (.aload_n 0, 1) := by decide +kernel
theorem d2_1 : decode jdk_42_method_149_code 1 = .ok (.invokespecial 1, 3) := by decide +kernel
theorem d2_4 : decode jdk_42_method_149_code 4 = .ok (.iload_n 3, 1) := by decide +kernel
theorem d2_5 : decode jdk_42_method_149_code 5 = .ok (.ifCond .ne 22, 3) := by decide +kernel
theorem d2_27 : decode jdk_42_method_149_code 27 = .ok (.getstatic 38, 3) := by decide +kernel
theorem d2_30 : decode jdk_42_method_149_code 30 = .ok (.ifCond .eq 28, 3) := by decide +kernel
theorem d2_33 : decode jdk_42_method_149_code 33 = .ok (.aload_n 1, 1) := by decide +kernel
theorem d2_34 : decode jdk_42_method_149_code 34 = .ok (.iload_n 2, 1) := by decide +kernel
theorem d2_35 : decode jdk_42_method_149_code 35 = .ok (.iload_n 3, 1) := by decide +kernel
theorem d2_36 : decode jdk_42_method_149_code 36 = .ok (.invokestatic 177, 3) := by decide +kernel
theorem pd_23 : parseMethodDescriptor "([CII)[B" = some ⟨[(.array .char), .int, .int], some (.array .byte)⟩ := by decide +kernel
theorem d2_39 : decode jdk_42_method_149_code 39 = .ok (.astore 5, 2) := by decide +kernel
theorem d2_41 : decode jdk_42_method_149_code 41 = .ok (.aload_n 0, 1) := by decide +kernel
theorem d2_42 : decode jdk_42_method_149_code 42 = .ok (.aload 5, 2) := by decide +kernel
theorem d2_44 : decode jdk_42_method_149_code 44 = .ok (.iload_n 3, 1) := by decide +kernel
theorem d2_45 : decode jdk_42_method_149_code 45 = .ok (.invokestatic 47, 3) := by decide +kernel
theorem pd_24 : parseMethodDescriptor "([BI)B" = some ⟨[(.array .byte), .int], some .byte⟩ := by decide +kernel
theorem d2_48 : decode jdk_42_method_149_code 48 = .ok (.putfield 15, 3) := by decide +kernel
theorem d2_51 : decode jdk_42_method_149_code 51 = .ok (.aload_n 0, 1) := by decide +kernel
theorem d2_52 : decode jdk_42_method_149_code 52 = .ok (.aload 5, 2) := by decide +kernel
theorem d2_54 : decode jdk_42_method_149_code 54 = .ok (.putfield 9, 3) := by decide +kernel
theorem d2_57 : decode jdk_42_method_149_code 57 = .ok (.return_, 1) := by decide +kernel
theorem pn_2 : plainName "java/lang/String" = true := by first | (simp [plainName, overriddenIn]; done) | decide +kernel
theorem ef_rmS4_1 (m : MethodId) {sa : Addr} {ca : Addr} : entryFrame m #[(.ref sa), (.ref ca), (.int (0 : Int32)), (.int (1 : Int32)), .null] 6 = mkF m 0 #[vr sa, vr ca, vi (0 : Int32), vi (1 : Int32), .val .null, .unset] [] := by first | (simp [entryFrame, mkF, argsToLocals, Value.category]; done) | rfl
abbrev own_y33 : MethodName := ⟨"java/lang/String", "<init>", "([CIILjava/lang/Void;)V"⟩
def QrmS4_1 (Z : State) (vcs : Int32) (wI : Addr) (wA : Addr) (cA : Cell) (sa : Addr) (ca : Addr) (kc : ClassId) (c0 : Int32) (h0 : Heap) (n0 : Nat) (v : Option Value) (h : Heap) (L : List Loc) : Prop := ∃ (rb : Addr) (kb : ClassId), (v = none) ∧ (Fr n0 L) ∧ (Keep h0 h [sa]) ∧ (Exa Z h sa "java/lang/String") ∧ (Fld Z h sa "java/lang/String" "value" "[B" (.ref rb)) ∧ (Fld Z h sa "java/lang/String" "coder" "B" (.int (0 : Int32))) ∧ (Arv Z h rb kb .byte (1 : Int32) [(.int (c0.toInt8.toInt32))] (.int (0 : Int32))) ∧ (h0.size ≤ rb)
theorem rmS4_1 (l : Launch) (Z : State) (a0 : Array Value) (hw : ∀ d ∈ tables_1, d.before a0 Z = true) (ws : List Jvm.Cond) (vcs : Int32) (wI : Addr) (wA : Addr) (cA : Cell) (G : Gh Z vcs wI wA cA) (sa : Addr) (ca : Addr) (kc : ClassId) (c0 : Int32) (h0 : Heap) (n0 : Nat) (O0 : Old Z n0 h0) (EX : Exa Z h0 sa "java/lang/String") (FV : Fld Z h0 sa "java/lang/String" "value" "[B" .null) (FC : Fld Z h0 sa "java/lang/String" "coder" "B" (.int (0 : Int32))) (g_sa : n0 ≤ sa) (VC : Arv Z h0 ca kc .char (1 : Int32) [(.int c0)] (.int (0 : Int32))) (hne : sa ≠ ca) (hb0 : ¬ ((255 : Int32) < c0)) :
    MetFree l own_y33 (head1 (Jvm.Cond.code own_y33 jdk_42_method_149_code 6 none :: ws) ({ frames := 2, cells := 1, slots := 1, locals := 35 } : Room)) (fun aa' UU' => aa' = #[(.ref sa), (.ref ca), (.int (0 : Int32)), (.int (1 : Int32)), .null] ∧ Z.Warmed39 UU'.vm ∧ UU'.heap = h0) (fun _ _ _ _ _ => True) (fun _ UU' oo' VV' => ∃ v' L', oo' = .returned v' ∧ QrmS4_1 Z vcs wI wA cA sa ca kc c0 h0 n0 v' VV'.heap L' ∧ FrameEnd UU' oo' VV' L' ({ frames := 2, cells := 1, slots := 1, locals := 35 } : Room).cells ({ frames := 2, cells := 1, slots := 1, locals := 35 } : Room).slots) := by
  refine MetFree.of_bodySF (plainFor_of_name pn_2) hisR ?_
  intro p e s m args below meth c s₁ Bd hml0 hP hK
  obtain ⟨rfl, hZ, hh⟩ := hP
  have hml : c.maxLocals = 6 := hml0
  obtain ⟨hx, hby, hlk, hown, hnm, hret, X0, e0⟩ := own_hd Bd hh
  have N0 := Fr.nil n0
  have KC0 : Keep h0 h0 [sa] := Keep.refl _ _
  refine Go.body ?_
  obtain ⟨Pf, hPf⟩ : ∃ P, P = Fin' s below ({ frames := 2, cells := 1, slots := 1, locals := 35 } : Room).cells ({ frames := 2, cells := 1, slots := 1, locals := 35 } : Room).slots (QrmS4_1 Z vcs wI wA cA sa ca kc c0 h0 n0) := ⟨_, rfl⟩
  rw [← hPf]
  refine Go.cast (ef_rmS4_1 m) ?_
  have hw2 := own_w hw 2 rfl
  have hw11 := own_w hw 11 rfl
  have hw12 := own_w hw 12 rfl
  have hw13 := own_w hw 13 rfl
  have hw16 := own_w hw 16 rfl
  have hw17 := own_w hw 17 rfl
  have hw20 := own_w hw 20 rfl
  have hw21 := own_w hw 21 rfl
  have hw31 := own_w hw 31 rfl
  have hw32 := own_w hw 32 rfl
  have hw33 := own_w hw 33 rfl
  have hw34 := own_w hw 34 rfl
  have hw35 := own_w hw 35 rfl
  have hw39 := own_w hw 39 rfl
  have hw40 := own_w hw 40 rfl
  have hw41 := own_w hw 41 rfl
  show Go p.tables e below Pf (s₁.setTop (mkF m 0 #[vr sa, vr ca, vi (0 : Int32), vi (1 : Int32), .val .null, .unset] []))
  refine Go.by' (fun t k => (XS.aloadN X0.here hx rfl (hb hby d2_0) rfl rfl k)) ?_
  obtain ⟨T347, X347, e347, st347⟩ := initO X0 hx hZ hown hw11 hw12 hw13 e0 (g := (mkF m 1 #[vr sa, vr ca, vi (0 : Int32), vi (1 : Int32), .val .null, .unset] [(.ref sa)])) rfl (by rw [hml]; rfl) rfl (hb hby d2_1) (by decide) (W := 0) (Nat.le_of_eq rfl) (by decide)
  refine Go.by' st347 ?_
  show Go p.tables e below Pf (T347.setTop (mkF m 4 #[vr sa, vr ca, vi (0 : Int32), vi (1 : Int32), .val .null, .unset] []))
  refine Go.by' (fun t k => (XS.iloadN X347.here hx rfl (hb hby d2_4) rfl (XS.ifYes X347.here hx rfl (pc0 := 5) (pc' := 27) rfl (hb hby d2_5) rfl ((if0 _ _).trans (feq (by decide)).2) (by decide) (by decide) k))) ?_
  obtain ⟨T348, X348, e348, st348⟩ := getS2 X347 hx hZ hown (host := "") (Or.inl hw31) Via.refl e347 (G.1.ext O0.2) (g := (mkF m 27 #[vr sa, vr ca, vi (0 : Int32), vi (1 : Int32), .val .null, .unset] [])) rfl (hb hby d2_27)
  refine Go.by' st348 ?_
  show Go p.tables e below Pf (T348.setTop (mkF m 30 #[vr sa, vr ca, vi (0 : Int32), vi (1 : Int32), .val .null, .unset] [(.int vcs)]))
  refine Go.by' (fun t k => (XS.ifNo X348.here hx rfl (hb hby d2_30) rfl ((if0 _ _).trans (feq G.2.1).1) (XS.aloadN X348.here hx rfl (hb hby d2_33) rfl rfl (XS.iloadN X348.here hx rfl (hb hby d2_34) rfl (XS.iloadN X348.here hx rfl (hb hby d2_35) rfl k))))) ?_
  obtain ⟨_, _, ⟨T349, L349, k349, n349⟩, -, X349, ⟨Lc349, hQ349, l349, y349, z349⟩, st349⟩ := Jvm.LawKit.callS X348 hx (y := own_y31) hown (mvT hZ hw32) (mvT hZ hw33) (mvT hZ hw34) (mvT hZ hw35) (by decide) (backOf (W := 0) (rmC3_1 l Z a0 hw [] vcs wI wA cA G ca kc c0 h0 n0 O0 VC hb0) hZ hw35 hw34 (by decide) (by decide)) (g := (mkF m 36 #[vr sa, vr ca, vi (0 : Int32), vi (1 : Int32), .val .null, .unset] [(.int (1 : Int32)), (.int (0 : Int32)), (.ref ca)])) rfl (by rw [hml]; rfl) (argsL := [(.ref ca), (.int (0 : Int32)), (.int (1 : Int32))]) (rest := []) (lenOf pd_23 rfl) rfl (Nat.le_of_eq rfl) (hb hby d2_36) (fun _ _ => ⟨rfl, e348, (by decide : 0 + 1 ≤ _), (by decide : 0 + 1 ≤ _)⟩)
  dsimp only [Pt.U, Pt.locs, Pt.cells, Pt.slots] at X349 l349 y349 z349 st349 hQ349
  subst l349 y349 z349
  obtain ⟨rb_349, kb_349, rfl, N349q, K349, f349_0, f349_1⟩ := hQ349
  have N349 := Fr.app N0 N349q
  obtain ⟨lc349, X349, N349⟩ := own_pack X349 N349
  refine Go.by' st349 ?_
  have g_rb_349 : n0 ≤ rb_349 := Nat.le_trans (own_le O0) f349_1
  have sz_rb_349 : h0.size ≤ rb_349 := Nat.le_trans KC0.1 f349_1
  have O349 := O0.keep K349 all0
  have KC349 : Keep h0 T349.heap [sa] := KC0.trans K349 all0
  show Go p.tables e below Pf (T349.setTop (mkF m 39 #[vr sa, vr ca, vi (0 : Int32), vi (1 : Int32), .val .null, .unset] [(.ref rb_349)]))
  refine Go.by' (fun t k => (XS.astore X349.here hx rfl (hb hby d2_39) rfl rfl (l' := #[vr sa, vr ca, vi (0 : Int32), vi (1 : Int32), .val .null, vr rb_349]) rfl (XS.aloadN X349.here hx rfl (hb hby d2_41) rfl rfl (XS.aload X349.here hx rfl (hb hby d2_42) rfl rfl (XS.iloadN X349.here hx rfl (hb hby d2_44) rfl k))))) ?_
  obtain ⟨_, _, ⟨T350, L350, k350, n350⟩, -, X350, ⟨Lc350, hQ350, l350, y350, z350⟩, st350⟩ := Jvm.LawKit.callS X349 hx (y := own_y32) hown (mvT hZ hw39) (mvT hZ hw40) (mvT hZ hw34) (mvT hZ hw41) (by decide) (backOf (W := 1) (rmCL_1 l Z a0 hw [] vcs wI wA cA G rb_349 kb_349 ((Value.int (c0.toInt8.toInt32))) T349.heap n0 O349 f349_0) hZ hw41 hw34 (by decide) (by decide)) (g := (mkF m 45 #[vr sa, vr ca, vi (0 : Int32), vi (1 : Int32), .val .null, vr rb_349] [(.int (1 : Int32)), (.ref rb_349), (.ref sa)])) rfl (by rw [hml]; rfl) (argsL := [(.ref rb_349), (.int (1 : Int32))]) (rest := [(.ref sa)]) (lenOf pd_24 rfl) rfl (Nat.le_of_eq rfl) (hb hby d2_45) (fun _ _ => ⟨rfl, rfl, (by decide : 1 + 0 ≤ _), (by decide : 1 + 0 ≤ _)⟩)
  dsimp only [Pt.U, Pt.locs, Pt.cells, Pt.slots] at X350 l350 y350 z350 st350 hQ350
  subst l350 y350 z350
  obtain ⟨rfl, rfl, e350⟩ := hQ350
  try replace X350 := own_nil X350
  refine Go.by' st350 ?_
  obtain ⟨T351, h351, X351, e351, W351, st351⟩ := putFN X350 hx hZ hown hw21 Via.refl e350 (FC.keep K349 nin0) (EX.keep K349) (Or.inr ⟨hw17, rfl, hnm⟩) hw2 (ty := .byte) (v' := (.int (0 : Int32))) (by decide) rfl rfl (g := (mkF m 48 #[vr sa, vr ca, vi (0 : Int32), vi (1 : Int32), .val .null, vr rb_349] [(.int (0 : Int32)), (.ref sa)])) rfl rfl (hb hby d2_48)
  refine Go.by' st351 ?_
  have Fw351 : Fld Z h351 sa "java/lang/String" "coder" "B" (Value.int (0 : Int32)) := (FC.keep K349 nin0).same W351
  have N351 := Fr.snoc X351 N349 g_sa
  obtain ⟨lc351, X351, N351⟩ := own_pack X351 N351
  have O351 := O349.wr W351 g_sa
  have KC351 : Keep h0 h351 [sa] := KC349.wr W351 (Or.inl (List.mem_of_getElem? (i := 0) rfl))
  show Go p.tables e below Pf (T351.setTop (mkF m 51 #[vr sa, vr ca, vi (0 : Int32), vi (1 : Int32), .val .null, vr rb_349] []))
  refine Go.by' (fun t k => (XS.aloadN X351.here hx rfl (hb hby d2_51) rfl rfl (XS.aload X351.here hx rfl (hb hby d2_52) rfl rfl k))) ?_
  have c352 := ((EX.keep K349).wr W351)
  have c353 := ((FV.keep K349 nin0).other W351 (Or.inr (slot_ne (Or.inr hw16) (Or.inr hw17) (by decide) (t := (.array .byte)) (t' := .byte) (by decide) (by decide))))
  obtain ⟨T354, h354, X354, e354, W354, st354⟩ := putF X351 hx hZ hown (host := "") (Or.inl hw20) Via.refl e351 c353 c352 (Or.inr ⟨hw16, rfl, hnm⟩) hw2 (ty := (.array .byte)) (by decide) rfl rfl (g := (mkF m 54 #[vr sa, vr ca, vi (0 : Int32), vi (1 : Int32), .val .null, vr rb_349] [(.ref rb_349), (.ref sa)])) rfl rfl (hb hby d2_54)
  refine Go.by' st354 ?_
  have Fw354 : Fld Z h354 sa "java/lang/String" "value" "[B" (Value.ref rb_349) := c353.same W354
  have N354 := Fr.snoc X354 N351 g_sa
  obtain ⟨lc354, X354, N354⟩ := own_pack X354 N354
  have O354 := O351.wr W354 g_sa
  have KC354 : Keep h0 h354 [sa] := KC351.wr W354 (Or.inl (List.mem_of_getElem? (i := 0) rfl))
  have c355 := ((f349_0.other W351 (Ne.symm (Nat.ne_of_lt (Nat.lt_of_lt_of_le EX.lt f349_1)))).other W354 (Ne.symm (Nat.ne_of_lt (Nat.lt_of_lt_of_le EX.lt f349_1))))
  show Go p.tables e below Pf (T354.setTop (mkF m 57 #[vr sa, vr ca, vi (0 : Int32), vi (1 : Int32), .val .null, vr rb_349] []))
  rw [hPf]
  exact Go.retV' X354 hx hret hlk (hb hby d2_57) (by decide) (by decide) ⟨rb_349, kb_349, rfl, N354, (by rw [e354]; exact KC354), (by rw [e354]; exact (c352.wr W354)), (by rw [e354]; exact Fw354), (by rw [e354]; exact (Fw351.other W354 (Or.inr (slot_ne (Or.inr hw17) (Or.inr hw16) (by decide) (t := .byte) (t' := (.array .byte)) (by decide) (by decide))))), (by rw [e354]; exact c355), sz_rb_349⟩
theorem d1_0 : decode jdk_42_method_3_code 0 = .ok (.aload_n 0, 1) := by decide +kernel
theorem d1_1 : decode jdk_42_method_3_code 1 = .ok (.aload_n 1, 1) := by decide +kernel
theorem d1_2 : decode jdk_42_method_3_code 2 = .ok (.iconst 0, 1) := by decide +kernel
theorem d1_3 : decode jdk_42_method_3_code 3 = .ok (.aload_n 1, 1) := by decide +kernel
theorem d1_4 : decode jdk_42_method_3_code 4 = .ok (.arraylength, 1) := by decide +kernel
theorem d1_5 : decode jdk_42_method_3_code 5 = .ok (.aconst_null, 1) := by decide +kernel
theorem d1_6 : decode jdk_42_method_3_code 6 = .ok (.invokespecial 27, 3) := by decide +kernel
theorem pd_25 : parseMethodDescriptor "([CIILjava/lang/Void;)V" = some ⟨[(.array .char), .int, .int, (.object "java/lang/Void")], none⟩ := by decide +kernel
theorem d1_9 : decode jdk_42_method_3_code 9 = .ok (.return_, 1) := by decide +kernel
theorem pn_1 : plainName "java/lang/String" = true := by first | (simp [plainName, overriddenIn]; done) | decide +kernel
theorem ef_rmS1_1 (m : MethodId) {sa : Addr} {ca : Addr} : entryFrame m #[(.ref sa), (.ref ca)] 2 = mkF m 0 #[vr sa, vr ca] [] := by first | (simp [entryFrame, mkF, argsToLocals, Value.category]; done) | rfl
abbrev own_y34 : MethodName := ⟨"java/lang/String", "<init>", "([C)V"⟩
def QrmS1_1 (Z : State) (vcs : Int32) (wI : Addr) (wA : Addr) (cA : Cell) (sa : Addr) (ca : Addr) (kc : ClassId) (c0 : Int32) (h0 : Heap) (n0 : Nat) (v : Option Value) (h : Heap) (L : List Loc) : Prop := ∃ (rb : Addr) (kb : ClassId), (v = none) ∧ (Fr n0 L) ∧ (Keep h0 h [sa]) ∧ (Exa Z h sa "java/lang/String") ∧ (Fld Z h sa "java/lang/String" "value" "[B" (.ref rb)) ∧ (Fld Z h sa "java/lang/String" "coder" "B" (.int (0 : Int32))) ∧ (Arv Z h rb kb .byte (1 : Int32) [(.int (c0.toInt8.toInt32))] (.int (0 : Int32))) ∧ (h0.size ≤ rb)
theorem rmS1_1 (l : Launch) (Z : State) (a0 : Array Value) (hw : ∀ d ∈ tables_1, d.before a0 Z = true) (ws : List Jvm.Cond) (vcs : Int32) (wI : Addr) (wA : Addr) (cA : Cell) (G : Gh Z vcs wI wA cA) (sa : Addr) (ca : Addr) (kc : ClassId) (c0 : Int32) (h0 : Heap) (n0 : Nat) (O0 : Old Z n0 h0) (EX : Exa Z h0 sa "java/lang/String") (FV : Fld Z h0 sa "java/lang/String" "value" "[B" .null) (FC : Fld Z h0 sa "java/lang/String" "coder" "B" (.int (0 : Int32))) (g_sa : n0 ≤ sa) (VC : Arv Z h0 ca kc .char (1 : Int32) [(.int c0)] (.int (0 : Int32))) (hne : sa ≠ ca) (hb0 : ¬ ((255 : Int32) < c0)) :
    MetFree l own_y34 (head1 (Jvm.Cond.code own_y34 jdk_42_method_3_code 2 none :: ws) ({ frames := 3, cells := 1, slots := 1, locals := 52 } : Room)) (fun aa' UU' => aa' = #[(.ref sa), (.ref ca)] ∧ Z.Warmed39 UU'.vm ∧ UU'.heap = h0) (fun _ _ _ _ _ => True) (fun _ UU' oo' VV' => ∃ v' L', oo' = .returned v' ∧ QrmS1_1 Z vcs wI wA cA sa ca kc c0 h0 n0 v' VV'.heap L' ∧ FrameEnd UU' oo' VV' L' ({ frames := 3, cells := 1, slots := 1, locals := 52 } : Room).cells ({ frames := 3, cells := 1, slots := 1, locals := 52 } : Room).slots) := by
  refine MetFree.of_bodySF (plainFor_of_name pn_1) hisR ?_
  intro p e s m args below meth c s₁ Bd hml0 hP hK
  obtain ⟨rfl, hZ, hh⟩ := hP
  have hml : c.maxLocals = 2 := hml0
  obtain ⟨hx, hby, hlk, hown, hnm, hret, X0, e0⟩ := own_hd Bd hh
  have N0 := Fr.nil n0
  have KC0 : Keep h0 h0 [sa] := Keep.refl _ _
  refine Go.body ?_
  obtain ⟨Pf, hPf⟩ : ∃ P, P = Fin' s below ({ frames := 3, cells := 1, slots := 1, locals := 52 } : Room).cells ({ frames := 3, cells := 1, slots := 1, locals := 52 } : Room).slots (QrmS1_1 Z vcs wI wA cA sa ca kc c0 h0 n0) := ⟨_, rfl⟩
  rw [← hPf]
  refine Go.cast (ef_rmS1_1 m) ?_
  have hw3 := own_w hw 3 rfl
  have hw7 := own_w hw 7 rfl
  have hw8 := own_w hw 8 rfl
  have hw10 := own_w hw 10 rfl
  show Go p.tables e below Pf (s₁.setTop (mkF m 0 #[vr sa, vr ca] []))
  refine Go.by' (fun t k => (XS.aloadN X0.here hx rfl (hb hby d1_0) rfl rfl (XS.aloadN X0.here hx rfl (hb hby d1_1) rfl rfl (XS.iconst X0.here hx rfl (hb hby d1_2) (XS.aloadN X0.here hx rfl (hb hby d1_3) rfl rfl (own_alen X0 hx hZ e0 VC rfl rfl (hb hby d1_4) (XS.aconstNull X0.here hx rfl (hb hby d1_5) k))))))) ?_
  obtain ⟨_, _, ⟨T357, L357, k357, n357⟩, -, X357, ⟨Lc357, hQ357, l357, y357, z357⟩, st357⟩ := X0.specialBack hx (y := own_y33) rfl hown (mvT hZ hw7) (mvT hZ hw8) (mvT hZ hw10) (by decide) (backOf (W := 0) (rmS4_1 l Z a0 hw [] vcs wI wA cA G sa ca kc c0 h0 n0 O0 EX FV FC g_sa VC hne hb0) hZ hw10 hw3 (by decide) (by decide)) (g := (mkF m 6 #[vr sa, vr ca] [.null, (.int (1 : Int32)), (.int (0 : Int32)), (.ref ca), (.ref sa)])) rfl (by rw [hml]; rfl) (Steps.refl _) (a := sa) (argsL := [(.ref ca), (.int (0 : Int32)), (.int (1 : Int32)), .null]) (rest := []) (lenOf pd_25 rfl) rfl (Nat.le_of_eq rfl) (hb hby d1_6) (fun _ _ => ⟨rfl, e0, (by decide : 0 + 1 ≤ _), (by decide : 0 + 1 ≤ _)⟩)
  dsimp only [Pt.U, Pt.locs, Pt.cells, Pt.slots] at X357 l357 y357 z357 st357 hQ357
  subst l357 y357 z357
  obtain ⟨rb_357, kb_357, rfl, N357q, K357, f357_0, f357_1, f357_2, f357_3, f357_4⟩ := hQ357
  have N357 := Fr.app N0 N357q
  obtain ⟨lc357, X357, N357⟩ := own_pack X357 N357
  refine Go.by' (fun t k => st357.trans k) ?_
  have g_rb_357 : n0 ≤ rb_357 := Nat.le_trans (own_le O0) f357_4
  have sz_rb_357 : h0.size ≤ rb_357 := Nat.le_trans KC0.1 f357_4
  have O357 := O0.keep K357 (allS g_sa all0)
  have KC357 : Keep h0 T357.heap [sa] := KC0.trans K357 (allS (Or.inl (List.mem_of_getElem? (i := 0) rfl)) all0)
  show Go p.tables e below Pf (T357.setTop (mkF m 9 #[vr sa, vr ca] []))
  rw [hPf]
  exact Go.retV' X357 hx hret hlk (hb hby d1_9) (by decide) (by decide) ⟨rb_357, kb_357, rfl, N357, KC357, f357_0, f357_1, f357_2, f357_3, sz_rb_357⟩
theorem ef_rmC5_2 (m : MethodId) {ca : Addr} {ba : Addr} : entryFrame m #[(.ref ca), (.int (0 : Int32)), (.ref ba), (.int (0 : Int32)), (.int (2 : Int32))] 7 = mkF m 0 #[vr ca, vi (0 : Int32), vr ba, vi (0 : Int32), vi (2 : Int32), .unset, .unset] [] := by first | (simp [entryFrame, mkF, argsToLocals, Value.category]; done) | rfl
def QrmC5_2 (Z : State) (vcs : Int32) (wI : Addr) (wA : Addr) (cA : Cell) (ca : Addr) (ba : Addr) (kc : ClassId) (kb : ClassId) (c0 : Int32) (c1 : Int32) (h0 : Heap) (n0 : Nat) (v : Option Value) (h : Heap) (L : List Loc) : Prop := (v = some (.int (2 : Int32))) ∧ (Fr n0 L) ∧ (Keep h0 h [ba]) ∧ (Arv Z h ba kb .byte (2 : Int32) [(.int (c0.toInt8.toInt32)), (.int (c1.toInt8.toInt32))] (.int (0 : Int32)))
theorem rmC5_2 (l : Launch) (Z : State) (a0 : Array Value) (hw : ∀ d ∈ tables_1, d.before a0 Z = true) (ws : List Jvm.Cond) (vcs : Int32) (wI : Addr) (wA : Addr) (cA : Cell) (G : Gh Z vcs wI wA cA) (ca : Addr) (ba : Addr) (kc : ClassId) (kb : ClassId) (c0 : Int32) (c1 : Int32) (h0 : Heap) (n0 : Nat) (O0 : Old Z n0 h0) (VC : Arv Z h0 ca kc .char (2 : Int32) [(.int c0), (.int c1)] (.int (0 : Int32))) (VB : Arv Z h0 ba kb .byte (2 : Int32) [(.int (0 : Int32)), (.int (0 : Int32))] (.int (0 : Int32))) (g_ba : n0 ≤ ba) (hne : ca ≠ ba) (hb0 : ¬ ((255 : Int32) < c0)) (hb1 : ¬ ((255 : Int32) < c1)) :
    MetFree l own_y30 (head1 (Jvm.Cond.code own_y30 jdk_52_method_21_code 7 (some .int) :: ws) ({ frames := 0, cells := 0, slots := 0, locals := 0 } : Room)) (fun aa' UU' => aa' = #[(.ref ca), (.int (0 : Int32)), (.ref ba), (.int (0 : Int32)), (.int (2 : Int32))] ∧ Z.Warmed39 UU'.vm ∧ UU'.heap = h0) (fun _ _ _ _ _ => True) (fun _ UU' oo' VV' => ∃ v' L', oo' = .returned v' ∧ QrmC5_2 Z vcs wI wA cA ca ba kc kb c0 c1 h0 n0 v' VV'.heap L' ∧ FrameEnd UU' oo' VV' L' ({ frames := 0, cells := 0, slots := 0, locals := 0 } : Room).cells ({ frames := 0, cells := 0, slots := 0, locals := 0 } : Room).slots) := by
  refine MetFree.of_bodySF (plainFor_of_name pn_7) hisR ?_
  intro p e s m args below meth c s₁ Bd hml0 hP hK
  obtain ⟨rfl, hZ, hh⟩ := hP
  have hml : c.maxLocals = 7 := hml0
  obtain ⟨hx, hby, hlk, hown, hnm, hret, X0, e0⟩ := own_hd Bd hh
  have N0 := Fr.nil n0
  have KC0 : Keep h0 h0 [ba] := Keep.refl _ _
  refine Go.body ?_
  obtain ⟨Pf, hPf⟩ : ∃ P, P = Fin' s below ({ frames := 0, cells := 0, slots := 0, locals := 0 } : Room).cells ({ frames := 0, cells := 0, slots := 0, locals := 0 } : Room).slots (QrmC5_2 Z vcs wI wA cA ca ba kc kb c0 c1 h0 n0) := ⟨_, rfl⟩
  rw [← hPf]
  refine Go.cast (ef_rmC5_2 m) ?_
  show Go p.tables e below Pf (s₁.setTop (mkF m 0 #[vr ca, vi (0 : Int32), vr ba, vi (0 : Int32), vi (2 : Int32), .unset, .unset] []))
  refine Go.by' (fun t k => (XS.iconst X0.here hx rfl (hb hby d7_0) (XS.istore X0.here hx rfl (hb hby d7_1) rfl (l' := #[vr ca, vi (0 : Int32), vr ba, vi (0 : Int32), vi (2 : Int32), vi (0 : Int32), .unset]) rfl (XS.iload X0.here hx rfl (hb hby d7_3) rfl (XS.iload X0.here hx rfl (hb hby d7_5) rfl (XS.icmpNo X0.here hx rfl (hb hby d7_7) rfl (tlt (by decide)).2.1 (XS.aloadN X0.here hx rfl (hb hby d7_10) rfl rfl (XS.iloadN X0.here hx rfl (hb hby d7_11) rfl (own_cal X0 hx hZ e0 VC (j := (0 : Int32)) (v := (.int c0)) ⟨by decide, by decide⟩ rfl rfl rfl (hb hby d7_12) k))))))))) ?_
  show Go p.tables e below Pf (s₁.setTop (mkF m 13 #[vr ca, vi (0 : Int32), vr ba, vi (0 : Int32), vi (2 : Int32), vi (0 : Int32), .unset] [(.int c0)]))
  refine Go.by' (fun t k => (XS.istore X0.here hx rfl (hb hby d7_13) rfl (l' := #[vr ca, vi (0 : Int32), vr ba, vi (0 : Int32), vi (2 : Int32), vi (0 : Int32), vi c0]) rfl (XS.iload X0.here hx rfl (hb hby d7_15) rfl (XS.sipush X0.here hx rfl (hb hby d7_17) (XS.icmpYes X0.here hx rfl (pc0 := 20) (pc' := 26) rfl (hb hby d7_20) rfl (flt hb0).2.2.2 (by decide) (by decide) (XS.aloadN X0.here hx rfl (hb hby d7_26) rfl rfl (XS.iloadN X0.here hx rfl (hb hby d7_27) rfl (XS.iload X0.here hx rfl (hb hby d7_28) rfl (XS.i2b X0.here hx rfl (hb hby d7_30) rfl k))))))))) ?_
  obtain ⟨cl359, Ar359, q359, S359, P359, H359, G359⟩ := (id VB)
  have hin359 : ¬ ((0 : Int32) < 0 ∨ cl359.slots.size ≤ ((0 : Int32)).toNatClampNeg) := inb_of S359 ⟨by decide, by decide⟩
  obtain ⟨T360, h360, X360, e360, W360, st360⟩ := stB X0 hx hZ e0 Ar359 (j := (0 : Int32)) hin359 (g := (mkF m 31 #[vr ca, vi (0 : Int32), vr ba, vi (0 : Int32), vi (2 : Int32), vi (0 : Int32), vi c0] [(.int (c0.toInt8.toInt32)), (.int (0 : Int32)), (.ref ba)])) rfl rfl (hb hby d7_31)
  refine Go.by' st360 ?_
  rw [own_bb] at W360
  have V360 : Arv Z h360 ba kb .byte (2 : Int32) [(.int (c0.toInt8.toInt32)), (.int (0 : Int32))] (Value.int (0 : Int32)) := Arv.set Ar359 q359 S359 P359 H359 G359 (fits_nar_byte _) W360 0 rfl (Nat.le_of_ble_eq_true rfl)
  have N360 := Fr.snoc X360 N0 g_ba
  obtain ⟨lc360, X360, N360⟩ := own_pack X360 N360
  have O360 := O0.wr W360 g_ba
  have KC360 : Keep h0 h360 [ba] := KC0.wr W360 (Or.inl (List.mem_of_getElem? (i := 0) rfl))
  show Go p.tables e below Pf (T360.setTop (mkF m 32 #[vr ca, vi (0 : Int32), vr ba, vi (0 : Int32), vi (2 : Int32), vi (0 : Int32), vi c0] []))
  refine Go.by' (fun t k => (XS.iinc X360.here hx rfl (hb hby d7_32) rfl (l' := #[vr ca, vi (1 : Int32), vr ba, vi (0 : Int32), vi (2 : Int32), vi (0 : Int32), vi c0]) rfl (XS.iinc X360.here hx rfl (hb hby d7_35) rfl (l' := #[vr ca, vi (1 : Int32), vr ba, vi (1 : Int32), vi (2 : Int32), vi (0 : Int32), vi c0]) rfl (XS.iinc X360.here hx rfl (hb hby d7_38) rfl (l' := #[vr ca, vi (1 : Int32), vr ba, vi (1 : Int32), vi (2 : Int32), vi (1 : Int32), vi c0]) rfl (XS.goto X360.here hx rfl (pc0 := 41) (pc' := 3) rfl (hb hby d7_41) (by decide) (by decide) (XS.iload X360.here hx rfl (hb hby d7_3) rfl (XS.iload X360.here hx rfl (hb hby d7_5) rfl (XS.icmpNo X360.here hx rfl (hb hby d7_7) rfl (tlt (by decide)).2.1 (XS.aloadN X360.here hx rfl (hb hby d7_10) rfl rfl k))))))))) ?_
  show Go p.tables e below Pf (T360.setTop (mkF m 11 #[vr ca, vi (1 : Int32), vr ba, vi (1 : Int32), vi (2 : Int32), vi (1 : Int32), vi c0] [(.ref ca)]))
  refine Go.by' (fun t k => (XS.iloadN X360.here hx rfl (hb hby d7_11) rfl (own_cal X360 hx hZ e360 (VC.other W360 hne) (j := (1 : Int32)) (v := (.int c1)) ⟨by decide, by decide⟩ rfl rfl rfl (hb hby d7_12) (XS.istore X360.here hx rfl (hb hby d7_13) rfl (l' := #[vr ca, vi (1 : Int32), vr ba, vi (1 : Int32), vi (2 : Int32), vi (1 : Int32), vi c1]) rfl (XS.iload X360.here hx rfl (hb hby d7_15) rfl (XS.sipush X360.here hx rfl (hb hby d7_17) (XS.icmpYes X360.here hx rfl (pc0 := 20) (pc' := 26) rfl (hb hby d7_20) rfl (flt hb1).2.2.2 (by decide) (by decide) (XS.aloadN X360.here hx rfl (hb hby d7_26) rfl rfl (XS.iloadN X360.here hx rfl (hb hby d7_27) rfl k))))))))) ?_
  show Go p.tables e below Pf (T360.setTop (mkF m 28 #[vr ca, vi (1 : Int32), vr ba, vi (1 : Int32), vi (2 : Int32), vi (1 : Int32), vi c1] [(.int (1 : Int32)), (.ref ba)]))
  refine Go.by' (fun t k => (XS.iload X360.here hx rfl (hb hby d7_28) rfl (XS.i2b X360.here hx rfl (hb hby d7_30) rfl k))) ?_
  obtain ⟨cl362, Ar362, q362, S362, P362, H362, G362⟩ := (id V360)
  have hin362 : ¬ ((1 : Int32) < 0 ∨ cl362.slots.size ≤ ((1 : Int32)).toNatClampNeg) := inb_of S362 ⟨by decide, by decide⟩
  obtain ⟨T363, h363, X363, e363, W363, st363⟩ := stB X360 hx hZ e360 Ar362 (j := (1 : Int32)) hin362 (g := (mkF m 31 #[vr ca, vi (1 : Int32), vr ba, vi (1 : Int32), vi (2 : Int32), vi (1 : Int32), vi c1] [(.int (c1.toInt8.toInt32)), (.int (1 : Int32)), (.ref ba)])) rfl rfl (hb hby d7_31)
  refine Go.by' st363 ?_
  rw [own_bb] at W363
  have V363 : Arv Z h363 ba kb .byte (2 : Int32) [(.int (c0.toInt8.toInt32)), (.int (c1.toInt8.toInt32))] (Value.int (0 : Int32)) := Arv.set Ar362 q362 S362 P362 H362 G362 (fits_nar_byte _) W363 1 rfl (Nat.le_of_ble_eq_true rfl)
  have N363 := Fr.snoc X363 N360 g_ba
  obtain ⟨lc363, X363, N363⟩ := own_pack X363 N363
  have O363 := O360.wr W363 g_ba
  have KC363 : Keep h0 h363 [ba] := KC360.wr W363 (Or.inl (List.mem_of_getElem? (i := 0) rfl))
  show Go p.tables e below Pf (T363.setTop (mkF m 32 #[vr ca, vi (1 : Int32), vr ba, vi (1 : Int32), vi (2 : Int32), vi (1 : Int32), vi c1] []))
  refine Go.by' (fun t k => (XS.iinc X363.here hx rfl (hb hby d7_32) rfl (l' := #[vr ca, vi (2 : Int32), vr ba, vi (1 : Int32), vi (2 : Int32), vi (1 : Int32), vi c1]) rfl (XS.iinc X363.here hx rfl (hb hby d7_35) rfl (l' := #[vr ca, vi (2 : Int32), vr ba, vi (2 : Int32), vi (2 : Int32), vi (1 : Int32), vi c1]) rfl (XS.iinc X363.here hx rfl (hb hby d7_38) rfl (l' := #[vr ca, vi (2 : Int32), vr ba, vi (2 : Int32), vi (2 : Int32), vi (2 : Int32), vi c1]) rfl (XS.goto X363.here hx rfl (pc0 := 41) (pc' := 3) rfl (hb hby d7_41) (by decide) (by decide) (XS.iload X363.here hx rfl (hb hby d7_3) rfl (XS.iload X363.here hx rfl (hb hby d7_5) rfl (XS.icmpYes X363.here hx rfl (pc0 := 7) (pc' := 44) rfl (hb hby d7_7) rfl (flt (by decide)).2.1 (by decide) (by decide) (XS.iload X363.here hx rfl (hb hby d7_44) rfl k))))))))) ?_
  show Go p.tables e below Pf (T363.setTop (mkF m 46 #[vr ca, vi (2 : Int32), vr ba, vi (2 : Int32), vi (2 : Int32), vi (2 : Int32), vi c1] [(.int (2 : Int32))]))
  rw [hPf]
  exact Go.retI' X363 hx hret hlk (by simp) rfl (hb hby d7_46) (by decide) (by decide) ⟨rfl, N363, (by rw [e363]; exact KC363), (by rw [e363]; exact V363)⟩
theorem ef_rmC3_2 (m : MethodId) {ca : Addr} : entryFrame m #[(.ref ca), (.int (0 : Int32)), (.int (2 : Int32))] 6 = mkF m 0 #[vr ca, vi (0 : Int32), vi (2 : Int32), .unset, .unset, .unset] [] := by first | (simp [entryFrame, mkF, argsToLocals, Value.category]; done) | rfl
def QrmC3_2 (Z : State) (vcs : Int32) (wI : Addr) (wA : Addr) (cA : Cell) (ca : Addr) (kc : ClassId) (c0 : Int32) (c1 : Int32) (h0 : Heap) (n0 : Nat) (v : Option Value) (h : Heap) (L : List Loc) : Prop := ∃ (rb : Addr) (kb : ClassId), (v = some (.ref rb)) ∧ (Fr n0 L) ∧ (Keep h0 h []) ∧ (Arv Z h rb kb .byte (2 : Int32) [(.int (c0.toInt8.toInt32)), (.int (c1.toInt8.toInt32))] (.int (0 : Int32))) ∧ (h0.size ≤ rb)
theorem rmC3_2 (l : Launch) (Z : State) (a0 : Array Value) (hw : ∀ d ∈ tables_1, d.before a0 Z = true) (ws : List Jvm.Cond) (vcs : Int32) (wI : Addr) (wA : Addr) (cA : Cell) (G : Gh Z vcs wI wA cA) (ca : Addr) (kc : ClassId) (c0 : Int32) (c1 : Int32) (h0 : Heap) (n0 : Nat) (O0 : Old Z n0 h0) (VC : Arv Z h0 ca kc .char (2 : Int32) [(.int c0), (.int c1)] (.int (0 : Int32))) (hb0 : ¬ ((255 : Int32) < c0)) (hb1 : ¬ ((255 : Int32) < c1)) :
    MetFree l own_y31 (head1 (Jvm.Cond.code own_y31 jdk_52_method_16_code 6 (some (.array .byte)) :: ws) ({ frames := 1, cells := 1, slots := 2, locals := 18 } : Room)) (fun aa' UU' => aa' = #[(.ref ca), (.int (0 : Int32)), (.int (2 : Int32))] ∧ Z.Warmed39 UU'.vm ∧ UU'.heap = h0) (fun _ _ _ _ _ => True) (fun _ UU' oo' VV' => ∃ v' L', oo' = .returned v' ∧ QrmC3_2 Z vcs wI wA cA ca kc c0 c1 h0 n0 v' VV'.heap L' ∧ FrameEnd UU' oo' VV' L' ({ frames := 1, cells := 1, slots := 2, locals := 18 } : Room).cells ({ frames := 1, cells := 1, slots := 2, locals := 18 } : Room).slots) := by
  refine MetFree.of_bodySF (plainFor_of_name pn_6) hisR ?_
  intro p e s m args below meth c s₁ Bd hml0 hP hK
  obtain ⟨rfl, hZ, hh⟩ := hP
  have hml : c.maxLocals = 6 := hml0
  obtain ⟨hx, hby, hlk, hown, hnm, hret, X0, e0⟩ := own_hd Bd hh
  have N0 := Fr.nil n0
  have KC0 : Keep h0 h0 [] := Keep.refl _ _
  refine Go.body ?_
  obtain ⟨Pf, hPf⟩ : ∃ P, P = Fin' s below ({ frames := 1, cells := 1, slots := 2, locals := 18 } : Room).cells ({ frames := 1, cells := 1, slots := 2, locals := 18 } : Room).slots (QrmC3_2 Z vcs wI wA cA ca kc c0 c1 h0 n0) := ⟨_, rfl⟩
  rw [← hPf]
  refine Go.cast (ef_rmC3_2 m) ?_
  have hw15 := own_w hw 15 rfl
  have hw34 := own_w hw 34 rfl
  have hw36 := own_w hw 36 rfl
  have hw37 := own_w hw 37 rfl
  have hw38 := own_w hw 38 rfl
  show Go p.tables e below Pf (s₁.setTop (mkF m 0 #[vr ca, vi (0 : Int32), vi (2 : Int32), .unset, .unset, .unset] []))
  refine Go.by' (fun t k => (XS.iloadN X0.here hx rfl (hb hby d6_0) rfl k)) ?_
  obtain ⟨T364, h364, k364, X364, e364, E364, A364, st364⟩ := newP (aty := .byte) X0 hx hZ hw15 e0 (g := (mkF m 1 #[vr ca, vi (0 : Int32), vi (2 : Int32), .unset, .unset, .unset] [(.int (2 : Int32))])) rfl (hb hby d6_1) rfl (by decide) (cap := 2) (by decide) (by decide) (by decide) (by decide)
  obtain ⟨b364, g364⟩ : ∃ z, z = h0.size := ⟨_, rfl⟩
  rw [← g364] at A364 st364
  refine Go.by' st364 ?_
  have g_b364 : n0 ≤ b364 := Nat.le_trans (own_le O0) (Nat.le_of_eq g364.symm)
  have sz_b364 : h0.size ≤ b364 := Nat.le_trans KC0.1 (Nat.le_of_eq g364.symm)
  have O364 := O0.ext E364
  have KC364 : Keep h0 h364 [] := KC0.ext E364
  have V364 : Arv Z h364 b364 k364 .byte (2 : Int32) [(.int (0 : Int32)), (.int (0 : Int32))] (Value.int (0 : Int32)) := (Arv.new A364 (by decide)).pad (pad_rep [] (Value.int (0 : Int32)) 2)
  show Go p.tables e below Pf (T364.setTop (mkF m 3 #[vr ca, vi (0 : Int32), vi (2 : Int32), .unset, .unset, .unset] [(.ref b364)]))
  refine Go.by' (fun t k => (XS.astoreN X364.here hx rfl (hb hby d6_3) rfl rfl (l' := #[vr ca, vi (0 : Int32), vi (2 : Int32), vr b364, .unset, .unset]) rfl (XS.aloadN X364.here hx rfl (hb hby d6_4) rfl rfl (XS.iloadN X364.here hx rfl (hb hby d6_5) rfl (XS.aloadN X364.here hx rfl (hb hby d6_6) rfl rfl (XS.iconst X364.here hx rfl (hb hby d6_7) (XS.iloadN X364.here hx rfl (hb hby d6_8) rfl k))))))) ?_
  obtain ⟨_, _, ⟨T365, L365, k365, n365⟩, -, X365, ⟨Lc365, hQ365, l365, y365, z365⟩, st365⟩ := Jvm.LawKit.callS X364 hx (y := own_y30) hown (mvT hZ hw36) (mvT hZ hw37) (mvT hZ hw34) (mvT hZ hw38) (by decide) (backOf (W := 0) (rmC5_2 l Z a0 hw [] vcs wI wA cA G ca b364 kc k364 c0 c1 h364 n0 O364 (VC.ext E364) V364 g_b364 (Nat.ne_of_lt (Nat.lt_of_lt_of_le VC.lt (Nat.le_of_eq g364.symm))) hb0 hb1) hZ hw38 hw34 (by decide) (by decide)) (g := (mkF m 9 #[vr ca, vi (0 : Int32), vi (2 : Int32), vr b364, .unset, .unset] [(.int (2 : Int32)), (.int (0 : Int32)), (.ref b364), (.int (0 : Int32)), (.ref ca)])) rfl (by rw [hml]; rfl) (argsL := [(.ref ca), (.int (0 : Int32)), (.ref b364), (.int (0 : Int32)), (.int (2 : Int32))]) (rest := []) (lenOf pd_22 rfl) rfl (Nat.le_of_eq rfl) (hb hby d6_9) (fun _ _ => ⟨rfl, e364, (by decide : 1 + 0 ≤ _), (by decide : 2 + 0 ≤ _)⟩)
  dsimp only [Pt.U, Pt.locs, Pt.cells, Pt.slots] at X365 l365 y365 z365 st365 hQ365
  subst l365 y365 z365
  obtain ⟨rfl, N365q, K365, f365_0⟩ := hQ365
  have N365 := Fr.app N0 N365q
  obtain ⟨lc365, X365, N365⟩ := own_pack X365 N365
  refine Go.by' st365 ?_
  have O365 := O364.keep K365 (allS g_b364 all0)
  have KC365 : Keep h0 T365.heap [] := KC364.trans K365 (allS (Or.inr sz_b364) all0)
  show Go p.tables e below Pf (T365.setTop (mkF m 12 #[vr ca, vi (0 : Int32), vi (2 : Int32), vr b364, .unset, .unset] [(.int (2 : Int32))]))
  refine Go.by' (fun t k => (XS.istore X365.here hx rfl (hb hby d6_12) rfl (l' := #[vr ca, vi (0 : Int32), vi (2 : Int32), vr b364, vi (2 : Int32), .unset]) rfl (XS.iload X365.here hx rfl (hb hby d6_14) rfl (XS.iloadN X365.here hx rfl (hb hby d6_16) rfl (XS.icmpYes X365.here hx rfl (pc0 := 17) (pc' := 57) rfl (hb hby d6_17) rfl (teq (by decide)).1 (by decide) (by decide) (XS.aloadN X365.here hx rfl (hb hby d6_57) rfl rfl k)))))) ?_
  show Go p.tables e below Pf (T365.setTop (mkF m 58 #[vr ca, vi (0 : Int32), vi (2 : Int32), vr b364, vi (2 : Int32), .unset] [(.ref b364)]))
  rw [hPf]
  exact Go.retA' X365 hx hret hlk rfl rfl (hb hby d6_58) (by decide) (by decide) ⟨b364, k364, rfl, N365, KC365, f365_0, sz_b364⟩
theorem ef_rmCL_2 (m : MethodId) {ba : Addr} : entryFrame m #[(.ref ba), (.int (2 : Int32))] 2 = mkF m 0 #[vr ba, vi (2 : Int32)] [] := by first | (simp [entryFrame, mkF, argsToLocals, Value.category]; done) | rfl
def QrmCL_2 (Z : State) (vcs : Int32) (wI : Addr) (wA : Addr) (cA : Cell) (ba : Addr) (kb : ClassId) (x0 : Value) (x1 : Value) (h0 : Heap) (n0 : Nat) (v : Option Value) (h : Heap) (L : List Loc) : Prop := (v = some (.int (0 : Int32))) ∧ (L = []) ∧ (h = h0)
theorem rmCL_2 (l : Launch) (Z : State) (a0 : Array Value) (hw : ∀ d ∈ tables_1, d.before a0 Z = true) (ws : List Jvm.Cond) (vcs : Int32) (wI : Addr) (wA : Addr) (cA : Cell) (G : Gh Z vcs wI wA cA) (ba : Addr) (kb : ClassId) (x0 : Value) (x1 : Value) (h0 : Heap) (n0 : Nat) (O0 : Old Z n0 h0) (VB : Arv Z h0 ba kb .byte (2 : Int32) [x0, x1] (.int (0 : Int32))) :
    MetFree l own_y32 (head1 (Jvm.Cond.code own_y32 jdk_52_method_15_code 2 (some .byte) :: ws) ({ frames := 0, cells := 0, slots := 0, locals := 0 } : Room)) (fun aa' UU' => aa' = #[(.ref ba), (.int (2 : Int32))] ∧ Z.Warmed39 UU'.vm ∧ UU'.heap = h0) (fun _ _ _ _ _ => True) (fun _ UU' oo' VV' => ∃ v' L', oo' = .returned v' ∧ QrmCL_2 Z vcs wI wA cA ba kb x0 x1 h0 n0 v' VV'.heap L' ∧ FrameEnd UU' oo' VV' L' ({ frames := 0, cells := 0, slots := 0, locals := 0 } : Room).cells ({ frames := 0, cells := 0, slots := 0, locals := 0 } : Room).slots) := by
  refine MetFree.of_bodySF (plainFor_of_name pn_8) hisR ?_
  intro p e s m args below meth c s₁ Bd hml0 hP hK
  obtain ⟨rfl, hZ, hh⟩ := hP
  have hml : c.maxLocals = 2 := hml0
  obtain ⟨hx, hby, hlk, hown, hnm, hret, X0, e0⟩ := own_hd Bd hh
  have N0 := Fr.nil n0
  refine Go.body ?_
  obtain ⟨Pf, hPf⟩ : ∃ P, P = Fin' s below ({ frames := 0, cells := 0, slots := 0, locals := 0 } : Room).cells ({ frames := 0, cells := 0, slots := 0, locals := 0 } : Room).slots (QrmCL_2 Z vcs wI wA cA ba kb x0 x1 h0 n0) := ⟨_, rfl⟩
  rw [← hPf]
  refine Go.cast (ef_rmCL_2 m) ?_
  show Go p.tables e below Pf (s₁.setTop (mkF m 0 #[vr ba, vi (2 : Int32)] []))
  refine Go.by' (fun t k => (XS.iloadN X0.here hx rfl (hb hby d8_0) rfl (XS.aloadN X0.here hx rfl (hb hby d8_1) rfl rfl (own_alen X0 hx hZ e0 VB rfl rfl (hb hby d8_2) (XS.isub X0.here hx rfl (hb hby d8_3) rfl (XS.bipush X0.here hx rfl (hb hby d8_4) (XS.iushr X0.here hx rfl (hb hby d8_6) rfl (XS.i2b X0.here hx rfl (hb hby d8_7) rfl k)))))))) ?_
  show Go p.tables e below Pf (s₁.setTop (mkF m 8 #[vr ba, vi (2 : Int32)] [(.int (0 : Int32))]))
  rw [hPf]
  exact Go.retI' X0 hx hret hlk (by simp) rfl (hb hby d8_8) (by decide) (by decide) ⟨rfl, rfl, e0⟩
theorem ef_rmS4_2 (m : MethodId) {sa : Addr} {ca : Addr} : entryFrame m #[(.ref sa), (.ref ca), (.int (0 : Int32)), (.int (2 : Int32)), .null] 6 = mkF m 0 #[vr sa, vr ca, vi (0 : Int32), vi (2 : Int32), .val .null, .unset] [] := by first | (simp [entryFrame, mkF, argsToLocals, Value.category]; done) | rfl
def QrmS4_2 (Z : State) (vcs : Int32) (wI : Addr) (wA : Addr) (cA : Cell) (sa : Addr) (ca : Addr) (kc : ClassId) (c0 : Int32) (c1 : Int32) (h0 : Heap) (n0 : Nat) (v : Option Value) (h : Heap) (L : List Loc) : Prop := ∃ (rb : Addr) (kb : ClassId), (v = none) ∧ (Fr n0 L) ∧ (Keep h0 h [sa]) ∧ (Exa Z h sa "java/lang/String") ∧ (Fld Z h sa "java/lang/String" "value" "[B" (.ref rb)) ∧ (Fld Z h sa "java/lang/String" "coder" "B" (.int (0 : Int32))) ∧ (Arv Z h rb kb .byte (2 : Int32) [(.int (c0.toInt8.toInt32)), (.int (c1.toInt8.toInt32))] (.int (0 : Int32))) ∧ (h0.size ≤ rb)
theorem rmS4_2 (l : Launch) (Z : State) (a0 : Array Value) (hw : ∀ d ∈ tables_1, d.before a0 Z = true) (ws : List Jvm.Cond) (vcs : Int32) (wI : Addr) (wA : Addr) (cA : Cell) (G : Gh Z vcs wI wA cA) (sa : Addr) (ca : Addr) (kc : ClassId) (c0 : Int32) (c1 : Int32) (h0 : Heap) (n0 : Nat) (O0 : Old Z n0 h0) (EX : Exa Z h0 sa "java/lang/String") (FV : Fld Z h0 sa "java/lang/String" "value" "[B" .null) (FC : Fld Z h0 sa "java/lang/String" "coder" "B" (.int (0 : Int32))) (g_sa : n0 ≤ sa) (VC : Arv Z h0 ca kc .char (2 : Int32) [(.int c0), (.int c1)] (.int (0 : Int32))) (hne : sa ≠ ca) (hb0 : ¬ ((255 : Int32) < c0)) (hb1 : ¬ ((255 : Int32) < c1)) :
    MetFree l own_y33 (head1 (Jvm.Cond.code own_y33 jdk_42_method_149_code 6 none :: ws) ({ frames := 2, cells := 1, slots := 2, locals := 35 } : Room)) (fun aa' UU' => aa' = #[(.ref sa), (.ref ca), (.int (0 : Int32)), (.int (2 : Int32)), .null] ∧ Z.Warmed39 UU'.vm ∧ UU'.heap = h0) (fun _ _ _ _ _ => True) (fun _ UU' oo' VV' => ∃ v' L', oo' = .returned v' ∧ QrmS4_2 Z vcs wI wA cA sa ca kc c0 c1 h0 n0 v' VV'.heap L' ∧ FrameEnd UU' oo' VV' L' ({ frames := 2, cells := 1, slots := 2, locals := 35 } : Room).cells ({ frames := 2, cells := 1, slots := 2, locals := 35 } : Room).slots) := by
  refine MetFree.of_bodySF (plainFor_of_name pn_2) hisR ?_
  intro p e s m args below meth c s₁ Bd hml0 hP hK
  obtain ⟨rfl, hZ, hh⟩ := hP
  have hml : c.maxLocals = 6 := hml0
  obtain ⟨hx, hby, hlk, hown, hnm, hret, X0, e0⟩ := own_hd Bd hh
  have N0 := Fr.nil n0
  have KC0 : Keep h0 h0 [sa] := Keep.refl _ _
  refine Go.body ?_
  obtain ⟨Pf, hPf⟩ : ∃ P, P = Fin' s below ({ frames := 2, cells := 1, slots := 2, locals := 35 } : Room).cells ({ frames := 2, cells := 1, slots := 2, locals := 35 } : Room).slots (QrmS4_2 Z vcs wI wA cA sa ca kc c0 c1 h0 n0) := ⟨_, rfl⟩
  rw [← hPf]
  refine Go.cast (ef_rmS4_2 m) ?_
  have hw2 := own_w hw 2 rfl
  have hw11 := own_w hw 11 rfl
  have hw12 := own_w hw 12 rfl
  have hw13 := own_w hw 13 rfl
  have hw16 := own_w hw 16 rfl
  have hw17 := own_w hw 17 rfl
  have hw20 := own_w hw 20 rfl
  have hw21 := own_w hw 21 rfl
  have hw31 := own_w hw 31 rfl
  have hw32 := own_w hw 32 rfl
  have hw33 := own_w hw 33 rfl
  have hw34 := own_w hw 34 rfl
  have hw35 := own_w hw 35 rfl
  have hw39 := own_w hw 39 rfl
  have hw40 := own_w hw 40 rfl
  have hw41 := own_w hw 41 rfl
  show Go p.tables e below Pf (s₁.setTop (mkF m 0 #[vr sa, vr ca, vi (0 : Int32), vi (2 : Int32), .val .null, .unset] []))
  refine Go.by' (fun t k => (XS.aloadN X0.here hx rfl (hb hby d2_0) rfl rfl k)) ?_
  obtain ⟨T367, X367, e367, st367⟩ := initO X0 hx hZ hown hw11 hw12 hw13 e0 (g := (mkF m 1 #[vr sa, vr ca, vi (0 : Int32), vi (2 : Int32), .val .null, .unset] [(.ref sa)])) rfl (by rw [hml]; rfl) rfl (hb hby d2_1) (by decide) (W := 0) (Nat.le_of_eq rfl) (by decide)
  refine Go.by' st367 ?_
  show Go p.tables e below Pf (T367.setTop (mkF m 4 #[vr sa, vr ca, vi (0 : Int32), vi (2 : Int32), .val .null, .unset] []))
  refine Go.by' (fun t k => (XS.iloadN X367.here hx rfl (hb hby d2_4) rfl (XS.ifYes X367.here hx rfl (pc0 := 5) (pc' := 27) rfl (hb hby d2_5) rfl ((if0 _ _).trans (feq (by decide)).2) (by decide) (by decide) k))) ?_
  obtain ⟨T368, X368, e368, st368⟩ := getS2 X367 hx hZ hown (host := "") (Or.inl hw31) Via.refl e367 (G.1.ext O0.2) (g := (mkF m 27 #[vr sa, vr ca, vi (0 : Int32), vi (2 : Int32), .val .null, .unset] [])) rfl (hb hby d2_27)
  refine Go.by' st368 ?_
  show Go p.tables e below Pf (T368.setTop (mkF m 30 #[vr sa, vr ca, vi (0 : Int32), vi (2 : Int32), .val .null, .unset] [(.int vcs)]))
  refine Go.by' (fun t k => (XS.ifNo X368.here hx rfl (hb hby d2_30) rfl ((if0 _ _).trans (feq G.2.1).1) (XS.aloadN X368.here hx rfl (hb hby d2_33) rfl rfl (XS.iloadN X368.here hx rfl (hb hby d2_34) rfl (XS.iloadN X368.here hx rfl (hb hby d2_35) rfl k))))) ?_
  obtain ⟨_, _, ⟨T369, L369, k369, n369⟩, -, X369, ⟨Lc369, hQ369, l369, y369, z369⟩, st369⟩ := Jvm.LawKit.callS X368 hx (y := own_y31) hown (mvT hZ hw32) (mvT hZ hw33) (mvT hZ hw34) (mvT hZ hw35) (by decide) (backOf (W := 0) (rmC3_2 l Z a0 hw [] vcs wI wA cA G ca kc c0 c1 h0 n0 O0 VC hb0 hb1) hZ hw35 hw34 (by decide) (by decide)) (g := (mkF m 36 #[vr sa, vr ca, vi (0 : Int32), vi (2 : Int32), .val .null, .unset] [(.int (2 : Int32)), (.int (0 : Int32)), (.ref ca)])) rfl (by rw [hml]; rfl) (argsL := [(.ref ca), (.int (0 : Int32)), (.int (2 : Int32))]) (rest := []) (lenOf pd_23 rfl) rfl (Nat.le_of_eq rfl) (hb hby d2_36) (fun _ _ => ⟨rfl, e368, (by decide : 0 + 1 ≤ _), (by decide : 0 + 2 ≤ _)⟩)
  dsimp only [Pt.U, Pt.locs, Pt.cells, Pt.slots] at X369 l369 y369 z369 st369 hQ369
  subst l369 y369 z369
  obtain ⟨rb_369, kb_369, rfl, N369q, K369, f369_0, f369_1⟩ := hQ369
  have N369 := Fr.app N0 N369q
  obtain ⟨lc369, X369, N369⟩ := own_pack X369 N369
  refine Go.by' st369 ?_
  have g_rb_369 : n0 ≤ rb_369 := Nat.le_trans (own_le O0) f369_1
  have sz_rb_369 : h0.size ≤ rb_369 := Nat.le_trans KC0.1 f369_1
  have O369 := O0.keep K369 all0
  have KC369 : Keep h0 T369.heap [sa] := KC0.trans K369 all0
  show Go p.tables e below Pf (T369.setTop (mkF m 39 #[vr sa, vr ca, vi (0 : Int32), vi (2 : Int32), .val .null, .unset] [(.ref rb_369)]))
  refine Go.by' (fun t k => (XS.astore X369.here hx rfl (hb hby d2_39) rfl rfl (l' := #[vr sa, vr ca, vi (0 : Int32), vi (2 : Int32), .val .null, vr rb_369]) rfl (XS.aloadN X369.here hx rfl (hb hby d2_41) rfl rfl (XS.aload X369.here hx rfl (hb hby d2_42) rfl rfl (XS.iloadN X369.here hx rfl (hb hby d2_44) rfl k))))) ?_
  obtain ⟨_, _, ⟨T370, L370, k370, n370⟩, -, X370, ⟨Lc370, hQ370, l370, y370, z370⟩, st370⟩ := Jvm.LawKit.callS X369 hx (y := own_y32) hown (mvT hZ hw39) (mvT hZ hw40) (mvT hZ hw34) (mvT hZ hw41) (by decide) (backOf (W := 1) (rmCL_2 l Z a0 hw [] vcs wI wA cA G rb_369 kb_369 ((Value.int (c0.toInt8.toInt32))) ((Value.int (c1.toInt8.toInt32))) T369.heap n0 O369 f369_0) hZ hw41 hw34 (by decide) (by decide)) (g := (mkF m 45 #[vr sa, vr ca, vi (0 : Int32), vi (2 : Int32), .val .null, vr rb_369] [(.int (2 : Int32)), (.ref rb_369), (.ref sa)])) rfl (by rw [hml]; rfl) (argsL := [(.ref rb_369), (.int (2 : Int32))]) (rest := [(.ref sa)]) (lenOf pd_24 rfl) rfl (Nat.le_of_eq rfl) (hb hby d2_45) (fun _ _ => ⟨rfl, rfl, (by decide : 1 + 0 ≤ _), (by decide : 2 + 0 ≤ _)⟩)
  dsimp only [Pt.U, Pt.locs, Pt.cells, Pt.slots] at X370 l370 y370 z370 st370 hQ370
  subst l370 y370 z370
  obtain ⟨rfl, rfl, e370⟩ := hQ370
  try replace X370 := own_nil X370
  refine Go.by' st370 ?_
  obtain ⟨T371, h371, X371, e371, W371, st371⟩ := putFN X370 hx hZ hown hw21 Via.refl e370 (FC.keep K369 nin0) (EX.keep K369) (Or.inr ⟨hw17, rfl, hnm⟩) hw2 (ty := .byte) (v' := (.int (0 : Int32))) (by decide) rfl rfl (g := (mkF m 48 #[vr sa, vr ca, vi (0 : Int32), vi (2 : Int32), .val .null, vr rb_369] [(.int (0 : Int32)), (.ref sa)])) rfl rfl (hb hby d2_48)
  refine Go.by' st371 ?_
  have Fw371 : Fld Z h371 sa "java/lang/String" "coder" "B" (Value.int (0 : Int32)) := (FC.keep K369 nin0).same W371
  have N371 := Fr.snoc X371 N369 g_sa
  obtain ⟨lc371, X371, N371⟩ := own_pack X371 N371
  have O371 := O369.wr W371 g_sa
  have KC371 : Keep h0 h371 [sa] := KC369.wr W371 (Or.inl (List.mem_of_getElem? (i := 0) rfl))
  show Go p.tables e below Pf (T371.setTop (mkF m 51 #[vr sa, vr ca, vi (0 : Int32), vi (2 : Int32), .val .null, vr rb_369] []))
  refine Go.by' (fun t k => (XS.aloadN X371.here hx rfl (hb hby d2_51) rfl rfl (XS.aload X371.here hx rfl (hb hby d2_52) rfl rfl k))) ?_
  have c372 := ((EX.keep K369).wr W371)
  have c373 := ((FV.keep K369 nin0).other W371 (Or.inr (slot_ne (Or.inr hw16) (Or.inr hw17) (by decide) (t := (.array .byte)) (t' := .byte) (by decide) (by decide))))
  obtain ⟨T374, h374, X374, e374, W374, st374⟩ := putF X371 hx hZ hown (host := "") (Or.inl hw20) Via.refl e371 c373 c372 (Or.inr ⟨hw16, rfl, hnm⟩) hw2 (ty := (.array .byte)) (by decide) rfl rfl (g := (mkF m 54 #[vr sa, vr ca, vi (0 : Int32), vi (2 : Int32), .val .null, vr rb_369] [(.ref rb_369), (.ref sa)])) rfl rfl (hb hby d2_54)
  refine Go.by' st374 ?_
  have Fw374 : Fld Z h374 sa "java/lang/String" "value" "[B" (Value.ref rb_369) := c373.same W374
  have N374 := Fr.snoc X374 N371 g_sa
  obtain ⟨lc374, X374, N374⟩ := own_pack X374 N374
  have O374 := O371.wr W374 g_sa
  have KC374 : Keep h0 h374 [sa] := KC371.wr W374 (Or.inl (List.mem_of_getElem? (i := 0) rfl))
  have c375 := ((f369_0.other W371 (Ne.symm (Nat.ne_of_lt (Nat.lt_of_lt_of_le EX.lt f369_1)))).other W374 (Ne.symm (Nat.ne_of_lt (Nat.lt_of_lt_of_le EX.lt f369_1))))
  show Go p.tables e below Pf (T374.setTop (mkF m 57 #[vr sa, vr ca, vi (0 : Int32), vi (2 : Int32), .val .null, vr rb_369] []))
  rw [hPf]
  exact Go.retV' X374 hx hret hlk (hb hby d2_57) (by decide) (by decide) ⟨rb_369, kb_369, rfl, N374, (by rw [e374]; exact KC374), (by rw [e374]; exact (c372.wr W374)), (by rw [e374]; exact Fw374), (by rw [e374]; exact (Fw371.other W374 (Or.inr (slot_ne (Or.inr hw17) (Or.inr hw16) (by decide) (t := .byte) (t' := (.array .byte)) (by decide) (by decide))))), (by rw [e374]; exact c375), sz_rb_369⟩
theorem ef_rmS1_2 (m : MethodId) {sa : Addr} {ca : Addr} : entryFrame m #[(.ref sa), (.ref ca)] 2 = mkF m 0 #[vr sa, vr ca] [] := by first | (simp [entryFrame, mkF, argsToLocals, Value.category]; done) | rfl
def QrmS1_2 (Z : State) (vcs : Int32) (wI : Addr) (wA : Addr) (cA : Cell) (sa : Addr) (ca : Addr) (kc : ClassId) (c0 : Int32) (c1 : Int32) (h0 : Heap) (n0 : Nat) (v : Option Value) (h : Heap) (L : List Loc) : Prop := ∃ (rb : Addr) (kb : ClassId), (v = none) ∧ (Fr n0 L) ∧ (Keep h0 h [sa]) ∧ (Exa Z h sa "java/lang/String") ∧ (Fld Z h sa "java/lang/String" "value" "[B" (.ref rb)) ∧ (Fld Z h sa "java/lang/String" "coder" "B" (.int (0 : Int32))) ∧ (Arv Z h rb kb .byte (2 : Int32) [(.int (c0.toInt8.toInt32)), (.int (c1.toInt8.toInt32))] (.int (0 : Int32))) ∧ (h0.size ≤ rb)
theorem rmS1_2 (l : Launch) (Z : State) (a0 : Array Value) (hw : ∀ d ∈ tables_1, d.before a0 Z = true) (ws : List Jvm.Cond) (vcs : Int32) (wI : Addr) (wA : Addr) (cA : Cell) (G : Gh Z vcs wI wA cA) (sa : Addr) (ca : Addr) (kc : ClassId) (c0 : Int32) (c1 : Int32) (h0 : Heap) (n0 : Nat) (O0 : Old Z n0 h0) (EX : Exa Z h0 sa "java/lang/String") (FV : Fld Z h0 sa "java/lang/String" "value" "[B" .null) (FC : Fld Z h0 sa "java/lang/String" "coder" "B" (.int (0 : Int32))) (g_sa : n0 ≤ sa) (VC : Arv Z h0 ca kc .char (2 : Int32) [(.int c0), (.int c1)] (.int (0 : Int32))) (hne : sa ≠ ca) (hb0 : ¬ ((255 : Int32) < c0)) (hb1 : ¬ ((255 : Int32) < c1)) :
    MetFree l own_y34 (head1 (Jvm.Cond.code own_y34 jdk_42_method_3_code 2 none :: ws) ({ frames := 3, cells := 1, slots := 2, locals := 52 } : Room)) (fun aa' UU' => aa' = #[(.ref sa), (.ref ca)] ∧ Z.Warmed39 UU'.vm ∧ UU'.heap = h0) (fun _ _ _ _ _ => True) (fun _ UU' oo' VV' => ∃ v' L', oo' = .returned v' ∧ QrmS1_2 Z vcs wI wA cA sa ca kc c0 c1 h0 n0 v' VV'.heap L' ∧ FrameEnd UU' oo' VV' L' ({ frames := 3, cells := 1, slots := 2, locals := 52 } : Room).cells ({ frames := 3, cells := 1, slots := 2, locals := 52 } : Room).slots) := by
  refine MetFree.of_bodySF (plainFor_of_name pn_1) hisR ?_
  intro p e s m args below meth c s₁ Bd hml0 hP hK
  obtain ⟨rfl, hZ, hh⟩ := hP
  have hml : c.maxLocals = 2 := hml0
  obtain ⟨hx, hby, hlk, hown, hnm, hret, X0, e0⟩ := own_hd Bd hh
  have N0 := Fr.nil n0
  have KC0 : Keep h0 h0 [sa] := Keep.refl _ _
  refine Go.body ?_
  obtain ⟨Pf, hPf⟩ : ∃ P, P = Fin' s below ({ frames := 3, cells := 1, slots := 2, locals := 52 } : Room).cells ({ frames := 3, cells := 1, slots := 2, locals := 52 } : Room).slots (QrmS1_2 Z vcs wI wA cA sa ca kc c0 c1 h0 n0) := ⟨_, rfl⟩
  rw [← hPf]
  refine Go.cast (ef_rmS1_2 m) ?_
  have hw3 := own_w hw 3 rfl
  have hw7 := own_w hw 7 rfl
  have hw8 := own_w hw 8 rfl
  have hw10 := own_w hw 10 rfl
  show Go p.tables e below Pf (s₁.setTop (mkF m 0 #[vr sa, vr ca] []))
  refine Go.by' (fun t k => (XS.aloadN X0.here hx rfl (hb hby d1_0) rfl rfl (XS.aloadN X0.here hx rfl (hb hby d1_1) rfl rfl (XS.iconst X0.here hx rfl (hb hby d1_2) (XS.aloadN X0.here hx rfl (hb hby d1_3) rfl rfl (own_alen X0 hx hZ e0 VC rfl rfl (hb hby d1_4) (XS.aconstNull X0.here hx rfl (hb hby d1_5) k))))))) ?_
  obtain ⟨_, _, ⟨T377, L377, k377, n377⟩, -, X377, ⟨Lc377, hQ377, l377, y377, z377⟩, st377⟩ := X0.specialBack hx (y := own_y33) rfl hown (mvT hZ hw7) (mvT hZ hw8) (mvT hZ hw10) (by decide) (backOf (W := 0) (rmS4_2 l Z a0 hw [] vcs wI wA cA G sa ca kc c0 c1 h0 n0 O0 EX FV FC g_sa VC hne hb0 hb1) hZ hw10 hw3 (by decide) (by decide)) (g := (mkF m 6 #[vr sa, vr ca] [.null, (.int (2 : Int32)), (.int (0 : Int32)), (.ref ca), (.ref sa)])) rfl (by rw [hml]; rfl) (Steps.refl _) (a := sa) (argsL := [(.ref ca), (.int (0 : Int32)), (.int (2 : Int32)), .null]) (rest := []) (lenOf pd_25 rfl) rfl (Nat.le_of_eq rfl) (hb hby d1_6) (fun _ _ => ⟨rfl, e0, (by decide : 0 + 1 ≤ _), (by decide : 0 + 2 ≤ _)⟩)
  dsimp only [Pt.U, Pt.locs, Pt.cells, Pt.slots] at X377 l377 y377 z377 st377 hQ377
  subst l377 y377 z377
  obtain ⟨rb_377, kb_377, rfl, N377q, K377, f377_0, f377_1, f377_2, f377_3, f377_4⟩ := hQ377
  have N377 := Fr.app N0 N377q
  obtain ⟨lc377, X377, N377⟩ := own_pack X377 N377
  refine Go.by' (fun t k => st377.trans k) ?_
  have g_rb_377 : n0 ≤ rb_377 := Nat.le_trans (own_le O0) f377_4
  have sz_rb_377 : h0.size ≤ rb_377 := Nat.le_trans KC0.1 f377_4
  have O377 := O0.keep K377 (allS g_sa all0)
  have KC377 : Keep h0 T377.heap [sa] := KC0.trans K377 (allS (Or.inl (List.mem_of_getElem? (i := 0) rfl)) all0)
  show Go p.tables e below Pf (T377.setTop (mkF m 9 #[vr sa, vr ca] []))
  rw [hPf]
  exact Go.retV' X377 hx hret hlk (hb hby d1_9) (by decide) (by decide) ⟨rb_377, kb_377, rfl, N377, KC377, f377_0, f377_1, f377_2, f377_3, sz_rb_377⟩
theorem ef_rmC5_3 (m : MethodId) {ca : Addr} {ba : Addr} : entryFrame m #[(.ref ca), (.int (0 : Int32)), (.ref ba), (.int (0 : Int32)), (.int (3 : Int32))] 7 = mkF m 0 #[vr ca, vi (0 : Int32), vr ba, vi (0 : Int32), vi (3 : Int32), .unset, .unset] [] := by first | (simp [entryFrame, mkF, argsToLocals, Value.category]; done) | rfl
def QrmC5_3 (Z : State) (vcs : Int32) (wI : Addr) (wA : Addr) (cA : Cell) (ca : Addr) (ba : Addr) (kc : ClassId) (kb : ClassId) (c0 : Int32) (c1 : Int32) (c2 : Int32) (h0 : Heap) (n0 : Nat) (v : Option Value) (h : Heap) (L : List Loc) : Prop := (v = some (.int (3 : Int32))) ∧ (Fr n0 L) ∧ (Keep h0 h [ba]) ∧ (Arv Z h ba kb .byte (3 : Int32) [(.int (c0.toInt8.toInt32)), (.int (c1.toInt8.toInt32)), (.int (c2.toInt8.toInt32))] (.int (0 : Int32)))
theorem rmC5_3 (l : Launch) (Z : State) (a0 : Array Value) (hw : ∀ d ∈ tables_1, d.before a0 Z = true) (ws : List Jvm.Cond) (vcs : Int32) (wI : Addr) (wA : Addr) (cA : Cell) (G : Gh Z vcs wI wA cA) (ca : Addr) (ba : Addr) (kc : ClassId) (kb : ClassId) (c0 : Int32) (c1 : Int32) (c2 : Int32) (h0 : Heap) (n0 : Nat) (O0 : Old Z n0 h0) (VC : Arv Z h0 ca kc .char (3 : Int32) [(.int c0), (.int c1), (.int c2)] (.int (0 : Int32))) (VB : Arv Z h0 ba kb .byte (3 : Int32) [(.int (0 : Int32)), (.int (0 : Int32)), (.int (0 : Int32))] (.int (0 : Int32))) (g_ba : n0 ≤ ba) (hne : ca ≠ ba) (hb0 : ¬ ((255 : Int32) < c0)) (hb1 : ¬ ((255 : Int32) < c1)) (hb2 : ¬ ((255 : Int32) < c2)) :
    MetFree l own_y30 (head1 (Jvm.Cond.code own_y30 jdk_52_method_21_code 7 (some .int) :: ws) ({ frames := 0, cells := 0, slots := 0, locals := 0 } : Room)) (fun aa' UU' => aa' = #[(.ref ca), (.int (0 : Int32)), (.ref ba), (.int (0 : Int32)), (.int (3 : Int32))] ∧ Z.Warmed39 UU'.vm ∧ UU'.heap = h0) (fun _ _ _ _ _ => True) (fun _ UU' oo' VV' => ∃ v' L', oo' = .returned v' ∧ QrmC5_3 Z vcs wI wA cA ca ba kc kb c0 c1 c2 h0 n0 v' VV'.heap L' ∧ FrameEnd UU' oo' VV' L' ({ frames := 0, cells := 0, slots := 0, locals := 0 } : Room).cells ({ frames := 0, cells := 0, slots := 0, locals := 0 } : Room).slots) := by
  refine MetFree.of_bodySF (plainFor_of_name pn_7) hisR ?_
  intro p e s m args below meth c s₁ Bd hml0 hP hK
  obtain ⟨rfl, hZ, hh⟩ := hP
  have hml : c.maxLocals = 7 := hml0
  obtain ⟨hx, hby, hlk, hown, hnm, hret, X0, e0⟩ := own_hd Bd hh
  have N0 := Fr.nil n0
  have KC0 : Keep h0 h0 [ba] := Keep.refl _ _
  refine Go.body ?_
  obtain ⟨Pf, hPf⟩ : ∃ P, P = Fin' s below ({ frames := 0, cells := 0, slots := 0, locals := 0 } : Room).cells ({ frames := 0, cells := 0, slots := 0, locals := 0 } : Room).slots (QrmC5_3 Z vcs wI wA cA ca ba kc kb c0 c1 c2 h0 n0) := ⟨_, rfl⟩
  rw [← hPf]
  refine Go.cast (ef_rmC5_3 m) ?_
  show Go p.tables e below Pf (s₁.setTop (mkF m 0 #[vr ca, vi (0 : Int32), vr ba, vi (0 : Int32), vi (3 : Int32), .unset, .unset] []))
  refine Go.by' (fun t k => (XS.iconst X0.here hx rfl (hb hby d7_0) (XS.istore X0.here hx rfl (hb hby d7_1) rfl (l' := #[vr ca, vi (0 : Int32), vr ba, vi (0 : Int32), vi (3 : Int32), vi (0 : Int32), .unset]) rfl (XS.iload X0.here hx rfl (hb hby d7_3) rfl (XS.iload X0.here hx rfl (hb hby d7_5) rfl (XS.icmpNo X0.here hx rfl (hb hby d7_7) rfl (tlt (by decide)).2.1 (XS.aloadN X0.here hx rfl (hb hby d7_10) rfl rfl (XS.iloadN X0.here hx rfl (hb hby d7_11) rfl (own_cal X0 hx hZ e0 VC (j := (0 : Int32)) (v := (.int c0)) ⟨by decide, by decide⟩ rfl rfl rfl (hb hby d7_12) k))))))))) ?_
  show Go p.tables e below Pf (s₁.setTop (mkF m 13 #[vr ca, vi (0 : Int32), vr ba, vi (0 : Int32), vi (3 : Int32), vi (0 : Int32), .unset] [(.int c0)]))
  refine Go.by' (fun t k => (XS.istore X0.here hx rfl (hb hby d7_13) rfl (l' := #[vr ca, vi (0 : Int32), vr ba, vi (0 : Int32), vi (3 : Int32), vi (0 : Int32), vi c0]) rfl (XS.iload X0.here hx rfl (hb hby d7_15) rfl (XS.sipush X0.here hx rfl (hb hby d7_17) (XS.icmpYes X0.here hx rfl (pc0 := 20) (pc' := 26) rfl (hb hby d7_20) rfl (flt hb0).2.2.2 (by decide) (by decide) (XS.aloadN X0.here hx rfl (hb hby d7_26) rfl rfl (XS.iloadN X0.here hx rfl (hb hby d7_27) rfl (XS.iload X0.here hx rfl (hb hby d7_28) rfl (XS.i2b X0.here hx rfl (hb hby d7_30) rfl k))))))))) ?_
  obtain ⟨cl379, Ar379, q379, S379, P379, H379, G379⟩ := (id VB)
  have hin379 : ¬ ((0 : Int32) < 0 ∨ cl379.slots.size ≤ ((0 : Int32)).toNatClampNeg) := inb_of S379 ⟨by decide, by decide⟩
  obtain ⟨T380, h380, X380, e380, W380, st380⟩ := stB X0 hx hZ e0 Ar379 (j := (0 : Int32)) hin379 (g := (mkF m 31 #[vr ca, vi (0 : Int32), vr ba, vi (0 : Int32), vi (3 : Int32), vi (0 : Int32), vi c0] [(.int (c0.toInt8.toInt32)), (.int (0 : Int32)), (.ref ba)])) rfl rfl (hb hby d7_31)
  refine Go.by' st380 ?_
  rw [own_bb] at W380
  have V380 : Arv Z h380 ba kb .byte (3 : Int32) [(.int (c0.toInt8.toInt32)), (.int (0 : Int32)), (.int (0 : Int32))] (Value.int (0 : Int32)) := Arv.set Ar379 q379 S379 P379 H379 G379 (fits_nar_byte _) W380 0 rfl (Nat.le_of_ble_eq_true rfl)
  have N380 := Fr.snoc X380 N0 g_ba
  obtain ⟨lc380, X380, N380⟩ := own_pack X380 N380
  have O380 := O0.wr W380 g_ba
  have KC380 : Keep h0 h380 [ba] := KC0.wr W380 (Or.inl (List.mem_of_getElem? (i := 0) rfl))
  show Go p.tables e below Pf (T380.setTop (mkF m 32 #[vr ca, vi (0 : Int32), vr ba, vi (0 : Int32), vi (3 : Int32), vi (0 : Int32), vi c0] []))
  refine Go.by' (fun t k => (XS.iinc X380.here hx rfl (hb hby d7_32) rfl (l' := #[vr ca, vi (1 : Int32), vr ba, vi (0 : Int32), vi (3 : Int32), vi (0 : Int32), vi c0]) rfl (XS.iinc X380.here hx rfl (hb hby d7_35) rfl (l' := #[vr ca, vi (1 : Int32), vr ba, vi (1 : Int32), vi (3 : Int32), vi (0 : Int32), vi c0]) rfl (XS.iinc X380.here hx rfl (hb hby d7_38) rfl (l' := #[vr ca, vi (1 : Int32), vr ba, vi (1 : Int32), vi (3 : Int32), vi (1 : Int32), vi c0]) rfl (XS.goto X380.here hx rfl (pc0 := 41) (pc' := 3) rfl (hb hby d7_41) (by decide) (by decide) (XS.iload X380.here hx rfl (hb hby d7_3) rfl (XS.iload X380.here hx rfl (hb hby d7_5) rfl (XS.icmpNo X380.here hx rfl (hb hby d7_7) rfl (tlt (by decide)).2.1 (XS.aloadN X380.here hx rfl (hb hby d7_10) rfl rfl k))))))))) ?_
  show Go p.tables e below Pf (T380.setTop (mkF m 11 #[vr ca, vi (1 : Int32), vr ba, vi (1 : Int32), vi (3 : Int32), vi (1 : Int32), vi c0] [(.ref ca)]))
  refine Go.by' (fun t k => (XS.iloadN X380.here hx rfl (hb hby d7_11) rfl (own_cal X380 hx hZ e380 (VC.other W380 hne) (j := (1 : Int32)) (v := (.int c1)) ⟨by decide, by decide⟩ rfl rfl rfl (hb hby d7_12) (XS.istore X380.here hx rfl (hb hby d7_13) rfl (l' := #[vr ca, vi (1 : Int32), vr ba, vi (1 : Int32), vi (3 : Int32), vi (1 : Int32), vi c1]) rfl (XS.iload X380.here hx rfl (hb hby d7_15) rfl (XS.sipush X380.here hx rfl (hb hby d7_17) (XS.icmpYes X380.here hx rfl (pc0 := 20) (pc' := 26) rfl (hb hby d7_20) rfl (flt hb1).2.2.2 (by decide) (by decide) (XS.aloadN X380.here hx rfl (hb hby d7_26) rfl rfl (XS.iloadN X380.here hx rfl (hb hby d7_27) rfl k))))))))) ?_
  show Go p.tables e below Pf (T380.setTop (mkF m 28 #[vr ca, vi (1 : Int32), vr ba, vi (1 : Int32), vi (3 : Int32), vi (1 : Int32), vi c1] [(.int (1 : Int32)), (.ref ba)]))
  refine Go.by' (fun t k => (XS.iload X380.here hx rfl (hb hby d7_28) rfl (XS.i2b X380.here hx rfl (hb hby d7_30) rfl k))) ?_
  obtain ⟨cl382, Ar382, q382, S382, P382, H382, G382⟩ := (id V380)
  have hin382 : ¬ ((1 : Int32) < 0 ∨ cl382.slots.size ≤ ((1 : Int32)).toNatClampNeg) := inb_of S382 ⟨by decide, by decide⟩
  obtain ⟨T383, h383, X383, e383, W383, st383⟩ := stB X380 hx hZ e380 Ar382 (j := (1 : Int32)) hin382 (g := (mkF m 31 #[vr ca, vi (1 : Int32), vr ba, vi (1 : Int32), vi (3 : Int32), vi (1 : Int32), vi c1] [(.int (c1.toInt8.toInt32)), (.int (1 : Int32)), (.ref ba)])) rfl rfl (hb hby d7_31)
  refine Go.by' st383 ?_
  rw [own_bb] at W383
  have V383 : Arv Z h383 ba kb .byte (3 : Int32) [(.int (c0.toInt8.toInt32)), (.int (c1.toInt8.toInt32)), (.int (0 : Int32))] (Value.int (0 : Int32)) := Arv.set Ar382 q382 S382 P382 H382 G382 (fits_nar_byte _) W383 1 rfl (Nat.le_of_ble_eq_true rfl)
  have N383 := Fr.snoc X383 N380 g_ba
  obtain ⟨lc383, X383, N383⟩ := own_pack X383 N383
  have O383 := O380.wr W383 g_ba
  have KC383 : Keep h0 h383 [ba] := KC380.wr W383 (Or.inl (List.mem_of_getElem? (i := 0) rfl))
  show Go p.tables e below Pf (T383.setTop (mkF m 32 #[vr ca, vi (1 : Int32), vr ba, vi (1 : Int32), vi (3 : Int32), vi (1 : Int32), vi c1] []))
  refine Go.by' (fun t k => (XS.iinc X383.here hx rfl (hb hby d7_32) rfl (l' := #[vr ca, vi (2 : Int32), vr ba, vi (1 : Int32), vi (3 : Int32), vi (1 : Int32), vi c1]) rfl (XS.iinc X383.here hx rfl (hb hby d7_35) rfl (l' := #[vr ca, vi (2 : Int32), vr ba, vi (2 : Int32), vi (3 : Int32), vi (1 : Int32), vi c1]) rfl (XS.iinc X383.here hx rfl (hb hby d7_38) rfl (l' := #[vr ca, vi (2 : Int32), vr ba, vi (2 : Int32), vi (3 : Int32), vi (2 : Int32), vi c1]) rfl (XS.goto X383.here hx rfl (pc0 := 41) (pc' := 3) rfl (hb hby d7_41) (by decide) (by decide) (XS.iload X383.here hx rfl (hb hby d7_3) rfl (XS.iload X383.here hx rfl (hb hby d7_5) rfl (XS.icmpNo X383.here hx rfl (hb hby d7_7) rfl (tlt (by decide)).2.1 (XS.aloadN X383.here hx rfl (hb hby d7_10) rfl rfl k))))))))) ?_
  show Go p.tables e below Pf (T383.setTop (mkF m 11 #[vr ca, vi (2 : Int32), vr ba, vi (2 : Int32), vi (3 : Int32), vi (2 : Int32), vi c1] [(.ref ca)]))
  refine Go.by' (fun t k => (XS.iloadN X383.here hx rfl (hb hby d7_11) rfl k)) ?_
  have c384 := ((VC.other W380 hne).other W383 hne)
  show Go p.tables e below Pf (T383.setTop (mkF m 12 #[vr ca, vi (2 : Int32), vr ba, vi (2 : Int32), vi (3 : Int32), vi (2 : Int32), vi c1] [(.int (2 : Int32)), (.ref ca)]))
  refine Go.by' (fun t k => (own_cal X383 hx hZ e383 c384 (j := (2 : Int32)) (v := (.int c2)) ⟨by decide, by decide⟩ rfl rfl rfl (hb hby d7_12) (XS.istore X383.here hx rfl (hb hby d7_13) rfl (l' := #[vr ca, vi (2 : Int32), vr ba, vi (2 : Int32), vi (3 : Int32), vi (2 : Int32), vi c2]) rfl (XS.iload X383.here hx rfl (hb hby d7_15) rfl (XS.sipush X383.here hx rfl (hb hby d7_17) (XS.icmpYes X383.here hx rfl (pc0 := 20) (pc' := 26) rfl (hb hby d7_20) rfl (flt hb2).2.2.2 (by decide) (by decide) (XS.aloadN X383.here hx rfl (hb hby d7_26) rfl rfl (XS.iloadN X383.here hx rfl (hb hby d7_27) rfl (XS.iload X383.here hx rfl (hb hby d7_28) rfl k))))))))) ?_
  show Go p.tables e below Pf (T383.setTop (mkF m 30 #[vr ca, vi (2 : Int32), vr ba, vi (2 : Int32), vi (3 : Int32), vi (2 : Int32), vi c2] [(.int c2), (.int (2 : Int32)), (.ref ba)]))
  refine Go.by' (fun t k => (XS.i2b X383.here hx rfl (hb hby d7_30) rfl k)) ?_
  obtain ⟨cl386, Ar386, q386, S386, P386, H386, G386⟩ := (id V383)
  have hin386 : ¬ ((2 : Int32) < 0 ∨ cl386.slots.size ≤ ((2 : Int32)).toNatClampNeg) := inb_of S386 ⟨by decide, by decide⟩
  obtain ⟨T387, h387, X387, e387, W387, st387⟩ := stB X383 hx hZ e383 Ar386 (j := (2 : Int32)) hin386 (g := (mkF m 31 #[vr ca, vi (2 : Int32), vr ba, vi (2 : Int32), vi (3 : Int32), vi (2 : Int32), vi c2] [(.int (c2.toInt8.toInt32)), (.int (2 : Int32)), (.ref ba)])) rfl rfl (hb hby d7_31)
  refine Go.by' st387 ?_
  rw [own_bb] at W387
  have V387 : Arv Z h387 ba kb .byte (3 : Int32) [(.int (c0.toInt8.toInt32)), (.int (c1.toInt8.toInt32)), (.int (c2.toInt8.toInt32))] (Value.int (0 : Int32)) := Arv.set Ar386 q386 S386 P386 H386 G386 (fits_nar_byte _) W387 2 rfl (Nat.le_of_ble_eq_true rfl)
  have N387 := Fr.snoc X387 N383 g_ba
  obtain ⟨lc387, X387, N387⟩ := own_pack X387 N387
  have O387 := O383.wr W387 g_ba
  have KC387 : Keep h0 h387 [ba] := KC383.wr W387 (Or.inl (List.mem_of_getElem? (i := 0) rfl))
  show Go p.tables e below Pf (T387.setTop (mkF m 32 #[vr ca, vi (2 : Int32), vr ba, vi (2 : Int32), vi (3 : Int32), vi (2 : Int32), vi c2] []))
  refine Go.by' (fun t k => (XS.iinc X387.here hx rfl (hb hby d7_32) rfl (l' := #[vr ca, vi (3 : Int32), vr ba, vi (2 : Int32), vi (3 : Int32), vi (2 : Int32), vi c2]) rfl (XS.iinc X387.here hx rfl (hb hby d7_35) rfl (l' := #[vr ca, vi (3 : Int32), vr ba, vi (3 : Int32), vi (3 : Int32), vi (2 : Int32), vi c2]) rfl (XS.iinc X387.here hx rfl (hb hby d7_38) rfl (l' := #[vr ca, vi (3 : Int32), vr ba, vi (3 : Int32), vi (3 : Int32), vi (3 : Int32), vi c2]) rfl (XS.goto X387.here hx rfl (pc0 := 41) (pc' := 3) rfl (hb hby d7_41) (by decide) (by decide) (XS.iload X387.here hx rfl (hb hby d7_3) rfl (XS.iload X387.here hx rfl (hb hby d7_5) rfl (XS.icmpYes X387.here hx rfl (pc0 := 7) (pc' := 44) rfl (hb hby d7_7) rfl (flt (by decide)).2.1 (by decide) (by decide) (XS.iload X387.here hx rfl (hb hby d7_44) rfl k))))))))) ?_
  show Go p.tables e below Pf (T387.setTop (mkF m 46 #[vr ca, vi (3 : Int32), vr ba, vi (3 : Int32), vi (3 : Int32), vi (3 : Int32), vi c2] [(.int (3 : Int32))]))
  rw [hPf]
  exact Go.retI' X387 hx hret hlk (by simp) rfl (hb hby d7_46) (by decide) (by decide) ⟨rfl, N387, (by rw [e387]; exact KC387), (by rw [e387]; exact V387)⟩
theorem ef_rmC3_3 (m : MethodId) {ca : Addr} : entryFrame m #[(.ref ca), (.int (0 : Int32)), (.int (3 : Int32))] 6 = mkF m 0 #[vr ca, vi (0 : Int32), vi (3 : Int32), .unset, .unset, .unset] [] := by first | (simp [entryFrame, mkF, argsToLocals, Value.category]; done) | rfl
def QrmC3_3 (Z : State) (vcs : Int32) (wI : Addr) (wA : Addr) (cA : Cell) (ca : Addr) (kc : ClassId) (c0 : Int32) (c1 : Int32) (c2 : Int32) (h0 : Heap) (n0 : Nat) (v : Option Value) (h : Heap) (L : List Loc) : Prop := ∃ (rb : Addr) (kb : ClassId), (v = some (.ref rb)) ∧ (Fr n0 L) ∧ (Keep h0 h []) ∧ (Arv Z h rb kb .byte (3 : Int32) [(.int (c0.toInt8.toInt32)), (.int (c1.toInt8.toInt32)), (.int (c2.toInt8.toInt32))] (.int (0 : Int32))) ∧ (h0.size ≤ rb)
theorem rmC3_3 (l : Launch) (Z : State) (a0 : Array Value) (hw : ∀ d ∈ tables_1, d.before a0 Z = true) (ws : List Jvm.Cond) (vcs : Int32) (wI : Addr) (wA : Addr) (cA : Cell) (G : Gh Z vcs wI wA cA) (ca : Addr) (kc : ClassId) (c0 : Int32) (c1 : Int32) (c2 : Int32) (h0 : Heap) (n0 : Nat) (O0 : Old Z n0 h0) (VC : Arv Z h0 ca kc .char (3 : Int32) [(.int c0), (.int c1), (.int c2)] (.int (0 : Int32))) (hb0 : ¬ ((255 : Int32) < c0)) (hb1 : ¬ ((255 : Int32) < c1)) (hb2 : ¬ ((255 : Int32) < c2)) :
    MetFree l own_y31 (head1 (Jvm.Cond.code own_y31 jdk_52_method_16_code 6 (some (.array .byte)) :: ws) ({ frames := 1, cells := 1, slots := 3, locals := 18 } : Room)) (fun aa' UU' => aa' = #[(.ref ca), (.int (0 : Int32)), (.int (3 : Int32))] ∧ Z.Warmed39 UU'.vm ∧ UU'.heap = h0) (fun _ _ _ _ _ => True) (fun _ UU' oo' VV' => ∃ v' L', oo' = .returned v' ∧ QrmC3_3 Z vcs wI wA cA ca kc c0 c1 c2 h0 n0 v' VV'.heap L' ∧ FrameEnd UU' oo' VV' L' ({ frames := 1, cells := 1, slots := 3, locals := 18 } : Room).cells ({ frames := 1, cells := 1, slots := 3, locals := 18 } : Room).slots) := by
  refine MetFree.of_bodySF (plainFor_of_name pn_6) hisR ?_
  intro p e s m args below meth c s₁ Bd hml0 hP hK
  obtain ⟨rfl, hZ, hh⟩ := hP
  have hml : c.maxLocals = 6 := hml0
  obtain ⟨hx, hby, hlk, hown, hnm, hret, X0, e0⟩ := own_hd Bd hh
  have N0 := Fr.nil n0
  have KC0 : Keep h0 h0 [] := Keep.refl _ _
  refine Go.body ?_
  obtain ⟨Pf, hPf⟩ : ∃ P, P = Fin' s below ({ frames := 1, cells := 1, slots := 3, locals := 18 } : Room).cells ({ frames := 1, cells := 1, slots := 3, locals := 18 } : Room).slots (QrmC3_3 Z vcs wI wA cA ca kc c0 c1 c2 h0 n0) := ⟨_, rfl⟩
  rw [← hPf]
  refine Go.cast (ef_rmC3_3 m) ?_
  have hw15 := own_w hw 15 rfl
  have hw34 := own_w hw 34 rfl
  have hw36 := own_w hw 36 rfl
  have hw37 := own_w hw 37 rfl
  have hw38 := own_w hw 38 rfl
  show Go p.tables e below Pf (s₁.setTop (mkF m 0 #[vr ca, vi (0 : Int32), vi (3 : Int32), .unset, .unset, .unset] []))
  refine Go.by' (fun t k => (XS.iloadN X0.here hx rfl (hb hby d6_0) rfl k)) ?_
  obtain ⟨T388, h388, k388, X388, e388, E388, A388, st388⟩ := newP (aty := .byte) X0 hx hZ hw15 e0 (g := (mkF m 1 #[vr ca, vi (0 : Int32), vi (3 : Int32), .unset, .unset, .unset] [(.int (3 : Int32))])) rfl (hb hby d6_1) rfl (by decide) (cap := 3) (by decide) (by decide) (by decide) (by decide)
  obtain ⟨b388, g388⟩ : ∃ z, z = h0.size := ⟨_, rfl⟩
  rw [← g388] at A388 st388
  refine Go.by' st388 ?_
  have g_b388 : n0 ≤ b388 := Nat.le_trans (own_le O0) (Nat.le_of_eq g388.symm)
  have sz_b388 : h0.size ≤ b388 := Nat.le_trans KC0.1 (Nat.le_of_eq g388.symm)
  have O388 := O0.ext E388
  have KC388 : Keep h0 h388 [] := KC0.ext E388
  have V388 : Arv Z h388 b388 k388 .byte (3 : Int32) [(.int (0 : Int32)), (.int (0 : Int32)), (.int (0 : Int32))] (Value.int (0 : Int32)) := (Arv.new A388 (by decide)).pad (pad_rep [] (Value.int (0 : Int32)) 3)
  show Go p.tables e below Pf (T388.setTop (mkF m 3 #[vr ca, vi (0 : Int32), vi (3 : Int32), .unset, .unset, .unset] [(.ref b388)]))
  refine Go.by' (fun t k => (XS.astoreN X388.here hx rfl (hb hby d6_3) rfl rfl (l' := #[vr ca, vi (0 : Int32), vi (3 : Int32), vr b388, .unset, .unset]) rfl (XS.aloadN X388.here hx rfl (hb hby d6_4) rfl rfl (XS.iloadN X388.here hx rfl (hb hby d6_5) rfl (XS.aloadN X388.here hx rfl (hb hby d6_6) rfl rfl (XS.iconst X388.here hx rfl (hb hby d6_7) (XS.iloadN X388.here hx rfl (hb hby d6_8) rfl k))))))) ?_
  obtain ⟨_, _, ⟨T389, L389, k389, n389⟩, -, X389, ⟨Lc389, hQ389, l389, y389, z389⟩, st389⟩ := Jvm.LawKit.callS X388 hx (y := own_y30) hown (mvT hZ hw36) (mvT hZ hw37) (mvT hZ hw34) (mvT hZ hw38) (by decide) (backOf (W := 0) (rmC5_3 l Z a0 hw [] vcs wI wA cA G ca b388 kc k388 c0 c1 c2 h388 n0 O388 (VC.ext E388) V388 g_b388 (Nat.ne_of_lt (Nat.lt_of_lt_of_le VC.lt (Nat.le_of_eq g388.symm))) hb0 hb1 hb2) hZ hw38 hw34 (by decide) (by decide)) (g := (mkF m 9 #[vr ca, vi (0 : Int32), vi (3 : Int32), vr b388, .unset, .unset] [(.int (3 : Int32)), (.int (0 : Int32)), (.ref b388), (.int (0 : Int32)), (.ref ca)])) rfl (by rw [hml]; rfl) (argsL := [(.ref ca), (.int (0 : Int32)), (.ref b388), (.int (0 : Int32)), (.int (3 : Int32))]) (rest := []) (lenOf pd_22 rfl) rfl (Nat.le_of_eq rfl) (hb hby d6_9) (fun _ _ => ⟨rfl, e388, (by decide : 1 + 0 ≤ _), (by decide : 3 + 0 ≤ _)⟩)
  dsimp only [Pt.U, Pt.locs, Pt.cells, Pt.slots] at X389 l389 y389 z389 st389 hQ389
  subst l389 y389 z389
  obtain ⟨rfl, N389q, K389, f389_0⟩ := hQ389
  have N389 := Fr.app N0 N389q
  obtain ⟨lc389, X389, N389⟩ := own_pack X389 N389
  refine Go.by' st389 ?_
  have O389 := O388.keep K389 (allS g_b388 all0)
  have KC389 : Keep h0 T389.heap [] := KC388.trans K389 (allS (Or.inr sz_b388) all0)
  show Go p.tables e below Pf (T389.setTop (mkF m 12 #[vr ca, vi (0 : Int32), vi (3 : Int32), vr b388, .unset, .unset] [(.int (3 : Int32))]))
  refine Go.by' (fun t k => (XS.istore X389.here hx rfl (hb hby d6_12) rfl (l' := #[vr ca, vi (0 : Int32), vi (3 : Int32), vr b388, vi (3 : Int32), .unset]) rfl (XS.iload X389.here hx rfl (hb hby d6_14) rfl (XS.iloadN X389.here hx rfl (hb hby d6_16) rfl (XS.icmpYes X389.here hx rfl (pc0 := 17) (pc' := 57) rfl (hb hby d6_17) rfl (teq (by decide)).1 (by decide) (by decide) (XS.aloadN X389.here hx rfl (hb hby d6_57) rfl rfl k)))))) ?_
  show Go p.tables e below Pf (T389.setTop (mkF m 58 #[vr ca, vi (0 : Int32), vi (3 : Int32), vr b388, vi (3 : Int32), .unset] [(.ref b388)]))
  rw [hPf]
  exact Go.retA' X389 hx hret hlk rfl rfl (hb hby d6_58) (by decide) (by decide) ⟨b388, k388, rfl, N389, KC389, f389_0, sz_b388⟩
theorem ef_rmCL_3 (m : MethodId) {ba : Addr} : entryFrame m #[(.ref ba), (.int (3 : Int32))] 2 = mkF m 0 #[vr ba, vi (3 : Int32)] [] := by first | (simp [entryFrame, mkF, argsToLocals, Value.category]; done) | rfl
def QrmCL_3 (Z : State) (vcs : Int32) (wI : Addr) (wA : Addr) (cA : Cell) (ba : Addr) (kb : ClassId) (x0 : Value) (x1 : Value) (x2 : Value) (h0 : Heap) (n0 : Nat) (v : Option Value) (h : Heap) (L : List Loc) : Prop := (v = some (.int (0 : Int32))) ∧ (L = []) ∧ (h = h0)
theorem rmCL_3 (l : Launch) (Z : State) (a0 : Array Value) (hw : ∀ d ∈ tables_1, d.before a0 Z = true) (ws : List Jvm.Cond) (vcs : Int32) (wI : Addr) (wA : Addr) (cA : Cell) (G : Gh Z vcs wI wA cA) (ba : Addr) (kb : ClassId) (x0 : Value) (x1 : Value) (x2 : Value) (h0 : Heap) (n0 : Nat) (O0 : Old Z n0 h0) (VB : Arv Z h0 ba kb .byte (3 : Int32) [x0, x1, x2] (.int (0 : Int32))) :
    MetFree l own_y32 (head1 (Jvm.Cond.code own_y32 jdk_52_method_15_code 2 (some .byte) :: ws) ({ frames := 0, cells := 0, slots := 0, locals := 0 } : Room)) (fun aa' UU' => aa' = #[(.ref ba), (.int (3 : Int32))] ∧ Z.Warmed39 UU'.vm ∧ UU'.heap = h0) (fun _ _ _ _ _ => True) (fun _ UU' oo' VV' => ∃ v' L', oo' = .returned v' ∧ QrmCL_3 Z vcs wI wA cA ba kb x0 x1 x2 h0 n0 v' VV'.heap L' ∧ FrameEnd UU' oo' VV' L' ({ frames := 0, cells := 0, slots := 0, locals := 0 } : Room).cells ({ frames := 0, cells := 0, slots := 0, locals := 0 } : Room).slots) := by
  refine MetFree.of_bodySF (plainFor_of_name pn_8) hisR ?_
  intro p e s m args below meth c s₁ Bd hml0 hP hK
  obtain ⟨rfl, hZ, hh⟩ := hP
  have hml : c.maxLocals = 2 := hml0
  obtain ⟨hx, hby, hlk, hown, hnm, hret, X0, e0⟩ := own_hd Bd hh
  have N0 := Fr.nil n0
  refine Go.body ?_
  obtain ⟨Pf, hPf⟩ : ∃ P, P = Fin' s below ({ frames := 0, cells := 0, slots := 0, locals := 0 } : Room).cells ({ frames := 0, cells := 0, slots := 0, locals := 0 } : Room).slots (QrmCL_3 Z vcs wI wA cA ba kb x0 x1 x2 h0 n0) := ⟨_, rfl⟩
  rw [← hPf]
  refine Go.cast (ef_rmCL_3 m) ?_
  show Go p.tables e below Pf (s₁.setTop (mkF m 0 #[vr ba, vi (3 : Int32)] []))
  refine Go.by' (fun t k => (XS.iloadN X0.here hx rfl (hb hby d8_0) rfl (XS.aloadN X0.here hx rfl (hb hby d8_1) rfl rfl (own_alen X0 hx hZ e0 VB rfl rfl (hb hby d8_2) (XS.isub X0.here hx rfl (hb hby d8_3) rfl (XS.bipush X0.here hx rfl (hb hby d8_4) (XS.iushr X0.here hx rfl (hb hby d8_6) rfl (XS.i2b X0.here hx rfl (hb hby d8_7) rfl k)))))))) ?_
  show Go p.tables e below Pf (s₁.setTop (mkF m 8 #[vr ba, vi (3 : Int32)] [(.int (0 : Int32))]))
  rw [hPf]
  exact Go.retI' X0 hx hret hlk (by simp) rfl (hb hby d8_8) (by decide) (by decide) ⟨rfl, rfl, e0⟩
theorem ef_rmS4_3 (m : MethodId) {sa : Addr} {ca : Addr} : entryFrame m #[(.ref sa), (.ref ca), (.int (0 : Int32)), (.int (3 : Int32)), .null] 6 = mkF m 0 #[vr sa, vr ca, vi (0 : Int32), vi (3 : Int32), .val .null, .unset] [] := by first | (simp [entryFrame, mkF, argsToLocals, Value.category]; done) | rfl
def QrmS4_3 (Z : State) (vcs : Int32) (wI : Addr) (wA : Addr) (cA : Cell) (sa : Addr) (ca : Addr) (kc : ClassId) (c0 : Int32) (c1 : Int32) (c2 : Int32) (h0 : Heap) (n0 : Nat) (v : Option Value) (h : Heap) (L : List Loc) : Prop := ∃ (rb : Addr) (kb : ClassId), (v = none) ∧ (Fr n0 L) ∧ (Keep h0 h [sa]) ∧ (Exa Z h sa "java/lang/String") ∧ (Fld Z h sa "java/lang/String" "value" "[B" (.ref rb)) ∧ (Fld Z h sa "java/lang/String" "coder" "B" (.int (0 : Int32))) ∧ (Arv Z h rb kb .byte (3 : Int32) [(.int (c0.toInt8.toInt32)), (.int (c1.toInt8.toInt32)), (.int (c2.toInt8.toInt32))] (.int (0 : Int32))) ∧ (h0.size ≤ rb)
theorem rmS4_3 (l : Launch) (Z : State) (a0 : Array Value) (hw : ∀ d ∈ tables_1, d.before a0 Z = true) (ws : List Jvm.Cond) (vcs : Int32) (wI : Addr) (wA : Addr) (cA : Cell) (G : Gh Z vcs wI wA cA) (sa : Addr) (ca : Addr) (kc : ClassId) (c0 : Int32) (c1 : Int32) (c2 : Int32) (h0 : Heap) (n0 : Nat) (O0 : Old Z n0 h0) (EX : Exa Z h0 sa "java/lang/String") (FV : Fld Z h0 sa "java/lang/String" "value" "[B" .null) (FC : Fld Z h0 sa "java/lang/String" "coder" "B" (.int (0 : Int32))) (g_sa : n0 ≤ sa) (VC : Arv Z h0 ca kc .char (3 : Int32) [(.int c0), (.int c1), (.int c2)] (.int (0 : Int32))) (hne : sa ≠ ca) (hb0 : ¬ ((255 : Int32) < c0)) (hb1 : ¬ ((255 : Int32) < c1)) (hb2 : ¬ ((255 : Int32) < c2)) :
    MetFree l own_y33 (head1 (Jvm.Cond.code own_y33 jdk_42_method_149_code 6 none :: ws) ({ frames := 2, cells := 1, slots := 3, locals := 35 } : Room)) (fun aa' UU' => aa' = #[(.ref sa), (.ref ca), (.int (0 : Int32)), (.int (3 : Int32)), .null] ∧ Z.Warmed39 UU'.vm ∧ UU'.heap = h0) (fun _ _ _ _ _ => True) (fun _ UU' oo' VV' => ∃ v' L', oo' = .returned v' ∧ QrmS4_3 Z vcs wI wA cA sa ca kc c0 c1 c2 h0 n0 v' VV'.heap L' ∧ FrameEnd UU' oo' VV' L' ({ frames := 2, cells := 1, slots := 3, locals := 35 } : Room).cells ({ frames := 2, cells := 1, slots := 3, locals := 35 } : Room).slots) := by
  refine MetFree.of_bodySF (plainFor_of_name pn_2) hisR ?_
  intro p e s m args below meth c s₁ Bd hml0 hP hK
  obtain ⟨rfl, hZ, hh⟩ := hP
  have hml : c.maxLocals = 6 := hml0
  obtain ⟨hx, hby, hlk, hown, hnm, hret, X0, e0⟩ := own_hd Bd hh
  have N0 := Fr.nil n0
  have KC0 : Keep h0 h0 [sa] := Keep.refl _ _
  refine Go.body ?_
  obtain ⟨Pf, hPf⟩ : ∃ P, P = Fin' s below ({ frames := 2, cells := 1, slots := 3, locals := 35 } : Room).cells ({ frames := 2, cells := 1, slots := 3, locals := 35 } : Room).slots (QrmS4_3 Z vcs wI wA cA sa ca kc c0 c1 c2 h0 n0) := ⟨_, rfl⟩
  rw [← hPf]
  refine Go.cast (ef_rmS4_3 m) ?_
  have hw2 := own_w hw 2 rfl
  have hw11 := own_w hw 11 rfl
  have hw12 := own_w hw 12 rfl
  have hw13 := own_w hw 13 rfl
  have hw16 := own_w hw 16 rfl
  have hw17 := own_w hw 17 rfl
  have hw20 := own_w hw 20 rfl
  have hw21 := own_w hw 21 rfl
  have hw31 := own_w hw 31 rfl
  have hw32 := own_w hw 32 rfl
  have hw33 := own_w hw 33 rfl
  have hw34 := own_w hw 34 rfl
  have hw35 := own_w hw 35 rfl
  have hw39 := own_w hw 39 rfl
  have hw40 := own_w hw 40 rfl
  have hw41 := own_w hw 41 rfl
  show Go p.tables e below Pf (s₁.setTop (mkF m 0 #[vr sa, vr ca, vi (0 : Int32), vi (3 : Int32), .val .null, .unset] []))
  refine Go.by' (fun t k => (XS.aloadN X0.here hx rfl (hb hby d2_0) rfl rfl k)) ?_
  obtain ⟨T391, X391, e391, st391⟩ := initO X0 hx hZ hown hw11 hw12 hw13 e0 (g := (mkF m 1 #[vr sa, vr ca, vi (0 : Int32), vi (3 : Int32), .val .null, .unset] [(.ref sa)])) rfl (by rw [hml]; rfl) rfl (hb hby d2_1) (by decide) (W := 0) (Nat.le_of_eq rfl) (by decide)
  refine Go.by' st391 ?_
  show Go p.tables e below Pf (T391.setTop (mkF m 4 #[vr sa, vr ca, vi (0 : Int32), vi (3 : Int32), .val .null, .unset] []))
  refine Go.by' (fun t k => (XS.iloadN X391.here hx rfl (hb hby d2_4) rfl (XS.ifYes X391.here hx rfl (pc0 := 5) (pc' := 27) rfl (hb hby d2_5) rfl ((if0 _ _).trans (feq (by decide)).2) (by decide) (by decide) k))) ?_
  obtain ⟨T392, X392, e392, st392⟩ := getS2 X391 hx hZ hown (host := "") (Or.inl hw31) Via.refl e391 (G.1.ext O0.2) (g := (mkF m 27 #[vr sa, vr ca, vi (0 : Int32), vi (3 : Int32), .val .null, .unset] [])) rfl (hb hby d2_27)
  refine Go.by' st392 ?_
  show Go p.tables e below Pf (T392.setTop (mkF m 30 #[vr sa, vr ca, vi (0 : Int32), vi (3 : Int32), .val .null, .unset] [(.int vcs)]))
  refine Go.by' (fun t k => (XS.ifNo X392.here hx rfl (hb hby d2_30) rfl ((if0 _ _).trans (feq G.2.1).1) (XS.aloadN X392.here hx rfl (hb hby d2_33) rfl rfl (XS.iloadN X392.here hx rfl (hb hby d2_34) rfl (XS.iloadN X392.here hx rfl (hb hby d2_35) rfl k))))) ?_
  obtain ⟨_, _, ⟨T393, L393, k393, n393⟩, -, X393, ⟨Lc393, hQ393, l393, y393, z393⟩, st393⟩ := Jvm.LawKit.callS X392 hx (y := own_y31) hown (mvT hZ hw32) (mvT hZ hw33) (mvT hZ hw34) (mvT hZ hw35) (by decide) (backOf (W := 0) (rmC3_3 l Z a0 hw [] vcs wI wA cA G ca kc c0 c1 c2 h0 n0 O0 VC hb0 hb1 hb2) hZ hw35 hw34 (by decide) (by decide)) (g := (mkF m 36 #[vr sa, vr ca, vi (0 : Int32), vi (3 : Int32), .val .null, .unset] [(.int (3 : Int32)), (.int (0 : Int32)), (.ref ca)])) rfl (by rw [hml]; rfl) (argsL := [(.ref ca), (.int (0 : Int32)), (.int (3 : Int32))]) (rest := []) (lenOf pd_23 rfl) rfl (Nat.le_of_eq rfl) (hb hby d2_36) (fun _ _ => ⟨rfl, e392, (by decide : 0 + 1 ≤ _), (by decide : 0 + 3 ≤ _)⟩)
  dsimp only [Pt.U, Pt.locs, Pt.cells, Pt.slots] at X393 l393 y393 z393 st393 hQ393
  subst l393 y393 z393
  obtain ⟨rb_393, kb_393, rfl, N393q, K393, f393_0, f393_1⟩ := hQ393
  have N393 := Fr.app N0 N393q
  obtain ⟨lc393, X393, N393⟩ := own_pack X393 N393
  refine Go.by' st393 ?_
  have g_rb_393 : n0 ≤ rb_393 := Nat.le_trans (own_le O0) f393_1
  have sz_rb_393 : h0.size ≤ rb_393 := Nat.le_trans KC0.1 f393_1
  have O393 := O0.keep K393 all0
  have KC393 : Keep h0 T393.heap [sa] := KC0.trans K393 all0
  show Go p.tables e below Pf (T393.setTop (mkF m 39 #[vr sa, vr ca, vi (0 : Int32), vi (3 : Int32), .val .null, .unset] [(.ref rb_393)]))
  refine Go.by' (fun t k => (XS.astore X393.here hx rfl (hb hby d2_39) rfl rfl (l' := #[vr sa, vr ca, vi (0 : Int32), vi (3 : Int32), .val .null, vr rb_393]) rfl (XS.aloadN X393.here hx rfl (hb hby d2_41) rfl rfl (XS.aload X393.here hx rfl (hb hby d2_42) rfl rfl (XS.iloadN X393.here hx rfl (hb hby d2_44) rfl k))))) ?_
  obtain ⟨_, _, ⟨T394, L394, k394, n394⟩, -, X394, ⟨Lc394, hQ394, l394, y394, z394⟩, st394⟩ := Jvm.LawKit.callS X393 hx (y := own_y32) hown (mvT hZ hw39) (mvT hZ hw40) (mvT hZ hw34) (mvT hZ hw41) (by decide) (backOf (W := 1) (rmCL_3 l Z a0 hw [] vcs wI wA cA G rb_393 kb_393 ((Value.int (c0.toInt8.toInt32))) ((Value.int (c1.toInt8.toInt32))) ((Value.int (c2.toInt8.toInt32))) T393.heap n0 O393 f393_0) hZ hw41 hw34 (by decide) (by decide)) (g := (mkF m 45 #[vr sa, vr ca, vi (0 : Int32), vi (3 : Int32), .val .null, vr rb_393] [(.int (3 : Int32)), (.ref rb_393), (.ref sa)])) rfl (by rw [hml]; rfl) (argsL := [(.ref rb_393), (.int (3 : Int32))]) (rest := [(.ref sa)]) (lenOf pd_24 rfl) rfl (Nat.le_of_eq rfl) (hb hby d2_45) (fun _ _ => ⟨rfl, rfl, (by decide : 1 + 0 ≤ _), (by decide : 3 + 0 ≤ _)⟩)
  dsimp only [Pt.U, Pt.locs, Pt.cells, Pt.slots] at X394 l394 y394 z394 st394 hQ394
  subst l394 y394 z394
  obtain ⟨rfl, rfl, e394⟩ := hQ394
  try replace X394 := own_nil X394
  refine Go.by' st394 ?_
  obtain ⟨T395, h395, X395, e395, W395, st395⟩ := putFN X394 hx hZ hown hw21 Via.refl e394 (FC.keep K393 nin0) (EX.keep K393) (Or.inr ⟨hw17, rfl, hnm⟩) hw2 (ty := .byte) (v' := (.int (0 : Int32))) (by decide) rfl rfl (g := (mkF m 48 #[vr sa, vr ca, vi (0 : Int32), vi (3 : Int32), .val .null, vr rb_393] [(.int (0 : Int32)), (.ref sa)])) rfl rfl (hb hby d2_48)
  refine Go.by' st395 ?_
  have Fw395 : Fld Z h395 sa "java/lang/String" "coder" "B" (Value.int (0 : Int32)) := (FC.keep K393 nin0).same W395
  have N395 := Fr.snoc X395 N393 g_sa
  obtain ⟨lc395, X395, N395⟩ := own_pack X395 N395
  have O395 := O393.wr W395 g_sa
  have KC395 : Keep h0 h395 [sa] := KC393.wr W395 (Or.inl (List.mem_of_getElem? (i := 0) rfl))
  show Go p.tables e below Pf (T395.setTop (mkF m 51 #[vr sa, vr ca, vi (0 : Int32), vi (3 : Int32), .val .null, vr rb_393] []))
  refine Go.by' (fun t k => (XS.aloadN X395.here hx rfl (hb hby d2_51) rfl rfl (XS.aload X395.here hx rfl (hb hby d2_52) rfl rfl k))) ?_
  have c396 := ((EX.keep K393).wr W395)
  have c397 := ((FV.keep K393 nin0).other W395 (Or.inr (slot_ne (Or.inr hw16) (Or.inr hw17) (by decide) (t := (.array .byte)) (t' := .byte) (by decide) (by decide))))
  obtain ⟨T398, h398, X398, e398, W398, st398⟩ := putF X395 hx hZ hown (host := "") (Or.inl hw20) Via.refl e395 c397 c396 (Or.inr ⟨hw16, rfl, hnm⟩) hw2 (ty := (.array .byte)) (by decide) rfl rfl (g := (mkF m 54 #[vr sa, vr ca, vi (0 : Int32), vi (3 : Int32), .val .null, vr rb_393] [(.ref rb_393), (.ref sa)])) rfl rfl (hb hby d2_54)
  refine Go.by' st398 ?_
  have Fw398 : Fld Z h398 sa "java/lang/String" "value" "[B" (Value.ref rb_393) := c397.same W398
  have N398 := Fr.snoc X398 N395 g_sa
  obtain ⟨lc398, X398, N398⟩ := own_pack X398 N398
  have O398 := O395.wr W398 g_sa
  have KC398 : Keep h0 h398 [sa] := KC395.wr W398 (Or.inl (List.mem_of_getElem? (i := 0) rfl))
  have c399 := ((f393_0.other W395 (Ne.symm (Nat.ne_of_lt (Nat.lt_of_lt_of_le EX.lt f393_1)))).other W398 (Ne.symm (Nat.ne_of_lt (Nat.lt_of_lt_of_le EX.lt f393_1))))
  show Go p.tables e below Pf (T398.setTop (mkF m 57 #[vr sa, vr ca, vi (0 : Int32), vi (3 : Int32), .val .null, vr rb_393] []))
  rw [hPf]
  exact Go.retV' X398 hx hret hlk (hb hby d2_57) (by decide) (by decide) ⟨rb_393, kb_393, rfl, N398, (by rw [e398]; exact KC398), (by rw [e398]; exact (c396.wr W398)), (by rw [e398]; exact Fw398), (by rw [e398]; exact (Fw395.other W398 (Or.inr (slot_ne (Or.inr hw17) (Or.inr hw16) (by decide) (t := .byte) (t' := (.array .byte)) (by decide) (by decide))))), (by rw [e398]; exact c399), sz_rb_393⟩
theorem ef_rmS1_3 (m : MethodId) {sa : Addr} {ca : Addr} : entryFrame m #[(.ref sa), (.ref ca)] 2 = mkF m 0 #[vr sa, vr ca] [] := by first | (simp [entryFrame, mkF, argsToLocals, Value.category]; done) | rfl
def QrmS1_3 (Z : State) (vcs : Int32) (wI : Addr) (wA : Addr) (cA : Cell) (sa : Addr) (ca : Addr) (kc : ClassId) (c0 : Int32) (c1 : Int32) (c2 : Int32) (h0 : Heap) (n0 : Nat) (v : Option Value) (h : Heap) (L : List Loc) : Prop := ∃ (rb : Addr) (kb : ClassId), (v = none) ∧ (Fr n0 L) ∧ (Keep h0 h [sa]) ∧ (Exa Z h sa "java/lang/String") ∧ (Fld Z h sa "java/lang/String" "value" "[B" (.ref rb)) ∧ (Fld Z h sa "java/lang/String" "coder" "B" (.int (0 : Int32))) ∧ (Arv Z h rb kb .byte (3 : Int32) [(.int (c0.toInt8.toInt32)), (.int (c1.toInt8.toInt32)), (.int (c2.toInt8.toInt32))] (.int (0 : Int32))) ∧ (h0.size ≤ rb)
theorem rmS1_3 (l : Launch) (Z : State) (a0 : Array Value) (hw : ∀ d ∈ tables_1, d.before a0 Z = true) (ws : List Jvm.Cond) (vcs : Int32) (wI : Addr) (wA : Addr) (cA : Cell) (G : Gh Z vcs wI wA cA) (sa : Addr) (ca : Addr) (kc : ClassId) (c0 : Int32) (c1 : Int32) (c2 : Int32) (h0 : Heap) (n0 : Nat) (O0 : Old Z n0 h0) (EX : Exa Z h0 sa "java/lang/String") (FV : Fld Z h0 sa "java/lang/String" "value" "[B" .null) (FC : Fld Z h0 sa "java/lang/String" "coder" "B" (.int (0 : Int32))) (g_sa : n0 ≤ sa) (VC : Arv Z h0 ca kc .char (3 : Int32) [(.int c0), (.int c1), (.int c2)] (.int (0 : Int32))) (hne : sa ≠ ca) (hb0 : ¬ ((255 : Int32) < c0)) (hb1 : ¬ ((255 : Int32) < c1)) (hb2 : ¬ ((255 : Int32) < c2)) :
    MetFree l own_y34 (head1 (Jvm.Cond.code own_y34 jdk_42_method_3_code 2 none :: ws) ({ frames := 3, cells := 1, slots := 3, locals := 52 } : Room)) (fun aa' UU' => aa' = #[(.ref sa), (.ref ca)] ∧ Z.Warmed39 UU'.vm ∧ UU'.heap = h0) (fun _ _ _ _ _ => True) (fun _ UU' oo' VV' => ∃ v' L', oo' = .returned v' ∧ QrmS1_3 Z vcs wI wA cA sa ca kc c0 c1 c2 h0 n0 v' VV'.heap L' ∧ FrameEnd UU' oo' VV' L' ({ frames := 3, cells := 1, slots := 3, locals := 52 } : Room).cells ({ frames := 3, cells := 1, slots := 3, locals := 52 } : Room).slots) := by
  refine MetFree.of_bodySF (plainFor_of_name pn_1) hisR ?_
  intro p e s m args below meth c s₁ Bd hml0 hP hK
  obtain ⟨rfl, hZ, hh⟩ := hP
  have hml : c.maxLocals = 2 := hml0
  obtain ⟨hx, hby, hlk, hown, hnm, hret, X0, e0⟩ := own_hd Bd hh
  have N0 := Fr.nil n0
  have KC0 : Keep h0 h0 [sa] := Keep.refl _ _
  refine Go.body ?_
  obtain ⟨Pf, hPf⟩ : ∃ P, P = Fin' s below ({ frames := 3, cells := 1, slots := 3, locals := 52 } : Room).cells ({ frames := 3, cells := 1, slots := 3, locals := 52 } : Room).slots (QrmS1_3 Z vcs wI wA cA sa ca kc c0 c1 c2 h0 n0) := ⟨_, rfl⟩
  rw [← hPf]
  refine Go.cast (ef_rmS1_3 m) ?_
  have hw3 := own_w hw 3 rfl
  have hw7 := own_w hw 7 rfl
  have hw8 := own_w hw 8 rfl
  have hw10 := own_w hw 10 rfl
  show Go p.tables e below Pf (s₁.setTop (mkF m 0 #[vr sa, vr ca] []))
  refine Go.by' (fun t k => (XS.aloadN X0.here hx rfl (hb hby d1_0) rfl rfl (XS.aloadN X0.here hx rfl (hb hby d1_1) rfl rfl (XS.iconst X0.here hx rfl (hb hby d1_2) (XS.aloadN X0.here hx rfl (hb hby d1_3) rfl rfl (own_alen X0 hx hZ e0 VC rfl rfl (hb hby d1_4) (XS.aconstNull X0.here hx rfl (hb hby d1_5) k))))))) ?_
  obtain ⟨_, _, ⟨T401, L401, k401, n401⟩, -, X401, ⟨Lc401, hQ401, l401, y401, z401⟩, st401⟩ := X0.specialBack hx (y := own_y33) rfl hown (mvT hZ hw7) (mvT hZ hw8) (mvT hZ hw10) (by decide) (backOf (W := 0) (rmS4_3 l Z a0 hw [] vcs wI wA cA G sa ca kc c0 c1 c2 h0 n0 O0 EX FV FC g_sa VC hne hb0 hb1 hb2) hZ hw10 hw3 (by decide) (by decide)) (g := (mkF m 6 #[vr sa, vr ca] [.null, (.int (3 : Int32)), (.int (0 : Int32)), (.ref ca), (.ref sa)])) rfl (by rw [hml]; rfl) (Steps.refl _) (a := sa) (argsL := [(.ref ca), (.int (0 : Int32)), (.int (3 : Int32)), .null]) (rest := []) (lenOf pd_25 rfl) rfl (Nat.le_of_eq rfl) (hb hby d1_6) (fun _ _ => ⟨rfl, e0, (by decide : 0 + 1 ≤ _), (by decide : 0 + 3 ≤ _)⟩)
  dsimp only [Pt.U, Pt.locs, Pt.cells, Pt.slots] at X401 l401 y401 z401 st401 hQ401
  subst l401 y401 z401
  obtain ⟨rb_401, kb_401, rfl, N401q, K401, f401_0, f401_1, f401_2, f401_3, f401_4⟩ := hQ401
  have N401 := Fr.app N0 N401q
  obtain ⟨lc401, X401, N401⟩ := own_pack X401 N401
  refine Go.by' (fun t k => st401.trans k) ?_
  have g_rb_401 : n0 ≤ rb_401 := Nat.le_trans (own_le O0) f401_4
  have sz_rb_401 : h0.size ≤ rb_401 := Nat.le_trans KC0.1 f401_4
  have O401 := O0.keep K401 (allS g_sa all0)
  have KC401 : Keep h0 T401.heap [sa] := KC0.trans K401 (allS (Or.inl (List.mem_of_getElem? (i := 0) rfl)) all0)
  show Go p.tables e below Pf (T401.setTop (mkF m 9 #[vr sa, vr ca] []))
  rw [hPf]
  exact Go.retV' X401 hx hret hlk (hb hby d1_9) (by decide) (by decide) ⟨rb_401, kb_401, rfl, N401, KC401, f401_0, f401_1, f401_2, f401_3, sz_rb_401⟩
theorem d2_8 : decode jdk_42_method_149_code 8 = .ok (.aload_n 0, 1) := by decide +kernel
theorem d2_9 : decode jdk_42_method_149_code 9 = .ok (.ldc 7, 2) := by decide +kernel
theorem d2_11 : decode jdk_42_method_149_code 11 = .ok (.getfield 9, 3) := by decide +kernel
theorem d2_14 : decode jdk_42_method_149_code 14 = .ok (.putfield 9, 3) := by decide +kernel
theorem d2_17 : decode jdk_42_method_149_code 17 = .ok (.aload_n 0, 1) := by decide +kernel
theorem d2_18 : decode jdk_42_method_149_code 18 = .ok (.ldc 7, 2) := by decide +kernel
theorem d2_20 : decode jdk_42_method_149_code 20 = .ok (.getfield 15, 3) := by decide +kernel
theorem d2_23 : decode jdk_42_method_149_code 23 = .ok (.putfield 15, 3) := by decide +kernel
theorem d2_26 : decode jdk_42_method_149_code 26 = .ok (.return_, 1) := by decide +kernel
theorem ef_rmS4_0 (m : MethodId) {sa : Addr} {ca : Addr} : entryFrame m #[(.ref sa), (.ref ca), (.int (0 : Int32)), (.int (0 : Int32)), .null] 6 = mkF m 0 #[vr sa, vr ca, vi (0 : Int32), vi (0 : Int32), .val .null, .unset] [] := by first | (simp [entryFrame, mkF, argsToLocals, Value.category]; done) | rfl
def QrmS4_0 (Z : State) (vcs : Int32) (wI : Addr) (wA : Addr) (cA : Cell) (sa : Addr) (ca : Addr) (kc : ClassId) (h0 : Heap) (n0 : Nat) (v : Option Value) (h : Heap) (vm : Vm) (L : List Loc) : Prop := ∃ (rb : Addr) (kb : ClassId), (v = none) ∧ (Fr n0 L) ∧ (Keep h0 h [sa]) ∧ (Exa Z h sa "java/lang/String") ∧ (Fld Z h sa "java/lang/String" "value" "[B" (.ref rb)) ∧ (Fld Z h sa "java/lang/String" "coder" "B" (.int (0 : Int32))) ∧ (Arv Z h rb kb .byte (0 : Int32) [] (.int (0 : Int32))) ∧ (Safe Z consts_1 vm h sa)
theorem rmS4_0 (l : Launch) (Z : State) (a0 : Array Value) (hw : ∀ d ∈ tables_1, d.before a0 Z = true) (ws : List Jvm.Cond) (vcs : Int32) (wI : Addr) (wA : Addr) (cA : Cell) (G : Gh Z vcs wI wA cA) (sa : Addr) (ca : Addr) (kc : ClassId) (h0 : Heap) (n0 : Nat) (O0 : Old Z n0 h0) (EX : Exa Z h0 sa "java/lang/String") (FV : Fld Z h0 sa "java/lang/String" "value" "[B" .null) (FC : Fld Z h0 sa "java/lang/String" "coder" "B" (.int (0 : Int32))) (g_sa : n0 ≤ sa) (VC : Arv Z h0 ca kc .char (0 : Int32) [] (.int (0 : Int32))) :
    MetFree l own_y33 (head1 (Jvm.Cond.code own_y33 jdk_42_method_149_code 6 none :: ws) ({ frames := 1, cells := 4, slots := 8, locals := 12 } : Room)) (fun aa' UU' => aa' = #[(.ref sa), (.ref ca), (.int (0 : Int32)), (.int (0 : Int32)), .null] ∧ Z.Warmed39 UU'.vm ∧ UU'.heap = h0 ∧ CHv Z consts_1 UU'.vm h0 ∧ ∀ x ∈ ([sa] : List Addr), Safe Z consts_1 UU'.vm h0 x) (fun _ _ _ _ _ => True) (fun _ UU' oo' VV' => ∃ v' L', oo' = .returned v' ∧ QrmS4_0 Z vcs wI wA cA sa ca kc h0 n0 v' VV'.heap VV'.vm L' ∧ CHr Z consts_1 UU'.vm UU'.heap VV'.vm VV'.heap ∧ ReturnedEndW UU' oo' VV' L' ({ frames := 1, cells := 4, slots := 8, locals := 12 } : Room).cells ({ frames := 1, cells := 4, slots := 8, locals := 12 } : Room).slots) := by
  refine MetFree.of_bodySF (plainFor_of_name pn_2) hisR ?_
  intro p e s m args below meth c s₁ Bd hml0 hP hK
  obtain ⟨rfl, hZ, hh, hCH, hSf⟩ := hP
  have hml : c.maxLocals = 6 := hml0
  obtain ⟨hx, hby, hlk, hown, hnm, hret, X0, e0⟩ := own_hd Bd hh
  replace X0 : Stand p l e ({ frames := 1, cells := 4, slots := 8, locals := 12 } : Room) (s.setVm s.vm) m _ below meth c s₁ [] 0 0 := X0
  have N0 := Fr.nil n0
  have KC0 : Keep h0 h0 [sa] := Keep.refl _ _
  have Sb0 := Sb.start hZ hown hCH
  have hEL := own_EW hw
  have hSA := own_SA hw
  refine Go.bodyS ?_
  obtain ⟨Pf, hPf⟩ : ∃ P, P = FinS Z consts_1 s below ({ frames := 1, cells := 4, slots := 8, locals := 12 } : Room).cells ({ frames := 1, cells := 4, slots := 8, locals := 12 } : Room).slots (QrmS4_0 Z vcs wI wA cA sa ca kc h0 n0) := ⟨_, rfl⟩
  rw [← hPf]
  refine Go.cast (ef_rmS4_0 m) ?_
  have hw2 := own_w hw 2 rfl
  have hw11 := own_w hw 11 rfl
  have hw12 := own_w hw 12 rfl
  have hw13 := own_w hw 13 rfl
  have hw14 := own_w hw 14 rfl
  have hw16 := own_w hw 16 rfl
  have hw17 := own_w hw 17 rfl
  have hw20 := own_w hw 20 rfl
  have hw21 := own_w hw 21 rfl
  show Go p.tables e below Pf (s₁.setTop (mkF m 0 #[vr sa, vr ca, vi (0 : Int32), vi (0 : Int32), .val .null, .unset] []))
  refine Go.by' (fun t k => (XS.aloadN X0.here hx rfl (hb hby d2_0) rfl rfl k)) ?_
  obtain ⟨T402, X402, e402, st402⟩ := initO X0 hx hZ hown hw11 hw12 hw13 e0 (g := (mkF m 1 #[vr sa, vr ca, vi (0 : Int32), vi (0 : Int32), .val .null, .unset] [(.ref sa)])) rfl (by rw [hml]; rfl) rfl (hb hby d2_1) (by decide) (W := 0) (Nat.le_of_eq rfl) (by decide)
  refine Go.by' st402 ?_
  show Go p.tables e below Pf (T402.setTop (mkF m 4 #[vr sa, vr ca, vi (0 : Int32), vi (0 : Int32), .val .null, .unset] []))
  refine Go.by' (fun t k => (XS.iloadN X402.here hx rfl (hb hby d2_4) rfl (XS.ifNo X402.here hx rfl (hb hby d2_5) rfl ((if0 _ _).trans (teq (by decide)).2) (XS.aloadN X402.here hx rfl (hb hby d2_8) rfl rfl k)))) ?_
  obtain ⟨T403, h403, a403, bb403, kb403, X403, e403, E403, Sb403, A403, Ex403, Fc403, Fv403, Vb403, Ne403, st403⟩ := own_ldc X402 hx Sb0 hw14 hSA e402 hEL (List.mem_of_getElem? (i := 2) rfl) (vs := []) (z := (0 : Int32)) (by decide +kernel) (by decide) rfl (g := (mkF m 9 #[vr sa, vr ca, vi (0 : Int32), vi (0 : Int32), .val .null, .unset] [(.ref sa)])) rfl (hb hby d2_9) (n := 0) (by decide +kernel) (by decide) (by decide) (by decide)
  refine Go.by' st403 ?_
  have O403 := O0.ext E403
  have KC403 : Keep h0 h403 [sa] := KC0.ext E403
  have hZ403 := Sb403.hZ
  have hO403 := Sb403.hO
  obtain ⟨T404, X404, e404, st404⟩ := getF X403 hx hZ403 hO403 (host := "") (Or.inl hw20) Via.refl e403 Fv403 (g := (mkF m 11 #[vr sa, vr ca, vi (0 : Int32), vi (0 : Int32), .val .null, .unset] [(.ref a403), (.ref sa)])) rfl rfl (hb hby d2_11)
  refine Go.by' st404 ?_
  obtain ⟨T405, h405, X405, e405, W405, st405⟩ := putF X404 hx hZ403 hO403 (host := "") (Or.inl hw20) Via.refl e404 (FV.ext E403) (EX.ext E403) (Or.inr ⟨hw16, rfl, hnm⟩) hw2 (ty := (.array .byte)) (by decide) rfl rfl (g := (mkF m 14 #[vr sa, vr ca, vi (0 : Int32), vi (0 : Int32), .val .null, .unset] [(.ref bb403), (.ref sa)])) rfl rfl (hb hby d2_14)
  refine Go.by' st405 ?_
  have Fw405 : Fld Z h405 sa "java/lang/String" "value" "[B" (Value.ref bb403) := (FV.ext E403).same W405
  have N405 := Fr.snoc X405 N0 g_sa
  obtain ⟨lc405, X405, N405⟩ := own_pack X405 N405
  have Sb405 := Sb403.wr W405 (A403.safe EX.lt (hSf sa (List.mem_of_getElem? (i := 0) rfl)))
  have O405 := O403.wr W405 g_sa
  have KC405 : Keep h0 h405 [sa] := KC403.wr W405 (Or.inl (List.mem_of_getElem? (i := 0) rfl))
  show Go p.tables e below Pf (T405.setTop (mkF m 17 #[vr sa, vr ca, vi (0 : Int32), vi (0 : Int32), .val .null, .unset] []))
  refine Go.by' (fun t k => (XS.aloadN X405.here hx rfl (hb hby d2_17) rfl rfl k)) ?_
  obtain ⟨T406, h406, a406, bb406, kb406, X406, e406, E406, Sb406, A406, Ex406, Fc406, Fv406, Vb406, Ne406, st406⟩ := own_ldc X405 hx Sb405 hw14 hSA e405 hEL (List.mem_of_getElem? (i := 2) rfl) (vs := []) (z := (0 : Int32)) (by decide +kernel) (by decide) rfl (g := (mkF m 18 #[vr sa, vr ca, vi (0 : Int32), vi (0 : Int32), .val .null, .unset] [(.ref sa)])) rfl (hb hby d2_18) (n := 0) (by decide +kernel) (by decide) (by decide) (by decide)
  refine Go.by' st406 ?_
  have O406 := O405.ext E406
  have KC406 : Keep h0 h406 [sa] := KC405.ext E406
  have hZ406 := Sb406.hZ
  have hO406 := Sb406.hO
  obtain ⟨T407, X407, e407, st407⟩ := getF X406 hx hZ406 hO406 (host := "") (Or.inl hw21) Via.refl e406 Fc406 (g := (mkF m 20 #[vr sa, vr ca, vi (0 : Int32), vi (0 : Int32), .val .null, .unset] [(.ref a406), (.ref sa)])) rfl rfl (hb hby d2_20)
  refine Go.by' st407 ?_
  have c408 := (((EX.ext E403).wr W405).ext E406)
  have c409 := (((FC.ext E403).other W405 (Or.inr (slot_ne (Or.inr hw17) (Or.inr hw16) (by decide) (t := .byte) (t' := (.array .byte)) (by decide) (by decide)))).ext E406)
  obtain ⟨T410, h410, X410, e410, W410, st410⟩ := putFN X407 hx hZ406 hO406 hw21 Via.refl e407 c409 c408 (Or.inr ⟨hw17, rfl, hnm⟩) hw2 (ty := .byte) (v' := (.int (0 : Int32))) (by decide) rfl rfl (g := (mkF m 23 #[vr sa, vr ca, vi (0 : Int32), vi (0 : Int32), .val .null, .unset] [(.int (0 : Int32)), (.ref sa)])) rfl rfl (hb hby d2_23)
  refine Go.by' st410 ?_
  have Fw410 : Fld Z h410 sa "java/lang/String" "coder" "B" (Value.int (0 : Int32)) := c409.same W410
  have N410 := Fr.snoc X410 N405 g_sa
  obtain ⟨lc410, X410, N410⟩ := own_pack X410 N410
  have Sb410 := Sb406.wr W410 (A406.safe (Nat.lt_of_lt_of_le EX.lt (Nat.le_trans E403.1 (Nat.le_of_eq W405.size.symm))) (Safe.wr W405 (A403.safe EX.lt (hSf sa (List.mem_of_getElem? (i := 0) rfl))) Sb403.ch (A403.safe EX.lt (hSf sa (List.mem_of_getElem? (i := 0) rfl)))))
  have O410 := O406.wr W410 g_sa
  have KC410 : Keep h0 h410 [sa] := KC406.wr W410 (Or.inl (List.mem_of_getElem? (i := 0) rfl))
  have c411 := ((Fw405.ext E406).other W410 (Or.inr (slot_ne (Or.inr hw16) (Or.inr hw17) (by decide) (t := (.array .byte)) (t' := .byte) (by decide) (by decide))))
  have c412 := (((Vb403.other W405 (Ne.symm (Ne403 sa (A403.safe EX.lt (hSf sa (List.mem_of_getElem? (i := 0) rfl)))).2)).ext E406).other W410 (Ne.symm (Ne403 sa (A403.safe EX.lt (hSf sa (List.mem_of_getElem? (i := 0) rfl)))).2))
  show Go p.tables e below Pf (T410.setTop (mkF m 26 #[vr sa, vr ca, vi (0 : Int32), vi (0 : Int32), .val .null, .unset] []))
  rw [hPf]
  exact Go.retVS X410 hx hEL Sb410 e410 hh hret hlk (hb hby d2_26) (by decide) (by decide) ⟨bb403, kb403, rfl, N410, (by rw [e410]; exact KC410), (by rw [e410]; exact (c408.wr W410)), (by rw [e410]; exact c411), (by rw [e410]; exact Fw410), (by rw [e410]; exact c412), (by rw [e410]; exact ((CHv.at X410 hZ406 hEL Sb410.ch).safe (Nat.lt_of_lt_of_le EX.lt (Nat.le_trans E403.1 (Nat.le_trans (Nat.le_of_eq W405.size.symm) (Nat.le_trans E406.1 (Nat.le_of_eq W410.size.symm))))) (Safe.wr W410 (A406.safe (Nat.lt_of_lt_of_le EX.lt (Nat.le_trans E403.1 (Nat.le_of_eq W405.size.symm))) (Safe.wr W405 (A403.safe EX.lt (hSf sa (List.mem_of_getElem? (i := 0) rfl))) Sb403.ch (A403.safe EX.lt (hSf sa (List.mem_of_getElem? (i := 0) rfl))))) Sb406.ch (A406.safe (Nat.lt_of_lt_of_le EX.lt (Nat.le_trans E403.1 (Nat.le_of_eq W405.size.symm))) (Safe.wr W405 (A403.safe EX.lt (hSf sa (List.mem_of_getElem? (i := 0) rfl))) Sb403.ch (A403.safe EX.lt (hSf sa (List.mem_of_getElem? (i := 0) rfl))))))))⟩
theorem ef_rmS1_0 (m : MethodId) {sa : Addr} {ca : Addr} : entryFrame m #[(.ref sa), (.ref ca)] 2 = mkF m 0 #[vr sa, vr ca] [] := by first | (simp [entryFrame, mkF, argsToLocals, Value.category]; done) | rfl
def QrmS1_0 (Z : State) (vcs : Int32) (wI : Addr) (wA : Addr) (cA : Cell) (sa : Addr) (ca : Addr) (kc : ClassId) (h0 : Heap) (n0 : Nat) (v : Option Value) (h : Heap) (vm : Vm) (L : List Loc) : Prop := ∃ (rb : Addr) (kb : ClassId), (v = none) ∧ (Fr n0 L) ∧ (Keep h0 h [sa]) ∧ (Exa Z h sa "java/lang/String") ∧ (Fld Z h sa "java/lang/String" "value" "[B" (.ref rb)) ∧ (Fld Z h sa "java/lang/String" "coder" "B" (.int (0 : Int32))) ∧ (Arv Z h rb kb .byte (0 : Int32) [] (.int (0 : Int32))) ∧ (Safe Z consts_1 vm h sa)
theorem rmS1_0 (l : Launch) (Z : State) (a0 : Array Value) (hw : ∀ d ∈ tables_1, d.before a0 Z = true) (ws : List Jvm.Cond) (vcs : Int32) (wI : Addr) (wA : Addr) (cA : Cell) (G : Gh Z vcs wI wA cA) (sa : Addr) (ca : Addr) (kc : ClassId) (h0 : Heap) (n0 : Nat) (O0 : Old Z n0 h0) (EX : Exa Z h0 sa "java/lang/String") (FV : Fld Z h0 sa "java/lang/String" "value" "[B" .null) (FC : Fld Z h0 sa "java/lang/String" "coder" "B" (.int (0 : Int32))) (g_sa : n0 ≤ sa) (VC : Arv Z h0 ca kc .char (0 : Int32) [] (.int (0 : Int32))) :
    MetFree l own_y34 (head1 (Jvm.Cond.code own_y34 jdk_42_method_3_code 2 none :: ws) ({ frames := 2, cells := 4, slots := 8, locals := 29 } : Room)) (fun aa' UU' => aa' = #[(.ref sa), (.ref ca)] ∧ Z.Warmed39 UU'.vm ∧ UU'.heap = h0 ∧ CHv Z consts_1 UU'.vm h0 ∧ ∀ x ∈ ([sa] : List Addr), Safe Z consts_1 UU'.vm h0 x) (fun _ _ _ _ _ => True) (fun _ UU' oo' VV' => ∃ v' L', oo' = .returned v' ∧ QrmS1_0 Z vcs wI wA cA sa ca kc h0 n0 v' VV'.heap VV'.vm L' ∧ CHr Z consts_1 UU'.vm UU'.heap VV'.vm VV'.heap ∧ ReturnedEndW UU' oo' VV' L' ({ frames := 2, cells := 4, slots := 8, locals := 29 } : Room).cells ({ frames := 2, cells := 4, slots := 8, locals := 29 } : Room).slots) := by
  refine MetFree.of_bodySF (plainFor_of_name pn_1) hisR ?_
  intro p e s m args below meth c s₁ Bd hml0 hP hK
  obtain ⟨rfl, hZ, hh, hCH, hSf⟩ := hP
  have hml : c.maxLocals = 2 := hml0
  obtain ⟨hx, hby, hlk, hown, hnm, hret, X0, e0⟩ := own_hd Bd hh
  replace X0 : Stand p l e ({ frames := 2, cells := 4, slots := 8, locals := 29 } : Room) (s.setVm s.vm) m _ below meth c s₁ [] 0 0 := X0
  have N0 := Fr.nil n0
  have KC0 : Keep h0 h0 [sa] := Keep.refl _ _
  have Sb0 := Sb.start hZ hown hCH
  have hEL := own_EW hw
  have hSA := own_SA hw
  refine Go.bodyS ?_
  obtain ⟨Pf, hPf⟩ : ∃ P, P = FinS Z consts_1 s below ({ frames := 2, cells := 4, slots := 8, locals := 29 } : Room).cells ({ frames := 2, cells := 4, slots := 8, locals := 29 } : Room).slots (QrmS1_0 Z vcs wI wA cA sa ca kc h0 n0) := ⟨_, rfl⟩
  rw [← hPf]
  refine Go.cast (ef_rmS1_0 m) ?_
  have hw3 := own_w hw 3 rfl
  have hw7 := own_w hw 7 rfl
  have hw8 := own_w hw 8 rfl
  have hw10 := own_w hw 10 rfl
  show Go p.tables e below Pf (s₁.setTop (mkF m 0 #[vr sa, vr ca] []))
  refine Go.by' (fun t k => (XS.aloadN X0.here hx rfl (hb hby d1_0) rfl rfl (XS.aloadN X0.here hx rfl (hb hby d1_1) rfl rfl (XS.iconst X0.here hx rfl (hb hby d1_2) (XS.aloadN X0.here hx rfl (hb hby d1_3) rfl rfl (own_alen X0 hx hZ e0 VC rfl rfl (hb hby d1_4) (XS.aconstNull X0.here hx rfl (hb hby d1_5) k))))))) ?_
  obtain ⟨_, _, ⟨T414, L414, k414, n414⟩, -, X414, Si414, Gr414, ⟨Lc414, hQ414, l414, y414, z414, A414⟩, st414⟩ := X0.specialBackS hx (y := own_y33) rfl hown (mvT hZ hw7) (mvT hZ hw8) (mvT hZ hw10) (by decide) (own_backS (W := 0) (rmS4_0 l Z a0 hw [] vcs wI wA cA G sa ca kc h0 n0 O0 EX FV FC g_sa VC) Sb0 hw10 hw3 (by decide) (by decide) hEL (allS ⟨EX.lt, (hSf sa (List.mem_of_getElem? (i := 0) rfl))⟩ all0)) (g := (mkF m 6 #[vr sa, vr ca] [.null, (.int (0 : Int32)), (.int (0 : Int32)), (.ref ca), (.ref sa)])) rfl (by rw [hml]; rfl) (Steps.refl _) (a := sa) (argsL := [(.ref ca), (.int (0 : Int32)), (.int (0 : Int32)), .null]) (rest := []) (lenOf pd_25 rfl) rfl (Nat.le_of_eq rfl) (hb hby d1_6) (fun _ _ => ⟨rfl, e0, (by decide : 0 + 4 ≤ _), (by decide : 0 + 8 ≤ _)⟩)
  dsimp only [Pt.U, Pt.locs, Pt.cells, Pt.slots] at X414 l414 y414 z414 st414 hQ414 Si414 Gr414 A414
  subst l414 y414 z414
  obtain ⟨rb_414, kb_414, rfl, N414q, K414, f414_0, f414_1, f414_2, f414_3, f414_4⟩ := hQ414
  have N414 := Fr.app N0 N414q
  obtain ⟨lc414, X414, N414⟩ := own_pack X414 N414
  replace X414 := own_reb X414
  have Sb414 := Sb0.called Si414 (by rw [← e0]; exact Gr414) A414
  have hZ414 := Sb414.hZ
  have hO414 := Sb414.hO
  refine Go.by' (fun t k => st414.trans k) ?_
  have O414 := O0.keep K414 (allS g_sa all0)
  have KC414 : Keep h0 T414.heap [sa] := KC0.trans K414 (allS (Or.inl (List.mem_of_getElem? (i := 0) rfl)) all0)
  show Go p.tables e below Pf (T414.setTop (mkF m 9 #[vr sa, vr ca] []))
  rw [hPf]
  exact Go.retVS X414 hx hEL Sb414 rfl hh hret hlk (hb hby d1_9) (by decide) (by decide) ⟨rb_414, kb_414, rfl, N414, KC414, f414_0, f414_1, f414_2, f414_3, ((CHv.at X414 hZ414 hEL Sb414.ch).safe (Nat.lt_of_lt_of_le EX.lt K414.1) f414_4)⟩
theorem own_k (x : Int32) : (x &&& (3 : Int32)) = (0 : Int32) ∨ (x &&& (3 : Int32)) = (1 : Int32) ∨ (x &&& (3 : Int32)) = (2 : Int32) ∨ (x &&& (3 : Int32)) = (3 : Int32) := by
  have h := c_mask x 3 2 (by decide) (by decide)
  have l0 : (0 : Int32).toInt = 0 := rfl
  have l1 : (1 : Int32).toInt = 1 := rfl
  have l2 : (2 : Int32).toInt = 2 := rfl
  have l3 : (3 : Int32).toInt = 3 := rfl
  simp only [← Int32.toInt_inj]
  omega
theorem pd_26 : parseMethodDescriptor "([C)V" = some ⟨[(.array .char)], none⟩ := by decide +kernel
theorem pd_27 : parseMethodDescriptor "(C)Z" = some ⟨[.char], some .boolean⟩ := by decide +kernel
theorem pn_0 : plainName "com/example/usher/usher/ProfilesIsNamePinLaw" = true := by first | (simp [plainName, overriddenIn]; done) | decide +kernel
theorem ef_rm0 (m : MethodId) {iN : Int32} {iA : Int32} {iB : Int32} {iC : Int32} : entryFrame m #[(.int iN), (.int iA), (.int iB), (.int iC)] maxLocals = mkF m 0 #[vi iN, vi iA, vi iB, vi iC, .unset, .unset, .unset, .unset, .unset, .unset, .unset, .unset, .unset, .unset] [] := by first | (simp [entryFrame, mkF, argsToLocals, Value.category, maxLocals]; done) | rfl
def Qrm0 (Z : State) (vcs : Int32) (wI : Addr) (wA : Addr) (cA : Cell) (iN : Int32) (iA : Int32) (iB : Int32) (iC : Int32) (h0 : Heap) (n0 : Nat) (v : Option Value) (h : Heap) (vm : Vm) (L : List Loc) : Prop := (v = some (.int (1 : Int32))) ∧ (Fr n0 L) ∧ (Keep h0 h [])
theorem rm0 (l : Launch) (Z : State) (a0 : Array Value) (hw : ∀ d ∈ tables_1, d.before a0 Z = true) (ws : List Jvm.Cond) (vcs : Int32) (wI : Addr) (wA : Addr) (cA : Cell) (G : Gh Z vcs wI wA cA) (iN : Int32) (iA : Int32) (iB : Int32) (iC : Int32) (h0 : Heap) (n0 : Nat) (O0 : Old Z n0 h0) :
    MetFree l x (head1 (Jvm.Cond.code x code maxLocals ret :: ws) room_1) (fun aa' UU' => aa' = #[(.int iN), (.int iA), (.int iB), (.int iC)] ∧ Z.Warmed39 UU'.vm ∧ UU'.heap = h0 ∧ CHv Z consts_1 UU'.vm h0 ∧ ∀ x ∈ ([] : List Addr), Safe Z consts_1 UU'.vm h0 x) (fun _ _ _ _ _ => True) (fun _ UU' oo' VV' => ∃ v' L', oo' = .returned v' ∧ Qrm0 Z vcs wI wA cA iN iA iB iC h0 n0 v' VV'.heap VV'.vm L' ∧ CHr Z consts_1 UU'.vm UU'.heap VV'.vm VV'.heap ∧ ReturnedEndW UU' oo' VV' L' 7 26) := by
  refine MetFree.of_bodySF (plainFor_of_name pn_0) hisR ?_
  intro p e s m args below meth c s₁ Bd hml0 hP hK
  obtain ⟨rfl, hZ, hh, hCH, hSf⟩ := hP
  have hml : c.maxLocals = 14 := hml0
  obtain ⟨hx, hby, hlk, hown, hnm, hret, X0, e0⟩ := own_hd Bd hh
  replace X0 : Stand p l e room_1 (s.setVm s.vm) m _ below meth c s₁ [] 0 0 := X0
  have N0 := Fr.nil n0
  have KC0 : Keep h0 h0 [] := Keep.refl _ _
  have Sb0 := Sb.start hZ hown hCH
  have hEL := own_EW hw
  have hSA := own_SA hw
  refine Go.bodyS ?_
  obtain ⟨Pf, hPf⟩ : ∃ P, P = FinS Z consts_1 s below 7 26 (Qrm0 Z vcs wI wA cA iN iA iB iC h0 n0) := ⟨_, rfl⟩
  rw [← hPf]
  refine Go.cast (ef_rm0 m) ?_
  have hw0 := own_w hw 0 rfl
  have hw1 := own_w hw 1 rfl
  have hw2 := own_w hw 2 rfl
  have hw3 := own_w hw 3 rfl
  have hw4 := own_w hw 4 rfl
  have hw5 := own_w hw 5 rfl
  have hw6 := own_w hw 6 rfl
  have hw16 := own_w hw 16 rfl
  have hw17 := own_w hw 17 rfl
  have hw22 := own_w hw 22 rfl
  have hw23 := own_w hw 23 rfl
  have hw24 := own_w hw 24 rfl
  have hw25 := own_w hw 25 rfl
  have hw42 := own_w hw 42 rfl
  have hw43 := own_w hw 43 rfl
  have hw44 := own_w hw 44 rfl
  have hw45 := own_w hw 45 rfl
  show Go p.tables e below Pf (s₁.setTop (mkF m 0 #[vi iN, vi iA, vi iB, vi iC, .unset, .unset, .unset, .unset, .unset, .unset, .unset, .unset, .unset, .unset] []))
  refine Go.by' (fun t k => (XS.iloadN X0.here hx rfl (hb hby at_0) rfl (XS.iconst X0.here hx rfl (hb hby at_1) (XS.iand X0.here hx rfl (hb hby at_2) rfl (XS.istore X0.here hx rfl (hb hby at_3) rfl (l' := #[vi iN, vi iA, vi iB, vi iC, vi (iN &&& (3 : Int32)), .unset, .unset, .unset, .unset, .unset, .unset, .unset, .unset, .unset]) rfl (XS.iloadN X0.here hx rfl (hb hby at_5) rfl (XS.sipush X0.here hx rfl (hb hby at_6) (XS.iand X0.here hx rfl (hb hby at_9) rfl (XS.i2c X0.here hx rfl (hb hby at_10) rfl k))))))))) ?_
  show Go p.tables e below Pf (s₁.setTop (mkF m 11 #[vi iN, vi iA, vi iB, vi iC, vi (iN &&& (3 : Int32)), .unset, .unset, .unset, .unset, .unset, .unset, .unset, .unset, .unset] [(.int ((iA &&& (255 : Int32)).toUInt32.toUInt16.toUInt32.toInt32))]))
  refine Go.castF (a := ((iA &&& (255 : Int32)).toUInt32.toUInt16.toUInt32.toInt32)) (b := (iA &&& (255 : Int32))) (fun z' : Int32 => mkF m 11 #[vi iN, vi iA, vi iB, vi iC, vi (iN &&& (3 : Int32)), .unset, .unset, .unset, .unset, .unset, .unset, .unset, .unset, .unset] [(.int z')]) (i2c_mask _) ?_
  show Go p.tables e below Pf (s₁.setTop (mkF m 11 #[vi iN, vi iA, vi iB, vi iC, vi (iN &&& (3 : Int32)), .unset, .unset, .unset, .unset, .unset, .unset, .unset, .unset, .unset] [(.int (iA &&& (255 : Int32)))]))
  refine Go.by' (fun t k => (XS.istore X0.here hx rfl (hb hby at_11) rfl (l' := #[vi iN, vi iA, vi iB, vi iC, vi (iN &&& (3 : Int32)), vi (iA &&& (255 : Int32)), .unset, .unset, .unset, .unset, .unset, .unset, .unset, .unset]) rfl (XS.iloadN X0.here hx rfl (hb hby at_13) rfl (XS.sipush X0.here hx rfl (hb hby at_14) (XS.iand X0.here hx rfl (hb hby at_17) rfl (XS.i2c X0.here hx rfl (hb hby at_18) rfl k)))))) ?_
  show Go p.tables e below Pf (s₁.setTop (mkF m 19 #[vi iN, vi iA, vi iB, vi iC, vi (iN &&& (3 : Int32)), vi (iA &&& (255 : Int32)), .unset, .unset, .unset, .unset, .unset, .unset, .unset, .unset] [(.int ((iB &&& (255 : Int32)).toUInt32.toUInt16.toUInt32.toInt32))]))
  refine Go.castF (a := ((iB &&& (255 : Int32)).toUInt32.toUInt16.toUInt32.toInt32)) (b := (iB &&& (255 : Int32))) (fun z' : Int32 => mkF m 19 #[vi iN, vi iA, vi iB, vi iC, vi (iN &&& (3 : Int32)), vi (iA &&& (255 : Int32)), .unset, .unset, .unset, .unset, .unset, .unset, .unset, .unset] [(.int z')]) (i2c_mask _) ?_
  show Go p.tables e below Pf (s₁.setTop (mkF m 19 #[vi iN, vi iA, vi iB, vi iC, vi (iN &&& (3 : Int32)), vi (iA &&& (255 : Int32)), .unset, .unset, .unset, .unset, .unset, .unset, .unset, .unset] [(.int (iB &&& (255 : Int32)))]))
  refine Go.by' (fun t k => (XS.istore X0.here hx rfl (hb hby at_19) rfl (l' := #[vi iN, vi iA, vi iB, vi iC, vi (iN &&& (3 : Int32)), vi (iA &&& (255 : Int32)), vi (iB &&& (255 : Int32)), .unset, .unset, .unset, .unset, .unset, .unset, .unset]) rfl (XS.iloadN X0.here hx rfl (hb hby at_21) rfl (XS.sipush X0.here hx rfl (hb hby at_22) (XS.iand X0.here hx rfl (hb hby at_25) rfl (XS.i2c X0.here hx rfl (hb hby at_26) rfl k)))))) ?_
  show Go p.tables e below Pf (s₁.setTop (mkF m 27 #[vi iN, vi iA, vi iB, vi iC, vi (iN &&& (3 : Int32)), vi (iA &&& (255 : Int32)), vi (iB &&& (255 : Int32)), .unset, .unset, .unset, .unset, .unset, .unset, .unset] [(.int ((iC &&& (255 : Int32)).toUInt32.toUInt16.toUInt32.toInt32))]))
  refine Go.castF (a := ((iC &&& (255 : Int32)).toUInt32.toUInt16.toUInt32.toInt32)) (b := (iC &&& (255 : Int32))) (fun z' : Int32 => mkF m 27 #[vi iN, vi iA, vi iB, vi iC, vi (iN &&& (3 : Int32)), vi (iA &&& (255 : Int32)), vi (iB &&& (255 : Int32)), .unset, .unset, .unset, .unset, .unset, .unset, .unset] [(.int z')]) (i2c_mask _) ?_
  show Go p.tables e below Pf (s₁.setTop (mkF m 27 #[vi iN, vi iA, vi iB, vi iC, vi (iN &&& (3 : Int32)), vi (iA &&& (255 : Int32)), vi (iB &&& (255 : Int32)), .unset, .unset, .unset, .unset, .unset, .unset, .unset] [(.int (iC &&& (255 : Int32)))]))
  refine Go.by' (fun t k => (XS.istore X0.here hx rfl (hb hby at_27) rfl (l' := #[vi iN, vi iA, vi iB, vi iC, vi (iN &&& (3 : Int32)), vi (iA &&& (255 : Int32)), vi (iB &&& (255 : Int32)), vi (iC &&& (255 : Int32)), .unset, .unset, .unset, .unset, .unset, .unset]) rfl k)) ?_
  obtain ⟨q5, hq5⟩ : ∃ z, (iA &&& (255 : Int32)) = z := ⟨_, rfl⟩
  have bd5 : ¬ q5 < (0 : Int32) ∧ ¬ (255 : Int32) < q5 := hq5 ▸ own_m _
  show Go p.tables e below Pf (s₁.setTop (mkF m 29 #[vi iN, vi iA, vi iB, vi iC, vi (iN &&& (3 : Int32)), vi (iA &&& (255 : Int32)), vi (iB &&& (255 : Int32)), vi (iC &&& (255 : Int32)), .unset, .unset, .unset, .unset, .unset, .unset] []))
  refine Go.castF (a := (iA &&& (255 : Int32))) (b := q5) (fun z' : Int32 => mkF m 29 #[vi iN, vi iA, vi iB, vi iC, vi (iN &&& (3 : Int32)), vi z', vi (iB &&& (255 : Int32)), vi (iC &&& (255 : Int32)), .unset, .unset, .unset, .unset, .unset, .unset] []) (hq5) ?_
  obtain ⟨q6, hq6⟩ : ∃ z, (iB &&& (255 : Int32)) = z := ⟨_, rfl⟩
  have bd6 : ¬ q6 < (0 : Int32) ∧ ¬ (255 : Int32) < q6 := hq6 ▸ own_m _
  refine Go.castF (a := (iB &&& (255 : Int32))) (b := q6) (fun z' : Int32 => mkF m 29 #[vi iN, vi iA, vi iB, vi iC, vi (iN &&& (3 : Int32)), vi q5, vi z', vi (iC &&& (255 : Int32)), .unset, .unset, .unset, .unset, .unset, .unset] []) (hq6) ?_
  obtain ⟨q7, hq7⟩ : ∃ z, (iC &&& (255 : Int32)) = z := ⟨_, rfl⟩
  have bd7 : ¬ q7 < (0 : Int32) ∧ ¬ (255 : Int32) < q7 := hq7 ▸ own_m _
  refine Go.castF (a := (iC &&& (255 : Int32))) (b := q7) (fun z' : Int32 => mkF m 29 #[vi iN, vi iA, vi iB, vi iC, vi (iN &&& (3 : Int32)), vi q5, vi q6, vi z', .unset, .unset, .unset, .unset, .unset, .unset] []) (hq7) ?_
  show Go p.tables e below Pf (s₁.setTop (mkF m 29 #[vi iN, vi iA, vi iB, vi iC, vi (iN &&& (3 : Int32)), vi q5, vi q6, vi q7, .unset, .unset, .unset, .unset, .unset, .unset] []))
  rcases own_k iN with hk | hk | hk | hk
  · refine Go.castF (a := (iN &&& (3 : Int32))) (b := (0 : Int32)) (fun z' : Int32 => mkF m 29 #[vi iN, vi iA, vi iB, vi iC, vi z', vi q5, vi q6, vi q7, .unset, .unset, .unset, .unset, .unset, .unset] []) (hk) ?_
    show Go p.tables e below Pf (s₁.setTop (mkF m 29 #[vi iN, vi iA, vi iB, vi iC, vi (0 : Int32), vi q5, vi q6, vi q7, .unset, .unset, .unset, .unset, .unset, .unset] []))
    refine Go.by' (fun t k => (XS.iload X0.here hx rfl (hb hby at_29) rfl k)) ?_
    obtain ⟨T415, h415, k415, X415, e415, E415, A415, st415⟩ := newP (aty := .char) X0 hx hZ hw0 e0 (g := (mkF m 31 #[vi iN, vi iA, vi iB, vi iC, vi (0 : Int32), vi q5, vi q6, vi q7, .unset, .unset, .unset, .unset, .unset, .unset] [(.int (0 : Int32))])) rfl (hb hby at_31) rfl (by decide) (cap := 0) (by decide) (by decide) (by decide) (by decide)
    obtain ⟨b415, g415⟩ : ∃ z, z = h0.size := ⟨_, rfl⟩
    rw [← g415] at A415 st415
    refine Go.by' st415 ?_
    have Sf_b415 : Safe Z consts_1 s.vm h0 b415 := Safe.new (Nat.le_of_eq g415.symm)
    have g_b415 : n0 ≤ b415 := Nat.le_trans (own_le O0) (Nat.le_of_eq g415.symm)
    have sz_b415 : h0.size ≤ b415 := Nat.le_trans KC0.1 (Nat.le_of_eq g415.symm)
    have Sb415 := Sb0.ext E415
    have O415 := O0.ext E415
    have KC415 : Keep h0 h415 [] := KC0.ext E415
    have V415 : Arv Z h415 b415 k415 .char (0 : Int32) [] (Value.int (0 : Int32)) := (Arv.new A415 (by decide)).pad (pad_rep [] (Value.int (0 : Int32)) 0)
    show Go p.tables e below Pf (T415.setTop (mkF m 33 #[vi iN, vi iA, vi iB, vi iC, vi (0 : Int32), vi q5, vi q6, vi q7, .unset, .unset, .unset, .unset, .unset, .unset] [(.ref b415)]))
    refine Go.by' (fun t k => (XS.astore X415.here hx rfl (hb hby at_33) rfl rfl (l' := #[vi iN, vi iA, vi iB, vi iC, vi (0 : Int32), vi q5, vi q6, vi q7, vr b415, .unset, .unset, .unset, .unset, .unset]) rfl (XS.iload X415.here hx rfl (hb hby at_35) rfl (XS.ifYes X415.here hx rfl (pc0 := 37) (pc' := 46) rfl (hb hby at_37) rfl ((if0 _ _).trans (flt (by decide)).2.2.2) (by decide) (by decide) (XS.iload X415.here hx rfl (hb hby at_46) rfl (XS.iconst X415.here hx rfl (hb hby at_48) (XS.icmpYes X415.here hx rfl (pc0 := 49) (pc' := 58) rfl (hb hby at_49) rfl (flt (by decide)).2.2.2 (by decide) (by decide) (XS.iload X415.here hx rfl (hb hby at_58) rfl (XS.iconst X415.here hx rfl (hb hby at_60) k))))))))) ?_
    show Go p.tables e below Pf (T415.setTop (mkF m 61 #[vi iN, vi iA, vi iB, vi iC, vi (0 : Int32), vi q5, vi q6, vi q7, vr b415, .unset, .unset, .unset, .unset, .unset] [(.int (2 : Int32)), (.int (0 : Int32))]))
    refine Go.by' (fun t k => (XS.icmpYes X415.here hx rfl (pc0 := 61) (pc' := 70) rfl (hb hby at_61) rfl (flt (by decide)).2.2.2 (by decide) (by decide) k)) ?_
    obtain ⟨T416, h416, X416, e416, E416, A416, D416, -, st416⟩ := newO X415 hx hZ hown hw1 hw2 hw3 e415 (g := (mkF m 70 #[vi iN, vi iA, vi iB, vi iC, vi (0 : Int32), vi q5, vi q6, vi q7, vr b415, .unset, .unset, .unset, .unset, .unset] [])) rfl (hb hby at_70) (by decide) (by decide)
    obtain ⟨b416, g416⟩ : ∃ z, z = h415.size := ⟨_, rfl⟩
    rw [← g416] at A416 D416 st416
    refine Go.by' st416 ?_
    have Sf_b416 : Safe Z consts_1 s.vm h415 b416 := Safe.new (Nat.le_of_eq g416.symm)
    have g_b416 : n0 ≤ b416 := Nat.le_trans (own_le O415) (Nat.le_of_eq g416.symm)
    have sz_b416 : h0.size ≤ b416 := Nat.le_trans KC415.1 (Nat.le_of_eq g416.symm)
    have Sb416 := Sb415.ext E416
    have O416 := O415.ext E416
    have KC416 : Keep h0 h416 [] := KC415.ext E416
    have Fn416_16 : Fld Z h416 b416 "java/lang/String" "value" "[B" Value.null := D416 (Or.inr hw16) (ty := (.array .byte)) (by decide)
    have Fn416_17 : Fld Z h416 b416 "java/lang/String" "coder" "B" (Value.int (0 : Int32)) := D416 (Or.inr hw17) (ty := .byte) (by decide)
    show Go p.tables e below Pf (T416.setTop (mkF m 73 #[vi iN, vi iA, vi iB, vi iC, vi (0 : Int32), vi q5, vi q6, vi q7, vr b415, .unset, .unset, .unset, .unset, .unset] [(.ref b416)]))
    refine Go.by' (fun t k => (XS.dup X416.here hx rfl (hb hby at_73) rfl rfl (XS.aload X416.here hx rfl (hb hby at_74) rfl rfl k))) ?_
    obtain ⟨_, _, ⟨T417, L417, k417, n417⟩, -, X417, Si417, Gr417, ⟨Lc417, hQ417, l417, y417, z417, A417⟩, st417⟩ := X416.specialBackS hx (y := own_y34) rfl hown (mvT hZ hw4) (mvT hZ hw5) (mvT hZ hw6) (by decide) (own_backS (W := 1) (rmS1_0 l Z a0 hw [] vcs wI wA cA G b416 b415 k415 h416 n0 O416 A416 Fn416_16 Fn416_17 g_b416 (V415.ext E416)) Sb416 hw6 hw3 (by decide) (by decide) hEL (allS ⟨A416.lt, (Safe.ext E416 Sb415.ch Sf_b416)⟩ all0)) (g := (mkF m 76 #[vi iN, vi iA, vi iB, vi iC, vi (0 : Int32), vi q5, vi q6, vi q7, vr b415, .unset, .unset, .unset, .unset, .unset] [(.ref b415), (.ref b416), (.ref b416)])) rfl (by rw [hml]; rfl) (Steps.refl _) (a := b416) (argsL := [(.ref b415)]) (rest := [(.ref b416)]) (lenOf pd_26 rfl) rfl (Nat.le_of_eq rfl) (hb hby at_76) (fun _ _ => ⟨rfl, e416, (by decide : 2 + 4 ≤ _), (by decide : 4 + 8 ≤ _)⟩)
    dsimp only [Pt.U, Pt.locs, Pt.cells, Pt.slots] at X417 l417 y417 z417 st417 hQ417 Si417 Gr417 A417
    subst l417 y417 z417
    obtain ⟨rb_417, kb_417, rfl, N417q, K417, f417_0, f417_1, f417_2, f417_3, f417_4⟩ := hQ417
    have N417 := Fr.app N0 N417q
    obtain ⟨lc417, X417, N417⟩ := own_pack X417 N417
    replace X417 := own_reb X417
    have Sb417 := Sb416.called Si417 (by rw [← e416]; exact Gr417) A417
    have hZ417 := Sb417.hZ
    have hO417 := Sb417.hO
    refine Go.by' (fun t k => st417.trans k) ?_
    have O417 := O416.keep K417 (allS g_b416 all0)
    have KC417 : Keep h0 T417.heap [] := KC416.trans K417 (allS (Or.inr sz_b416) all0)
    show Go p.tables e below Pf (T417.setTop (mkF m 79 #[vi iN, vi iA, vi iB, vi iC, vi (0 : Int32), vi q5, vi q6, vi q7, vr b415, .unset, .unset, .unset, .unset, .unset] [(.ref b416)]))
    refine Go.by' (fun t k => (XS.astore X417.here hx rfl (hb hby at_79) rfl rfl (l' := #[vi iN, vi iA, vi iB, vi iC, vi (0 : Int32), vi q5, vi q6, vi q7, vr b415, vr b416, .unset, .unset, .unset, .unset]) rfl (XS.iload X417.here hx rfl (hb hby at_81) rfl (XS.ifNo X417.here hx rfl (hb hby at_83) rfl ((if0 _ _).trans (teq (by decide)).2) (XS.iconst X417.here hx rfl (hb hby at_86) (XS.istore X417.here hx rfl (hb hby at_87) rfl (l' := #[vi iN, vi iA, vi iB, vi iC, vi (0 : Int32), vi q5, vi q6, vi q7, vr b415, vr b416, vi (0 : Int32), .unset, .unset, .unset]) rfl (XS.goto X417.here hx rfl (pc0 := 89) (pc' := 201) rfl (hb hby at_89) (by decide) (by decide) (XS.aload X417.here hx rfl (hb hby at_201) rfl rfl k)))))))) ?_
    obtain ⟨_, _, ⟨T418, L418, k418, n418⟩, -, X418, ⟨Lc418, hQ418, l418, y418, z418⟩, st418⟩ := Jvm.LawKit.callS X417 hx (y := own_y29) hO417 (mvT hZ417 hw22) (mvT hZ417 hw23) (mvT hZ417 hw24) (mvT hZ417 hw25) (by decide) (backOf (W := 0) (rmN_0 l Z a0 hw [] vcs wI wA cA G b416 rb_417 kb_417 T417.heap n0 O417 f417_0 f417_1 f417_2 f417_3) hZ417 hw25 hw24 (by decide) (by decide)) (g := (mkF m 203 #[vi iN, vi iA, vi iB, vi iC, vi (0 : Int32), vi q5, vi q6, vi q7, vr b415, vr b416, vi (0 : Int32), .unset, .unset, .unset] [(.ref b416)])) rfl (by rw [hml]; rfl) (argsL := [(.ref b416)]) (rest := []) (lenOf pd_21 rfl) rfl (Nat.le_of_eq rfl) (hb hby at_203) (fun _ _ => ⟨rfl, rfl, (by decide : 6 + 0 ≤ _), (by decide : 12 + 0 ≤ _)⟩)
    dsimp only [Pt.U, Pt.locs, Pt.cells, Pt.slots] at X418 l418 y418 z418 st418 hQ418
    subst l418 y418 z418
    obtain ⟨rfl, rfl, e418⟩ := hQ418
    try replace X418 := own_nil X418
    refine Go.by' st418 ?_
    show Go p.tables e below Pf (T418.setTop (mkF m 206 #[vi iN, vi iA, vi iB, vi iC, vi (0 : Int32), vi q5, vi q6, vi q7, vr b415, vr b416, vi (0 : Int32), .unset, .unset, .unset] [(.int (0 : Int32))]))
    refine Go.by' (fun t k => (XS.iload X418.here hx rfl (hb hby at_206) rfl (XS.icmpNo X418.here hx rfl (hb hby at_208) rfl (teq (by decide)).2 (XS.iconst X418.here hx rfl (hb hby at_211) (XS.goto X418.here hx rfl (pc0 := 212) (pc' := 216) rfl (hb hby at_212) (by decide) (by decide) k))))) ?_
    show Go p.tables e below Pf (T418.setTop (mkF m 216 #[vi iN, vi iA, vi iB, vi iC, vi (0 : Int32), vi q5, vi q6, vi q7, vr b415, vr b416, vi (0 : Int32), .unset, .unset, .unset] [(.int (1 : Int32))]))
    rw [hPf]
    exact Go.retIS X418 hx hEL Sb417 e418 hh hret hlk (by simp) rfl (hb hby at_216) (by decide) (by decide) ⟨rfl, N417, (by rw [e418]; exact KC417)⟩
  · refine Go.castF (a := (iN &&& (3 : Int32))) (b := (1 : Int32)) (fun z' : Int32 => mkF m 29 #[vi iN, vi iA, vi iB, vi iC, vi z', vi q5, vi q6, vi q7, .unset, .unset, .unset, .unset, .unset, .unset] []) (hk) ?_
    show Go p.tables e below Pf (s₁.setTop (mkF m 29 #[vi iN, vi iA, vi iB, vi iC, vi (1 : Int32), vi q5, vi q6, vi q7, .unset, .unset, .unset, .unset, .unset, .unset] []))
    refine Go.by' (fun t k => (XS.iload X0.here hx rfl (hb hby at_29) rfl k)) ?_
    obtain ⟨T419, h419, k419, X419, e419, E419, A419, st419⟩ := newP (aty := .char) X0 hx hZ hw0 e0 (g := (mkF m 31 #[vi iN, vi iA, vi iB, vi iC, vi (1 : Int32), vi q5, vi q6, vi q7, .unset, .unset, .unset, .unset, .unset, .unset] [(.int (1 : Int32))])) rfl (hb hby at_31) rfl (by decide) (cap := 1) (by decide) (by decide) (by decide) (by decide)
    obtain ⟨b419, g419⟩ : ∃ z, z = h0.size := ⟨_, rfl⟩
    rw [← g419] at A419 st419
    refine Go.by' st419 ?_
    have Sf_b419 : Safe Z consts_1 s.vm h0 b419 := Safe.new (Nat.le_of_eq g419.symm)
    have g_b419 : n0 ≤ b419 := Nat.le_trans (own_le O0) (Nat.le_of_eq g419.symm)
    have sz_b419 : h0.size ≤ b419 := Nat.le_trans KC0.1 (Nat.le_of_eq g419.symm)
    have Sb419 := Sb0.ext E419
    have O419 := O0.ext E419
    have KC419 : Keep h0 h419 [] := KC0.ext E419
    have V419 : Arv Z h419 b419 k419 .char (1 : Int32) [(.int (0 : Int32))] (Value.int (0 : Int32)) := (Arv.new A419 (by decide)).pad (pad_rep [] (Value.int (0 : Int32)) 1)
    show Go p.tables e below Pf (T419.setTop (mkF m 33 #[vi iN, vi iA, vi iB, vi iC, vi (1 : Int32), vi q5, vi q6, vi q7, .unset, .unset, .unset, .unset, .unset, .unset] [(.ref b419)]))
    refine Go.by' (fun t k => (XS.astore X419.here hx rfl (hb hby at_33) rfl rfl (l' := #[vi iN, vi iA, vi iB, vi iC, vi (1 : Int32), vi q5, vi q6, vi q7, vr b419, .unset, .unset, .unset, .unset, .unset]) rfl (XS.iload X419.here hx rfl (hb hby at_35) rfl (XS.ifNo X419.here hx rfl (hb hby at_37) rfl ((if0 _ _).trans (tlt (by decide)).2.2.2) (XS.aload X419.here hx rfl (hb hby at_40) rfl rfl (XS.iconst X419.here hx rfl (hb hby at_42) (XS.iload X419.here hx rfl (hb hby at_43) rfl k))))))) ?_
    obtain ⟨cl420, Ar420, q420, S420, P420, H420, G420⟩ := (id V419)
    have hin420 : ¬ ((0 : Int32) < 0 ∨ cl420.slots.size ≤ ((0 : Int32)).toNatClampNeg) := inb_of S420 ⟨by decide, by decide⟩
    obtain ⟨T421, h421, X421, e421, W421, st421⟩ := stC X419 hx hZ e419 Ar420 (j := (0 : Int32)) hin420 (g := (mkF m 45 #[vi iN, vi iA, vi iB, vi iC, vi (1 : Int32), vi q5, vi q6, vi q7, vr b419, .unset, .unset, .unset, .unset, .unset] [(.int q5), (.int (0 : Int32)), (.ref b419)])) rfl rfl (hb hby at_45)
    refine Go.by' st421 ?_
    rw [(own_nc bd5.1 bd5.2 : nar .char q5 = q5)] at W421
    have V421 : Arv Z h421 b419 k419 .char (1 : Int32) [(.int q5)] (Value.int (0 : Int32)) := Arv.set Ar420 q420 S420 P420 H420 G420 (by have q := fits_nar_char q5; rw [(own_nc bd5.1 bd5.2 : nar .char q5 = q5)] at q; exact q) W421 0 rfl (Nat.le_of_ble_eq_true rfl)
    have N421 := Fr.snoc X421 N0 g_b419
    obtain ⟨lc421, X421, N421⟩ := own_pack X421 N421
    have Sb421 := Sb419.wr W421 (Safe.ext E419 Sb0.ch Sf_b419)
    have O421 := O419.wr W421 g_b419
    have KC421 : Keep h0 h421 [] := KC419.wr W421 (Or.inr sz_b419)
    show Go p.tables e below Pf (T421.setTop (mkF m 46 #[vi iN, vi iA, vi iB, vi iC, vi (1 : Int32), vi q5, vi q6, vi q7, vr b419, .unset, .unset, .unset, .unset, .unset] []))
    refine Go.by' (fun t k => (XS.iload X421.here hx rfl (hb hby at_46) rfl (XS.iconst X421.here hx rfl (hb hby at_48) (XS.icmpYes X421.here hx rfl (pc0 := 49) (pc' := 58) rfl (hb hby at_49) rfl (flt (by decide)).2.2.2 (by decide) (by decide) (XS.iload X421.here hx rfl (hb hby at_58) rfl (XS.iconst X421.here hx rfl (hb hby at_60) (XS.icmpYes X421.here hx rfl (pc0 := 61) (pc' := 70) rfl (hb hby at_61) rfl (flt (by decide)).2.2.2 (by decide) (by decide) k))))))) ?_
    obtain ⟨T422, h422, X422, e422, E422, A422, D422, -, st422⟩ := newO X421 hx hZ hown hw1 hw2 hw3 e421 (g := (mkF m 70 #[vi iN, vi iA, vi iB, vi iC, vi (1 : Int32), vi q5, vi q6, vi q7, vr b419, .unset, .unset, .unset, .unset, .unset] [])) rfl (hb hby at_70) (by decide) (by decide)
    obtain ⟨b422, g422⟩ : ∃ z, z = h421.size := ⟨_, rfl⟩
    rw [← g422] at A422 D422 st422
    refine Go.by' st422 ?_
    have Sf_b422 : Safe Z consts_1 s.vm h421 b422 := Safe.new (Nat.le_of_eq g422.symm)
    have g_b422 : n0 ≤ b422 := Nat.le_trans (own_le O421) (Nat.le_of_eq g422.symm)
    have sz_b422 : h0.size ≤ b422 := Nat.le_trans KC421.1 (Nat.le_of_eq g422.symm)
    have Sb422 := Sb421.ext E422
    have O422 := O421.ext E422
    have KC422 : Keep h0 h422 [] := KC421.ext E422
    have Fn422_16 : Fld Z h422 b422 "java/lang/String" "value" "[B" Value.null := D422 (Or.inr hw16) (ty := (.array .byte)) (by decide)
    have Fn422_17 : Fld Z h422 b422 "java/lang/String" "coder" "B" (Value.int (0 : Int32)) := D422 (Or.inr hw17) (ty := .byte) (by decide)
    show Go p.tables e below Pf (T422.setTop (mkF m 73 #[vi iN, vi iA, vi iB, vi iC, vi (1 : Int32), vi q5, vi q6, vi q7, vr b419, .unset, .unset, .unset, .unset, .unset] [(.ref b422)]))
    refine Go.by' (fun t k => (XS.dup X422.here hx rfl (hb hby at_73) rfl rfl (XS.aload X422.here hx rfl (hb hby at_74) rfl rfl k))) ?_
    obtain ⟨_, _, ⟨T423, L423, k423, n423⟩, -, X423, ⟨Lc423, hQ423, l423, y423, z423⟩, st423⟩ := X422.specialBack hx (y := own_y34) rfl hown (mvT hZ hw4) (mvT hZ hw5) (mvT hZ hw6) (by decide) (backOf (W := 1) (rmS1_1 l Z a0 hw [] vcs wI wA cA G b422 b419 k419 q5 h422 n0 O422 A422 Fn422_16 Fn422_17 g_b422 (V421.ext E422) (Ne.symm (Nat.ne_of_lt (Nat.lt_of_lt_of_le (Nat.lt_of_lt_of_le V419.lt (Nat.le_of_eq W421.size.symm)) (Nat.le_of_eq g422.symm)))) bd5.2) hZ hw6 hw3 (by decide) (by decide)) (g := (mkF m 76 #[vi iN, vi iA, vi iB, vi iC, vi (1 : Int32), vi q5, vi q6, vi q7, vr b419, .unset, .unset, .unset, .unset, .unset] [(.ref b419), (.ref b422), (.ref b422)])) rfl (by rw [hml]; rfl) (Steps.refl _) (a := b422) (argsL := [(.ref b419)]) (rest := [(.ref b422)]) (lenOf pd_26 rfl) rfl (Nat.le_of_eq rfl) (hb hby at_76) (fun _ _ => ⟨rfl, e422, (by decide : 2 + 1 ≤ _), (by decide : 5 + 1 ≤ _)⟩)
    dsimp only [Pt.U, Pt.locs, Pt.cells, Pt.slots] at X423 l423 y423 z423 st423 hQ423
    subst l423 y423 z423
    obtain ⟨rb_423, kb_423, rfl, N423q, K423, f423_0, f423_1, f423_2, f423_3, f423_4⟩ := hQ423
    have N423 := Fr.app N421 N423q
    obtain ⟨lc423, X423, N423⟩ := own_pack X423 N423
    refine Go.by' (fun t k => st423.trans k) ?_
    have Sf_rb_423 : Safe Z consts_1 s.vm h422 rb_423 := Safe.new f423_4
    have g_rb_423 : n0 ≤ rb_423 := Nat.le_trans (own_le O422) f423_4
    have sz_rb_423 : h0.size ≤ rb_423 := Nat.le_trans KC422.1 f423_4
    have Sb423 := Sb422.keep K423 (sfS (Safe.ext E422 Sb421.ch Sf_b422) sf0)
    have O423 := O422.keep K423 (allS g_b422 all0)
    have KC423 : Keep h0 T423.heap [] := KC422.trans K423 (allS (Or.inr sz_b422) all0)
    show Go p.tables e below Pf (T423.setTop (mkF m 79 #[vi iN, vi iA, vi iB, vi iC, vi (1 : Int32), vi q5, vi q6, vi q7, vr b419, .unset, .unset, .unset, .unset, .unset] [(.ref b422)]))
    refine Go.by' (fun t k => (XS.astore X423.here hx rfl (hb hby at_79) rfl rfl (l' := #[vi iN, vi iA, vi iB, vi iC, vi (1 : Int32), vi q5, vi q6, vi q7, vr b419, vr b422, .unset, .unset, .unset, .unset]) rfl (XS.iload X423.here hx rfl (hb hby at_81) rfl (XS.ifYes X423.here hx rfl (pc0 := 83) (pc' := 92) rfl (hb hby at_83) rfl ((if0 _ _).trans (feq (by decide)).2) (by decide) (by decide) (XS.iload X423.here hx rfl (hb hby at_92) rfl (XS.istore X423.here hx rfl (hb hby at_94) rfl (l' := #[vi iN, vi iA, vi iB, vi iC, vi (1 : Int32), vi q5, vi q6, vi q7, vr b419, vr b422, .unset, vi q5, .unset, .unset]) rfl (XS.iload X423.here hx rfl (hb hby at_96) rfl (XS.iconst X423.here hx rfl (hb hby at_98) (XS.icmpNo X423.here hx rfl (hb hby at_99) rfl (teq (by decide)).2 k))))))))) ?_
    show Go p.tables e below Pf (T423.setTop (mkF m 102 #[vi iN, vi iA, vi iB, vi iC, vi (1 : Int32), vi q5, vi q6, vi q7, vr b419, vr b422, .unset, vi q5, .unset, .unset] []))
    refine Go.by' (fun t k => (XS.iload X423.here hx rfl (hb hby at_102) rfl (XS.istore X423.here hx rfl (hb hby at_104) rfl (l' := #[vi iN, vi iA, vi iB, vi iC, vi (1 : Int32), vi q5, vi q6, vi q7, vr b419, vr b422, .unset, vi q5, vi q5, .unset]) rfl (XS.goto X423.here hx rfl (pc0 := 106) (pc' := 126) rfl (hb hby at_106) (by decide) (by decide) (XS.iload X423.here hx rfl (hb hby at_126) rfl (XS.bipush X423.here hx rfl (hb hby at_128) k)))))) ?_
    show Go p.tables e below Pf (T423.setTop (mkF m 130 #[vi iN, vi iA, vi iB, vi iC, vi (1 : Int32), vi q5, vi q6, vi q7, vr b419, vr b422, .unset, vi q5, vi q5, .unset] [(.int (44 : Int32)), (.int q5)]))
    have jn425 : ∀ (T' : State) (w425_0 : Int32), Like X423 T' → T'.heap = T423.heap → ((q5 = (44 : Int32) ∧ w425_0 = (1 : Int32)) ∨ (¬ (q5 = (44 : Int32)) ∧ w425_0 = (0 : Int32))) → Go p.tables e below Pf (T'.setTop (mkF m 164 #[vi iN, vi iA, vi iB, vi iC, vi (1 : Int32), vi q5, vi q6, vi q7, vr b419, vr b422, .unset, vi q5, vi q5, .unset] [(.int w425_0)])) := by
      intro T425 w425_0 X425 e425 hm425
      unfold Like at X425
      have bw425_0 : w425_0 = 0 ∨ w425_0 = 1 := by rcases hm425 with ⟨_, h⟩ | ⟨_, h⟩ <;> first | exact Or.inl h | exact Or.inr h
      show Go p.tables e below Pf (T425.setTop (mkF m 164 #[vi iN, vi iA, vi iB, vi iC, vi (1 : Int32), vi q5, vi q6, vi q7, vr b419, vr b422, .unset, vi q5, vi q5, .unset] [(.int w425_0)]))
      refine Go.by' (fun t k => (XS.istore X425.here hx rfl (hb hby at_164) rfl (l' := #[vi iN, vi iA, vi iB, vi iC, vi (1 : Int32), vi q5, vi q6, vi q7, vr b419, vr b422, .unset, vi q5, vi q5, vi w425_0]) rfl (XS.iload X425.here hx rfl (hb hby at_166) rfl k))) ?_
      obtain ⟨_, _, ⟨T426, L426, k426, n426⟩, -, X426, ⟨Lc426, hQ426, l426, y426, z426⟩, st426⟩ := Jvm.LawKit.callS X425 hx (y := own_y2) hown (mvT hZ hw42) (mvT hZ hw43) (mvT hZ hw44) (mvT hZ hw45) (by decide) (backOf (W := 0) (rmWs l Z a0 hw [] vcs wI wA cA G q5 T423.heap n0 O423 ) hZ hw45 hw44 (by decide) (by decide)) (g := (mkF m 168 #[vi iN, vi iA, vi iB, vi iC, vi (1 : Int32), vi q5, vi q6, vi q7, vr b419, vr b422, .unset, vi q5, vi q5, vi w425_0] [(.int q5)])) rfl (by rw [hml]; rfl) (argsL := [(.int q5)]) (rest := []) (lenOf pd_27 rfl) rfl (Nat.le_of_eq rfl) (hb hby at_168) (fun _ _ => ⟨rfl, e425, (by decide : 3 + 0 ≤ _), (by decide : 6 + 0 ≤ _)⟩)
      dsimp only [Pt.U, Pt.locs, Pt.cells, Pt.slots] at X426 l426 y426 z426 st426 hQ426
      subst l426 y426 z426
      obtain ⟨r_426, rfl, rfl, e426, r426_0⟩ := hQ426
      try replace X426 := own_nil X426
      refine Go.by' st426 ?_
      rcases r426_0 with ⟨hw426, hz426⟩ | ⟨hw426, hz426⟩
      · subst hz426
        show Go p.tables e below Pf (T426.setTop (mkF m 171 #[vi iN, vi iA, vi iB, vi iC, vi (1 : Int32), vi q5, vi q6, vi q7, vr b419, vr b422, .unset, vi q5, vi q5, vi w425_0] [(.int (1 : Int32))]))
        refine Go.by' (fun t k => (XS.ifYes X426.here hx rfl (pc0 := 171) (pc' := 198) rfl (hb hby at_171) rfl ((if0 _ _).trans (feq (by decide)).2) (by decide) (by decide) (XS.iconst X426.here hx rfl (hb hby at_198) (XS.istore X426.here hx rfl (hb hby at_199) rfl (l' := #[vi iN, vi iA, vi iB, vi iC, vi (1 : Int32), vi q5, vi q6, vi q7, vr b419, vr b422, vi (0 : Int32), vi q5, vi q5, vi w425_0]) rfl (XS.aload X426.here hx rfl (hb hby at_201) rfl rfl k))))) ?_
        obtain ⟨_, _, ⟨T427, L427, k427, n427⟩, -, X427, Si427, Gr427, ⟨Lc427, hQ427, l427, y427, z427, A427⟩, st427⟩ := callSS X426 hx (y := own_y29) hown (mvT hZ hw22) (mvT hZ hw23) (mvT hZ hw24) (mvT hZ hw25) (by decide) (own_backS (W := 0) (rmN_1 l Z a0 hw [] vcs wI wA cA G b422 rb_423 kb_423 q5 T423.heap n0 O423 f423_0 f423_1 f423_2 f423_3 bd5.1 bd5.2) Sb423 hw25 hw24 (by decide) (by decide) hEL all0) (g := (mkF m 203 #[vi iN, vi iA, vi iB, vi iC, vi (1 : Int32), vi q5, vi q6, vi q7, vr b419, vr b422, vi (0 : Int32), vi q5, vi q5, vi w425_0] [(.ref b422)])) rfl (by rw [hml]; rfl) (argsL := [(.ref b422)]) (rest := []) (lenOf pd_21 rfl) rfl (Nat.le_of_eq rfl) (hb hby at_203) (fun _ _ => ⟨rfl, e426, (by decide : 3 + 4 ≤ _), (by decide : 6 + 16 ≤ _)⟩)
        dsimp only [Pt.U, Pt.locs, Pt.cells, Pt.slots] at X427 l427 y427 z427 st427 hQ427 Si427 Gr427 A427
        subst l427 y427 z427
        obtain ⟨r_427, rfl, N427q, K427, r427_0⟩ := hQ427
        have N427 := Fr.app N423 N427q
        obtain ⟨lc427, X427, N427⟩ := own_pack X427 N427
        replace X427 := own_reb X427
        have Sb427 := Sb423.called Si427 (by rw [← e426]; exact Gr427) A427
        have hZ427 := Sb427.hZ
        have hO427 := Sb427.hO
        refine Go.by' (fun t k => st427.trans k) ?_
        have O427 := O423.keep K427 all0
        have KC427 : Keep h0 T427.heap [] := KC423.trans K427 all0
        obtain rfl : r_427 = (0 : Int32) := r427_0.elim (fun q => absurd (q.1.1 hw426) id) (fun q => q.2)
        show Go p.tables e below Pf (T427.setTop (mkF m 206 #[vi iN, vi iA, vi iB, vi iC, vi (1 : Int32), vi q5, vi q6, vi q7, vr b419, vr b422, vi (0 : Int32), vi q5, vi q5, vi w425_0] [(.int (0 : Int32))]))
        refine Go.by' (fun t k => (XS.iload X427.here hx rfl (hb hby at_206) rfl (XS.icmpNo X427.here hx rfl (hb hby at_208) rfl (teq (by decide)).2 (XS.iconst X427.here hx rfl (hb hby at_211) (XS.goto X427.here hx rfl (pc0 := 212) (pc' := 216) rfl (hb hby at_212) (by decide) (by decide) k))))) ?_
        show Go p.tables e below Pf (T427.setTop (mkF m 216 #[vi iN, vi iA, vi iB, vi iC, vi (1 : Int32), vi q5, vi q6, vi q7, vr b419, vr b422, vi (0 : Int32), vi q5, vi q5, vi w425_0] [(.int (1 : Int32))]))
        rw [hPf]
        exact Go.retIS X427 hx hEL Sb427 rfl hh hret hlk (by simp) rfl (hb hby at_216) (by decide) (by decide) ⟨rfl, N427, KC427⟩
      · subst hz426
        show Go p.tables e below Pf (T426.setTop (mkF m 171 #[vi iN, vi iA, vi iB, vi iC, vi (1 : Int32), vi q5, vi q6, vi q7, vr b419, vr b422, .unset, vi q5, vi q5, vi w425_0] [(.int (0 : Int32))]))
        refine Go.by' (fun t k => (XS.ifNo X426.here hx rfl (hb hby at_171) rfl ((if0 _ _).trans (teq (by decide)).2) (XS.iload X426.here hx rfl (hb hby at_174) rfl k))) ?_
        obtain ⟨_, _, ⟨T428, L428, k428, n428⟩, -, X428, ⟨Lc428, hQ428, l428, y428, z428⟩, st428⟩ := Jvm.LawKit.callS X426 hx (y := own_y2) hown (mvT hZ hw42) (mvT hZ hw43) (mvT hZ hw44) (mvT hZ hw45) (by decide) (backOf (W := 0) (rmWs l Z a0 hw [] vcs wI wA cA G q5 T423.heap n0 O423 ) hZ hw45 hw44 (by decide) (by decide)) (g := (mkF m 176 #[vi iN, vi iA, vi iB, vi iC, vi (1 : Int32), vi q5, vi q6, vi q7, vr b419, vr b422, .unset, vi q5, vi q5, vi w425_0] [(.int q5)])) rfl (by rw [hml]; rfl) (argsL := [(.int q5)]) (rest := []) (lenOf pd_27 rfl) rfl (Nat.le_of_eq rfl) (hb hby at_176) (fun _ _ => ⟨rfl, e426, (by decide : 3 + 0 ≤ _), (by decide : 6 + 0 ≤ _)⟩)
        dsimp only [Pt.U, Pt.locs, Pt.cells, Pt.slots] at X428 l428 y428 z428 st428 hQ428
        subst l428 y428 z428
        obtain ⟨r_428, rfl, rfl, e428, r428_0⟩ := hQ428
        try replace X428 := own_nil X428
        refine Go.by' st428 ?_
        rcases r428_0 with ⟨hw428, hz428⟩ | ⟨hw428, hz428⟩
        · subst hz428
          show Go p.tables e below Pf (T428.setTop (mkF m 179 #[vi iN, vi iA, vi iB, vi iC, vi (1 : Int32), vi q5, vi q6, vi q7, vr b419, vr b422, .unset, vi q5, vi q5, vi w425_0] [(.int (1 : Int32))]))
          refine Go.by' (fun t k => (XS.ifYes X428.here hx rfl (pc0 := 179) (pc' := 198) rfl (hb hby at_179) rfl ((if0 _ _).trans (feq (by decide)).2) (by decide) (by decide) (XS.iconst X428.here hx rfl (hb hby at_198) (XS.istore X428.here hx rfl (hb hby at_199) rfl (l' := #[vi iN, vi iA, vi iB, vi iC, vi (1 : Int32), vi q5, vi q6, vi q7, vr b419, vr b422, vi (0 : Int32), vi q5, vi q5, vi w425_0]) rfl (XS.aload X428.here hx rfl (hb hby at_201) rfl rfl k))))) ?_
          obtain ⟨_, _, ⟨T429, L429, k429, n429⟩, -, X429, Si429, Gr429, ⟨Lc429, hQ429, l429, y429, z429, A429⟩, st429⟩ := callSS X428 hx (y := own_y29) hown (mvT hZ hw22) (mvT hZ hw23) (mvT hZ hw24) (mvT hZ hw25) (by decide) (own_backS (W := 0) (rmN_1 l Z a0 hw [] vcs wI wA cA G b422 rb_423 kb_423 q5 T423.heap n0 O423 f423_0 f423_1 f423_2 f423_3 bd5.1 bd5.2) Sb423 hw25 hw24 (by decide) (by decide) hEL all0) (g := (mkF m 203 #[vi iN, vi iA, vi iB, vi iC, vi (1 : Int32), vi q5, vi q6, vi q7, vr b419, vr b422, vi (0 : Int32), vi q5, vi q5, vi w425_0] [(.ref b422)])) rfl (by rw [hml]; rfl) (argsL := [(.ref b422)]) (rest := []) (lenOf pd_21 rfl) rfl (Nat.le_of_eq rfl) (hb hby at_203) (fun _ _ => ⟨rfl, e428, (by decide : 3 + 4 ≤ _), (by decide : 6 + 16 ≤ _)⟩)
          dsimp only [Pt.U, Pt.locs, Pt.cells, Pt.slots] at X429 l429 y429 z429 st429 hQ429 Si429 Gr429 A429
          subst l429 y429 z429
          obtain ⟨r_429, rfl, N429q, K429, r429_0⟩ := hQ429
          have N429 := Fr.app N423 N429q
          obtain ⟨lc429, X429, N429⟩ := own_pack X429 N429
          replace X429 := own_reb X429
          have Sb429 := Sb423.called Si429 (by rw [← e428]; exact Gr429) A429
          have hZ429 := Sb429.hZ
          have hO429 := Sb429.hO
          refine Go.by' (fun t k => st429.trans k) ?_
          have O429 := O423.keep K429 all0
          have KC429 : Keep h0 T429.heap [] := KC423.trans K429 all0
          obtain rfl : r_429 = (0 : Int32) := r429_0.elim (fun q => absurd (q.1.2.1 hw428) id) (fun q => q.2)
          show Go p.tables e below Pf (T429.setTop (mkF m 206 #[vi iN, vi iA, vi iB, vi iC, vi (1 : Int32), vi q5, vi q6, vi q7, vr b419, vr b422, vi (0 : Int32), vi q5, vi q5, vi w425_0] [(.int (0 : Int32))]))
          refine Go.by' (fun t k => (XS.iload X429.here hx rfl (hb hby at_206) rfl (XS.icmpNo X429.here hx rfl (hb hby at_208) rfl (teq (by decide)).2 (XS.iconst X429.here hx rfl (hb hby at_211) (XS.goto X429.here hx rfl (pc0 := 212) (pc' := 216) rfl (hb hby at_212) (by decide) (by decide) k))))) ?_
          show Go p.tables e below Pf (T429.setTop (mkF m 216 #[vi iN, vi iA, vi iB, vi iC, vi (1 : Int32), vi q5, vi q6, vi q7, vr b419, vr b422, vi (0 : Int32), vi q5, vi q5, vi w425_0] [(.int (1 : Int32))]))
          rw [hPf]
          exact Go.retIS X429 hx hEL Sb429 rfl hh hret hlk (by simp) rfl (hb hby at_216) (by decide) (by decide) ⟨rfl, N429, KC429⟩
        · subst hz428
          show Go p.tables e below Pf (T428.setTop (mkF m 179 #[vi iN, vi iA, vi iB, vi iC, vi (1 : Int32), vi q5, vi q6, vi q7, vr b419, vr b422, .unset, vi q5, vi q5, vi w425_0] [(.int (0 : Int32))]))
          refine Go.by' (fun t k => (XS.ifNo X428.here hx rfl (hb hby at_179) rfl ((if0 _ _).trans (teq (by decide)).2) (XS.iload X428.here hx rfl (hb hby at_182) rfl k))) ?_
          show Go p.tables e below Pf (T428.setTop (mkF m 184 #[vi iN, vi iA, vi iB, vi iC, vi (1 : Int32), vi q5, vi q6, vi q7, vr b419, vr b422, .unset, vi q5, vi q5, vi w425_0] [(.int w425_0)]))
          by_cases hc430 : w425_0 = (0 : Int32)
          · refine Go.by' (fun t k => (XS.ifNo X428.here hx rfl (hb hby at_184) rfl ((if0 _ _).trans (teq hc430).2) (XS.iload X428.here hx rfl (hb hby at_187) rfl (XS.bipush X428.here hx rfl (hb hby at_189) k)))) ?_
            show Go p.tables e below Pf (T428.setTop (mkF m 191 #[vi iN, vi iA, vi iB, vi iC, vi (1 : Int32), vi q5, vi q6, vi q7, vr b419, vr b422, .unset, vi q5, vi q5, vi w425_0] [(.int (33 : Int32)), (.int q5)]))
            by_cases hc431 : q5 = (33 : Int32)
            · refine Go.by' (fun t k => (XS.icmpYes X428.here hx rfl (pc0 := 191) (pc' := 198) rfl (hb hby at_191) rfl (teq hc431).1 (by decide) (by decide) (XS.iconst X428.here hx rfl (hb hby at_198) (XS.istore X428.here hx rfl (hb hby at_199) rfl (l' := #[vi iN, vi iA, vi iB, vi iC, vi (1 : Int32), vi q5, vi q6, vi q7, vr b419, vr b422, vi (0 : Int32), vi q5, vi q5, vi w425_0]) rfl (XS.aload X428.here hx rfl (hb hby at_201) rfl rfl k))))) ?_
              obtain ⟨_, _, ⟨T432, L432, k432, n432⟩, -, X432, Si432, Gr432, ⟨Lc432, hQ432, l432, y432, z432, A432⟩, st432⟩ := callSS X428 hx (y := own_y29) hown (mvT hZ hw22) (mvT hZ hw23) (mvT hZ hw24) (mvT hZ hw25) (by decide) (own_backS (W := 0) (rmN_1 l Z a0 hw [] vcs wI wA cA G b422 rb_423 kb_423 q5 T423.heap n0 O423 f423_0 f423_1 f423_2 f423_3 bd5.1 bd5.2) Sb423 hw25 hw24 (by decide) (by decide) hEL all0) (g := (mkF m 203 #[vi iN, vi iA, vi iB, vi iC, vi (1 : Int32), vi q5, vi q6, vi q7, vr b419, vr b422, vi (0 : Int32), vi q5, vi q5, vi w425_0] [(.ref b422)])) rfl (by rw [hml]; rfl) (argsL := [(.ref b422)]) (rest := []) (lenOf pd_21 rfl) rfl (Nat.le_of_eq rfl) (hb hby at_203) (fun _ _ => ⟨rfl, e428, (by decide : 3 + 4 ≤ _), (by decide : 6 + 16 ≤ _)⟩)
              dsimp only [Pt.U, Pt.locs, Pt.cells, Pt.slots] at X432 l432 y432 z432 st432 hQ432 Si432 Gr432 A432
              subst l432 y432 z432
              obtain ⟨r_432, rfl, N432q, K432, r432_0⟩ := hQ432
              have N432 := Fr.app N423 N432q
              obtain ⟨lc432, X432, N432⟩ := own_pack X432 N432
              replace X432 := own_reb X432
              have Sb432 := Sb423.called Si432 (by rw [← e428]; exact Gr432) A432
              have hZ432 := Sb432.hZ
              have hO432 := Sb432.hO
              refine Go.by' (fun t k => st432.trans k) ?_
              have O432 := O423.keep K432 all0
              have KC432 : Keep h0 T432.heap [] := KC423.trans K432 all0
              obtain rfl : r_432 = (0 : Int32) := r432_0.elim (fun q => absurd (q.1.2.2.2 hc431) id) (fun q => q.2)
              show Go p.tables e below Pf (T432.setTop (mkF m 206 #[vi iN, vi iA, vi iB, vi iC, vi (1 : Int32), vi q5, vi q6, vi q7, vr b419, vr b422, vi (0 : Int32), vi q5, vi q5, vi w425_0] [(.int (0 : Int32))]))
              refine Go.by' (fun t k => (XS.iload X432.here hx rfl (hb hby at_206) rfl (XS.icmpNo X432.here hx rfl (hb hby at_208) rfl (teq (by decide)).2 (XS.iconst X432.here hx rfl (hb hby at_211) (XS.goto X432.here hx rfl (pc0 := 212) (pc' := 216) rfl (hb hby at_212) (by decide) (by decide) k))))) ?_
              show Go p.tables e below Pf (T432.setTop (mkF m 216 #[vi iN, vi iA, vi iB, vi iC, vi (1 : Int32), vi q5, vi q6, vi q7, vr b419, vr b422, vi (0 : Int32), vi q5, vi q5, vi w425_0] [(.int (1 : Int32))]))
              rw [hPf]
              exact Go.retIS X432 hx hEL Sb432 rfl hh hret hlk (by simp) rfl (hb hby at_216) (by decide) (by decide) ⟨rfl, N432, KC432⟩
            · refine Go.by' (fun t k => (XS.icmpNo X428.here hx rfl (hb hby at_191) rfl (feq hc431).1 (XS.iconst X428.here hx rfl (hb hby at_194) (XS.goto X428.here hx rfl (pc0 := 195) (pc' := 199) rfl (hb hby at_195) (by decide) (by decide) (XS.istore X428.here hx rfl (hb hby at_199) rfl (l' := #[vi iN, vi iA, vi iB, vi iC, vi (1 : Int32), vi q5, vi q6, vi q7, vr b419, vr b422, vi (1 : Int32), vi q5, vi q5, vi w425_0]) rfl (XS.aload X428.here hx rfl (hb hby at_201) rfl rfl k)))))) ?_
              obtain ⟨_, _, ⟨T433, L433, k433, n433⟩, -, X433, Si433, Gr433, ⟨Lc433, hQ433, l433, y433, z433, A433⟩, st433⟩ := callSS X428 hx (y := own_y29) hown (mvT hZ hw22) (mvT hZ hw23) (mvT hZ hw24) (mvT hZ hw25) (by decide) (own_backS (W := 0) (rmN_1 l Z a0 hw [] vcs wI wA cA G b422 rb_423 kb_423 q5 T423.heap n0 O423 f423_0 f423_1 f423_2 f423_3 bd5.1 bd5.2) Sb423 hw25 hw24 (by decide) (by decide) hEL all0) (g := (mkF m 203 #[vi iN, vi iA, vi iB, vi iC, vi (1 : Int32), vi q5, vi q6, vi q7, vr b419, vr b422, vi (1 : Int32), vi q5, vi q5, vi w425_0] [(.ref b422)])) rfl (by rw [hml]; rfl) (argsL := [(.ref b422)]) (rest := []) (lenOf pd_21 rfl) rfl (Nat.le_of_eq rfl) (hb hby at_203) (fun _ _ => ⟨rfl, e428, (by decide : 3 + 4 ≤ _), (by decide : 6 + 16 ≤ _)⟩)
              dsimp only [Pt.U, Pt.locs, Pt.cells, Pt.slots] at X433 l433 y433 z433 st433 hQ433 Si433 Gr433 A433
              subst l433 y433 z433
              obtain ⟨r_433, rfl, N433q, K433, r433_0⟩ := hQ433
              have N433 := Fr.app N423 N433q
              obtain ⟨lc433, X433, N433⟩ := own_pack X433 N433
              replace X433 := own_reb X433
              have Sb433 := Sb423.called Si433 (by rw [← e428]; exact Gr433) A433
              have hZ433 := Sb433.hZ
              have hO433 := Sb433.hO
              refine Go.by' (fun t k => st433.trans k) ?_
              have O433 := O423.keep K433 all0
              have KC433 : Keep h0 T433.heap [] := KC423.trans K433 all0
              have nE : ¬ (q5 = (44 : Int32)) := by
                rcases hm425 with ⟨h0, hv⟩ | ⟨g0, hv⟩
                · exact absurd (hv.symm.trans hc430) (by decide)
                · exact g0
              obtain rfl : r_433 = (1 : Int32) := r433_0.elim (fun q => q.2) (fun q => absurd ⟨hw426, hw428, nE, hc431⟩ q.1)
              show Go p.tables e below Pf (T433.setTop (mkF m 206 #[vi iN, vi iA, vi iB, vi iC, vi (1 : Int32), vi q5, vi q6, vi q7, vr b419, vr b422, vi (1 : Int32), vi q5, vi q5, vi w425_0] [(.int (1 : Int32))]))
              refine Go.by' (fun t k => (XS.iload X433.here hx rfl (hb hby at_206) rfl (XS.icmpNo X433.here hx rfl (hb hby at_208) rfl (teq (by decide)).2 (XS.iconst X433.here hx rfl (hb hby at_211) (XS.goto X433.here hx rfl (pc0 := 212) (pc' := 216) rfl (hb hby at_212) (by decide) (by decide) k))))) ?_
              show Go p.tables e below Pf (T433.setTop (mkF m 216 #[vi iN, vi iA, vi iB, vi iC, vi (1 : Int32), vi q5, vi q6, vi q7, vr b419, vr b422, vi (1 : Int32), vi q5, vi q5, vi w425_0] [(.int (1 : Int32))]))
              rw [hPf]
              exact Go.retIS X433 hx hEL Sb433 rfl hh hret hlk (by simp) rfl (hb hby at_216) (by decide) (by decide) ⟨rfl, N433, KC433⟩
          · refine Go.by' (fun t k => (XS.ifYes X428.here hx rfl (pc0 := 184) (pc' := 198) rfl (hb hby at_184) rfl ((if0 _ _).trans (feq hc430).2) (by decide) (by decide) (XS.iconst X428.here hx rfl (hb hby at_198) (XS.istore X428.here hx rfl (hb hby at_199) rfl (l' := #[vi iN, vi iA, vi iB, vi iC, vi (1 : Int32), vi q5, vi q6, vi q7, vr b419, vr b422, vi (0 : Int32), vi q5, vi q5, vi w425_0]) rfl (XS.aload X428.here hx rfl (hb hby at_201) rfl rfl k))))) ?_
            obtain ⟨_, _, ⟨T434, L434, k434, n434⟩, -, X434, Si434, Gr434, ⟨Lc434, hQ434, l434, y434, z434, A434⟩, st434⟩ := callSS X428 hx (y := own_y29) hown (mvT hZ hw22) (mvT hZ hw23) (mvT hZ hw24) (mvT hZ hw25) (by decide) (own_backS (W := 0) (rmN_1 l Z a0 hw [] vcs wI wA cA G b422 rb_423 kb_423 q5 T423.heap n0 O423 f423_0 f423_1 f423_2 f423_3 bd5.1 bd5.2) Sb423 hw25 hw24 (by decide) (by decide) hEL all0) (g := (mkF m 203 #[vi iN, vi iA, vi iB, vi iC, vi (1 : Int32), vi q5, vi q6, vi q7, vr b419, vr b422, vi (0 : Int32), vi q5, vi q5, vi w425_0] [(.ref b422)])) rfl (by rw [hml]; rfl) (argsL := [(.ref b422)]) (rest := []) (lenOf pd_21 rfl) rfl (Nat.le_of_eq rfl) (hb hby at_203) (fun _ _ => ⟨rfl, e428, (by decide : 3 + 4 ≤ _), (by decide : 6 + 16 ≤ _)⟩)
            dsimp only [Pt.U, Pt.locs, Pt.cells, Pt.slots] at X434 l434 y434 z434 st434 hQ434 Si434 Gr434 A434
            subst l434 y434 z434
            obtain ⟨r_434, rfl, N434q, K434, r434_0⟩ := hQ434
            have N434 := Fr.app N423 N434q
            obtain ⟨lc434, X434, N434⟩ := own_pack X434 N434
            replace X434 := own_reb X434
            have Sb434 := Sb423.called Si434 (by rw [← e428]; exact Gr434) A434
            have hZ434 := Sb434.hZ
            have hO434 := Sb434.hO
            refine Go.by' (fun t k => st434.trans k) ?_
            have O434 := O423.keep K434 all0
            have KC434 : Keep h0 T434.heap [] := KC423.trans K434 all0
            have hE : (q5 = (44 : Int32)) := by
              rcases hm425 with ⟨h0, hv⟩ | ⟨g0, hv⟩
              · exact h0
              · exact absurd hv hc430
            obtain rfl : r_434 = (0 : Int32) := r434_0.elim (fun q => absurd (q.1.2.2.1 hE) id) (fun q => q.2)
            show Go p.tables e below Pf (T434.setTop (mkF m 206 #[vi iN, vi iA, vi iB, vi iC, vi (1 : Int32), vi q5, vi q6, vi q7, vr b419, vr b422, vi (0 : Int32), vi q5, vi q5, vi w425_0] [(.int (0 : Int32))]))
            refine Go.by' (fun t k => (XS.iload X434.here hx rfl (hb hby at_206) rfl (XS.icmpNo X434.here hx rfl (hb hby at_208) rfl (teq (by decide)).2 (XS.iconst X434.here hx rfl (hb hby at_211) (XS.goto X434.here hx rfl (pc0 := 212) (pc' := 216) rfl (hb hby at_212) (by decide) (by decide) k))))) ?_
            show Go p.tables e below Pf (T434.setTop (mkF m 216 #[vi iN, vi iA, vi iB, vi iC, vi (1 : Int32), vi q5, vi q6, vi q7, vr b419, vr b422, vi (0 : Int32), vi q5, vi q5, vi w425_0] [(.int (1 : Int32))]))
            rw [hPf]
            exact Go.retIS X434 hx hEL Sb434 rfl hh hret hlk (by simp) rfl (hb hby at_216) (by decide) (by decide) ⟨rfl, N434, KC434⟩
    by_cases hc435 : q5 = (44 : Int32)
    · refine Go.by' (fun t k => (XS.icmpYes X423.here hx rfl (pc0 := 130) (pc' := 159) rfl (hb hby at_130) rfl (teq hc435).1 (by decide) (by decide) (XS.iconst X423.here hx rfl (hb hby at_159) (XS.goto X423.here hx rfl (pc0 := 160) (pc' := 164) rfl (hb hby at_160) (by decide) (by decide) k)))) ?_
      show Go p.tables e below Pf (T423.setTop (mkF m 164 #[vi iN, vi iA, vi iB, vi iC, vi (1 : Int32), vi q5, vi q6, vi q7, vr b419, vr b422, .unset, vi q5, vi q5, .unset] [(.int (1 : Int32))]))
      exact jn425 T423 ((1 : Int32)) X423 rfl  (Or.inl ⟨hc435, rfl⟩)
    · refine Go.by' (fun t k => (XS.icmpNo X423.here hx rfl (hb hby at_130) rfl (feq hc435).1 (XS.iload X423.here hx rfl (hb hby at_133) rfl (XS.iconst X423.here hx rfl (hb hby at_135) (XS.icmpYes X423.here hx rfl (pc0 := 136) (pc' := 146) rfl (hb hby at_136) rfl (flt (by decide)).2.2.2 (by decide) (by decide) (XS.iload X423.here hx rfl (hb hby at_146) rfl (XS.iconst X423.here hx rfl (hb hby at_148) (XS.icmpYes X423.here hx rfl (pc0 := 149) (pc' := 163) rfl (hb hby at_149) rfl (flt (by decide)).2.2.2 (by decide) (by decide) (XS.iconst X423.here hx rfl (hb hby at_163) k))))))))) ?_
      show Go p.tables e below Pf (T423.setTop (mkF m 164 #[vi iN, vi iA, vi iB, vi iC, vi (1 : Int32), vi q5, vi q6, vi q7, vr b419, vr b422, .unset, vi q5, vi q5, .unset] [(.int (0 : Int32))]))
      exact jn425 T423 ((0 : Int32)) X423 rfl  (Or.inr ⟨hc435, rfl⟩)
  · refine Go.castF (a := (iN &&& (3 : Int32))) (b := (2 : Int32)) (fun z' : Int32 => mkF m 29 #[vi iN, vi iA, vi iB, vi iC, vi z', vi q5, vi q6, vi q7, .unset, .unset, .unset, .unset, .unset, .unset] []) (hk) ?_
    show Go p.tables e below Pf (s₁.setTop (mkF m 29 #[vi iN, vi iA, vi iB, vi iC, vi (2 : Int32), vi q5, vi q6, vi q7, .unset, .unset, .unset, .unset, .unset, .unset] []))
    refine Go.by' (fun t k => (XS.iload X0.here hx rfl (hb hby at_29) rfl k)) ?_
    obtain ⟨T436, h436, k436, X436, e436, E436, A436, st436⟩ := newP (aty := .char) X0 hx hZ hw0 e0 (g := (mkF m 31 #[vi iN, vi iA, vi iB, vi iC, vi (2 : Int32), vi q5, vi q6, vi q7, .unset, .unset, .unset, .unset, .unset, .unset] [(.int (2 : Int32))])) rfl (hb hby at_31) rfl (by decide) (cap := 2) (by decide) (by decide) (by decide) (by decide)
    obtain ⟨b436, g436⟩ : ∃ z, z = h0.size := ⟨_, rfl⟩
    rw [← g436] at A436 st436
    refine Go.by' st436 ?_
    have Sf_b436 : Safe Z consts_1 s.vm h0 b436 := Safe.new (Nat.le_of_eq g436.symm)
    have g_b436 : n0 ≤ b436 := Nat.le_trans (own_le O0) (Nat.le_of_eq g436.symm)
    have sz_b436 : h0.size ≤ b436 := Nat.le_trans KC0.1 (Nat.le_of_eq g436.symm)
    have Sb436 := Sb0.ext E436
    have O436 := O0.ext E436
    have KC436 : Keep h0 h436 [] := KC0.ext E436
    have V436 : Arv Z h436 b436 k436 .char (2 : Int32) [(.int (0 : Int32)), (.int (0 : Int32))] (Value.int (0 : Int32)) := (Arv.new A436 (by decide)).pad (pad_rep [] (Value.int (0 : Int32)) 2)
    show Go p.tables e below Pf (T436.setTop (mkF m 33 #[vi iN, vi iA, vi iB, vi iC, vi (2 : Int32), vi q5, vi q6, vi q7, .unset, .unset, .unset, .unset, .unset, .unset] [(.ref b436)]))
    refine Go.by' (fun t k => (XS.astore X436.here hx rfl (hb hby at_33) rfl rfl (l' := #[vi iN, vi iA, vi iB, vi iC, vi (2 : Int32), vi q5, vi q6, vi q7, vr b436, .unset, .unset, .unset, .unset, .unset]) rfl (XS.iload X436.here hx rfl (hb hby at_35) rfl (XS.ifNo X436.here hx rfl (hb hby at_37) rfl ((if0 _ _).trans (tlt (by decide)).2.2.2) (XS.aload X436.here hx rfl (hb hby at_40) rfl rfl (XS.iconst X436.here hx rfl (hb hby at_42) (XS.iload X436.here hx rfl (hb hby at_43) rfl k))))))) ?_
    obtain ⟨cl437, Ar437, q437, S437, P437, H437, G437⟩ := (id V436)
    have hin437 : ¬ ((0 : Int32) < 0 ∨ cl437.slots.size ≤ ((0 : Int32)).toNatClampNeg) := inb_of S437 ⟨by decide, by decide⟩
    obtain ⟨T438, h438, X438, e438, W438, st438⟩ := stC X436 hx hZ e436 Ar437 (j := (0 : Int32)) hin437 (g := (mkF m 45 #[vi iN, vi iA, vi iB, vi iC, vi (2 : Int32), vi q5, vi q6, vi q7, vr b436, .unset, .unset, .unset, .unset, .unset] [(.int q5), (.int (0 : Int32)), (.ref b436)])) rfl rfl (hb hby at_45)
    refine Go.by' st438 ?_
    rw [(own_nc bd5.1 bd5.2 : nar .char q5 = q5)] at W438
    have V438 : Arv Z h438 b436 k436 .char (2 : Int32) [(.int q5), (.int (0 : Int32))] (Value.int (0 : Int32)) := Arv.set Ar437 q437 S437 P437 H437 G437 (by have q := fits_nar_char q5; rw [(own_nc bd5.1 bd5.2 : nar .char q5 = q5)] at q; exact q) W438 0 rfl (Nat.le_of_ble_eq_true rfl)
    have N438 := Fr.snoc X438 N0 g_b436
    obtain ⟨lc438, X438, N438⟩ := own_pack X438 N438
    have Sb438 := Sb436.wr W438 (Safe.ext E436 Sb0.ch Sf_b436)
    have O438 := O436.wr W438 g_b436
    have KC438 : Keep h0 h438 [] := KC436.wr W438 (Or.inr sz_b436)
    show Go p.tables e below Pf (T438.setTop (mkF m 46 #[vi iN, vi iA, vi iB, vi iC, vi (2 : Int32), vi q5, vi q6, vi q7, vr b436, .unset, .unset, .unset, .unset, .unset] []))
    refine Go.by' (fun t k => (XS.iload X438.here hx rfl (hb hby at_46) rfl (XS.iconst X438.here hx rfl (hb hby at_48) (XS.icmpNo X438.here hx rfl (hb hby at_49) rfl (tlt (by decide)).2.2.2 (XS.aload X438.here hx rfl (hb hby at_52) rfl rfl (XS.iconst X438.here hx rfl (hb hby at_54) (XS.iload X438.here hx rfl (hb hby at_55) rfl k))))))) ?_
    obtain ⟨cl439, Ar439, q439, S439, P439, H439, G439⟩ := (id V438)
    have hin439 : ¬ ((1 : Int32) < 0 ∨ cl439.slots.size ≤ ((1 : Int32)).toNatClampNeg) := inb_of S439 ⟨by decide, by decide⟩
    obtain ⟨T440, h440, X440, e440, W440, st440⟩ := stC X438 hx hZ e438 Ar439 (j := (1 : Int32)) hin439 (g := (mkF m 57 #[vi iN, vi iA, vi iB, vi iC, vi (2 : Int32), vi q5, vi q6, vi q7, vr b436, .unset, .unset, .unset, .unset, .unset] [(.int q6), (.int (1 : Int32)), (.ref b436)])) rfl rfl (hb hby at_57)
    refine Go.by' st440 ?_
    rw [(own_nc bd6.1 bd6.2 : nar .char q6 = q6)] at W440
    have V440 : Arv Z h440 b436 k436 .char (2 : Int32) [(.int q5), (.int q6)] (Value.int (0 : Int32)) := Arv.set Ar439 q439 S439 P439 H439 G439 (by have q := fits_nar_char q6; rw [(own_nc bd6.1 bd6.2 : nar .char q6 = q6)] at q; exact q) W440 1 rfl (Nat.le_of_ble_eq_true rfl)
    have N440 := Fr.snoc X440 N438 g_b436
    obtain ⟨lc440, X440, N440⟩ := own_pack X440 N440
    have Sb440 := Sb438.wr W440 (Safe.wr W438 (Safe.ext E436 Sb0.ch Sf_b436) Sb436.ch (Safe.ext E436 Sb0.ch Sf_b436))
    have O440 := O438.wr W440 g_b436
    have KC440 : Keep h0 h440 [] := KC438.wr W440 (Or.inr sz_b436)
    show Go p.tables e below Pf (T440.setTop (mkF m 58 #[vi iN, vi iA, vi iB, vi iC, vi (2 : Int32), vi q5, vi q6, vi q7, vr b436, .unset, .unset, .unset, .unset, .unset] []))
    refine Go.by' (fun t k => (XS.iload X440.here hx rfl (hb hby at_58) rfl (XS.iconst X440.here hx rfl (hb hby at_60) (XS.icmpYes X440.here hx rfl (pc0 := 61) (pc' := 70) rfl (hb hby at_61) rfl (flt (by decide)).2.2.2 (by decide) (by decide) k)))) ?_
    obtain ⟨T441, h441, X441, e441, E441, A441, D441, -, st441⟩ := newO X440 hx hZ hown hw1 hw2 hw3 e440 (g := (mkF m 70 #[vi iN, vi iA, vi iB, vi iC, vi (2 : Int32), vi q5, vi q6, vi q7, vr b436, .unset, .unset, .unset, .unset, .unset] [])) rfl (hb hby at_70) (by decide) (by decide)
    obtain ⟨b441, g441⟩ : ∃ z, z = h440.size := ⟨_, rfl⟩
    rw [← g441] at A441 D441 st441
    refine Go.by' st441 ?_
    have Sf_b441 : Safe Z consts_1 s.vm h440 b441 := Safe.new (Nat.le_of_eq g441.symm)
    have g_b441 : n0 ≤ b441 := Nat.le_trans (own_le O440) (Nat.le_of_eq g441.symm)
    have sz_b441 : h0.size ≤ b441 := Nat.le_trans KC440.1 (Nat.le_of_eq g441.symm)
    have Sb441 := Sb440.ext E441
    have O441 := O440.ext E441
    have KC441 : Keep h0 h441 [] := KC440.ext E441
    have Fn441_16 : Fld Z h441 b441 "java/lang/String" "value" "[B" Value.null := D441 (Or.inr hw16) (ty := (.array .byte)) (by decide)
    have Fn441_17 : Fld Z h441 b441 "java/lang/String" "coder" "B" (Value.int (0 : Int32)) := D441 (Or.inr hw17) (ty := .byte) (by decide)
    show Go p.tables e below Pf (T441.setTop (mkF m 73 #[vi iN, vi iA, vi iB, vi iC, vi (2 : Int32), vi q5, vi q6, vi q7, vr b436, .unset, .unset, .unset, .unset, .unset] [(.ref b441)]))
    refine Go.by' (fun t k => (XS.dup X441.here hx rfl (hb hby at_73) rfl rfl (XS.aload X441.here hx rfl (hb hby at_74) rfl rfl k))) ?_
    obtain ⟨_, _, ⟨T442, L442, k442, n442⟩, -, X442, ⟨Lc442, hQ442, l442, y442, z442⟩, st442⟩ := X441.specialBack hx (y := own_y34) rfl hown (mvT hZ hw4) (mvT hZ hw5) (mvT hZ hw6) (by decide) (backOf (W := 1) (rmS1_2 l Z a0 hw [] vcs wI wA cA G b441 b436 k436 q5 q6 h441 n0 O441 A441 Fn441_16 Fn441_17 g_b441 (V440.ext E441) (Ne.symm (Nat.ne_of_lt (Nat.lt_of_lt_of_le (Nat.lt_of_lt_of_le V436.lt (Nat.le_trans (Nat.le_of_eq W438.size.symm) (Nat.le_of_eq W440.size.symm))) (Nat.le_of_eq g441.symm)))) bd5.2 bd6.2) hZ hw6 hw3 (by decide) (by decide)) (g := (mkF m 76 #[vi iN, vi iA, vi iB, vi iC, vi (2 : Int32), vi q5, vi q6, vi q7, vr b436, .unset, .unset, .unset, .unset, .unset] [(.ref b436), (.ref b441), (.ref b441)])) rfl (by rw [hml]; rfl) (Steps.refl _) (a := b441) (argsL := [(.ref b436)]) (rest := [(.ref b441)]) (lenOf pd_26 rfl) rfl (Nat.le_of_eq rfl) (hb hby at_76) (fun _ _ => ⟨rfl, e441, (by decide : 2 + 1 ≤ _), (by decide : 6 + 2 ≤ _)⟩)
    dsimp only [Pt.U, Pt.locs, Pt.cells, Pt.slots] at X442 l442 y442 z442 st442 hQ442
    subst l442 y442 z442
    obtain ⟨rb_442, kb_442, rfl, N442q, K442, f442_0, f442_1, f442_2, f442_3, f442_4⟩ := hQ442
    have N442 := Fr.app N440 N442q
    obtain ⟨lc442, X442, N442⟩ := own_pack X442 N442
    refine Go.by' (fun t k => st442.trans k) ?_
    have Sf_rb_442 : Safe Z consts_1 s.vm h441 rb_442 := Safe.new f442_4
    have g_rb_442 : n0 ≤ rb_442 := Nat.le_trans (own_le O441) f442_4
    have sz_rb_442 : h0.size ≤ rb_442 := Nat.le_trans KC441.1 f442_4
    have Sb442 := Sb441.keep K442 (sfS (Safe.ext E441 Sb440.ch Sf_b441) sf0)
    have O442 := O441.keep K442 (allS g_b441 all0)
    have KC442 : Keep h0 T442.heap [] := KC441.trans K442 (allS (Or.inr sz_b441) all0)
    show Go p.tables e below Pf (T442.setTop (mkF m 79 #[vi iN, vi iA, vi iB, vi iC, vi (2 : Int32), vi q5, vi q6, vi q7, vr b436, .unset, .unset, .unset, .unset, .unset] [(.ref b441)]))
    refine Go.by' (fun t k => (XS.astore X442.here hx rfl (hb hby at_79) rfl rfl (l' := #[vi iN, vi iA, vi iB, vi iC, vi (2 : Int32), vi q5, vi q6, vi q7, vr b436, vr b441, .unset, .unset, .unset, .unset]) rfl (XS.iload X442.here hx rfl (hb hby at_81) rfl (XS.ifYes X442.here hx rfl (pc0 := 83) (pc' := 92) rfl (hb hby at_83) rfl ((if0 _ _).trans (feq (by decide)).2) (by decide) (by decide) (XS.iload X442.here hx rfl (hb hby at_92) rfl (XS.istore X442.here hx rfl (hb hby at_94) rfl (l' := #[vi iN, vi iA, vi iB, vi iC, vi (2 : Int32), vi q5, vi q6, vi q7, vr b436, vr b441, .unset, vi q5, .unset, .unset]) rfl (XS.iload X442.here hx rfl (hb hby at_96) rfl (XS.iconst X442.here hx rfl (hb hby at_98) (XS.icmpYes X442.here hx rfl (pc0 := 99) (pc' := 109) rfl (hb hby at_99) rfl (feq (by decide)).2 (by decide) (by decide) k))))))))) ?_
    show Go p.tables e below Pf (T442.setTop (mkF m 109 #[vi iN, vi iA, vi iB, vi iC, vi (2 : Int32), vi q5, vi q6, vi q7, vr b436, vr b441, .unset, vi q5, .unset, .unset] []))
    refine Go.by' (fun t k => (XS.iload X442.here hx rfl (hb hby at_109) rfl (XS.iconst X442.here hx rfl (hb hby at_111) (XS.icmpNo X442.here hx rfl (hb hby at_112) rfl (teq (by decide)).2 (XS.iload X442.here hx rfl (hb hby at_115) rfl (XS.istore X442.here hx rfl (hb hby at_117) rfl (l' := #[vi iN, vi iA, vi iB, vi iC, vi (2 : Int32), vi q5, vi q6, vi q7, vr b436, vr b441, .unset, vi q5, vi q6, .unset]) rfl (XS.goto X442.here hx rfl (pc0 := 119) (pc' := 126) rfl (hb hby at_119) (by decide) (by decide) (XS.iload X442.here hx rfl (hb hby at_126) rfl (XS.bipush X442.here hx rfl (hb hby at_128) k))))))))) ?_
    show Go p.tables e below Pf (T442.setTop (mkF m 130 #[vi iN, vi iA, vi iB, vi iC, vi (2 : Int32), vi q5, vi q6, vi q7, vr b436, vr b441, .unset, vi q5, vi q6, .unset] [(.int (44 : Int32)), (.int q5)]))
    have jn445 : ∀ (T' : State) (w445_0 : Int32), Like X442 T' → T'.heap = T442.heap → ((q5 = (44 : Int32) ∧ w445_0 = (1 : Int32)) ∨ (¬ (q5 = (44 : Int32)) ∧ q6 = (44 : Int32) ∧ w445_0 = (1 : Int32)) ∨ (¬ (q5 = (44 : Int32)) ∧ ¬ (q6 = (44 : Int32)) ∧ w445_0 = (0 : Int32))) → Go p.tables e below Pf (T'.setTop (mkF m 164 #[vi iN, vi iA, vi iB, vi iC, vi (2 : Int32), vi q5, vi q6, vi q7, vr b436, vr b441, .unset, vi q5, vi q6, .unset] [(.int w445_0)])) := by
      intro T445 w445_0 X445 e445 hm445
      unfold Like at X445
      have bw445_0 : w445_0 = 0 ∨ w445_0 = 1 := by rcases hm445 with ⟨_, h⟩ | ⟨_, _, h⟩ | ⟨_, _, h⟩ <;> first | exact Or.inl h | exact Or.inr h
      show Go p.tables e below Pf (T445.setTop (mkF m 164 #[vi iN, vi iA, vi iB, vi iC, vi (2 : Int32), vi q5, vi q6, vi q7, vr b436, vr b441, .unset, vi q5, vi q6, .unset] [(.int w445_0)]))
      refine Go.by' (fun t k => (XS.istore X445.here hx rfl (hb hby at_164) rfl (l' := #[vi iN, vi iA, vi iB, vi iC, vi (2 : Int32), vi q5, vi q6, vi q7, vr b436, vr b441, .unset, vi q5, vi q6, vi w445_0]) rfl (XS.iload X445.here hx rfl (hb hby at_166) rfl k))) ?_
      obtain ⟨_, _, ⟨T446, L446, k446, n446⟩, -, X446, ⟨Lc446, hQ446, l446, y446, z446⟩, st446⟩ := Jvm.LawKit.callS X445 hx (y := own_y2) hown (mvT hZ hw42) (mvT hZ hw43) (mvT hZ hw44) (mvT hZ hw45) (by decide) (backOf (W := 0) (rmWs l Z a0 hw [] vcs wI wA cA G q5 T442.heap n0 O442 ) hZ hw45 hw44 (by decide) (by decide)) (g := (mkF m 168 #[vi iN, vi iA, vi iB, vi iC, vi (2 : Int32), vi q5, vi q6, vi q7, vr b436, vr b441, .unset, vi q5, vi q6, vi w445_0] [(.int q5)])) rfl (by rw [hml]; rfl) (argsL := [(.int q5)]) (rest := []) (lenOf pd_27 rfl) rfl (Nat.le_of_eq rfl) (hb hby at_168) (fun _ _ => ⟨rfl, e445, (by decide : 3 + 0 ≤ _), (by decide : 8 + 0 ≤ _)⟩)
      dsimp only [Pt.U, Pt.locs, Pt.cells, Pt.slots] at X446 l446 y446 z446 st446 hQ446
      subst l446 y446 z446
      obtain ⟨r_446, rfl, rfl, e446, r446_0⟩ := hQ446
      try replace X446 := own_nil X446
      refine Go.by' st446 ?_
      rcases r446_0 with ⟨hw446, hz446⟩ | ⟨hw446, hz446⟩
      · subst hz446
        show Go p.tables e below Pf (T446.setTop (mkF m 171 #[vi iN, vi iA, vi iB, vi iC, vi (2 : Int32), vi q5, vi q6, vi q7, vr b436, vr b441, .unset, vi q5, vi q6, vi w445_0] [(.int (1 : Int32))]))
        refine Go.by' (fun t k => (XS.ifYes X446.here hx rfl (pc0 := 171) (pc' := 198) rfl (hb hby at_171) rfl ((if0 _ _).trans (feq (by decide)).2) (by decide) (by decide) (XS.iconst X446.here hx rfl (hb hby at_198) (XS.istore X446.here hx rfl (hb hby at_199) rfl (l' := #[vi iN, vi iA, vi iB, vi iC, vi (2 : Int32), vi q5, vi q6, vi q7, vr b436, vr b441, vi (0 : Int32), vi q5, vi q6, vi w445_0]) rfl (XS.aload X446.here hx rfl (hb hby at_201) rfl rfl k))))) ?_
        obtain ⟨_, _, ⟨T447, L447, k447, n447⟩, -, X447, Si447, Gr447, ⟨Lc447, hQ447, l447, y447, z447, A447⟩, st447⟩ := callSS X446 hx (y := own_y29) hown (mvT hZ hw22) (mvT hZ hw23) (mvT hZ hw24) (mvT hZ hw25) (by decide) (own_backS (W := 0) (rmN_2 l Z a0 hw [] vcs wI wA cA G b441 rb_442 kb_442 q5 q6 T442.heap n0 O442 f442_0 f442_1 f442_2 f442_3 bd5.1 bd5.2 bd6.1 bd6.2) Sb442 hw25 hw24 (by decide) (by decide) hEL all0) (g := (mkF m 203 #[vi iN, vi iA, vi iB, vi iC, vi (2 : Int32), vi q5, vi q6, vi q7, vr b436, vr b441, vi (0 : Int32), vi q5, vi q6, vi w445_0] [(.ref b441)])) rfl (by rw [hml]; rfl) (argsL := [(.ref b441)]) (rest := []) (lenOf pd_21 rfl) rfl (Nat.le_of_eq rfl) (hb hby at_203) (fun _ _ => ⟨rfl, e446, (by decide : 3 + 4 ≤ _), (by decide : 8 + 16 ≤ _)⟩)
        dsimp only [Pt.U, Pt.locs, Pt.cells, Pt.slots] at X447 l447 y447 z447 st447 hQ447 Si447 Gr447 A447
        subst l447 y447 z447
        obtain ⟨r_447, rfl, N447q, K447, r447_0⟩ := hQ447
        have N447 := Fr.app N442 N447q
        obtain ⟨lc447, X447, N447⟩ := own_pack X447 N447
        replace X447 := own_reb X447
        have Sb447 := Sb442.called Si447 (by rw [← e446]; exact Gr447) A447
        have hZ447 := Sb447.hZ
        have hO447 := Sb447.hO
        refine Go.by' (fun t k => st447.trans k) ?_
        have O447 := O442.keep K447 all0
        have KC447 : Keep h0 T447.heap [] := KC442.trans K447 all0
        obtain rfl : r_447 = (0 : Int32) := r447_0.elim (fun q => absurd (q.1.1 hw446) id) (fun q => q.2)
        show Go p.tables e below Pf (T447.setTop (mkF m 206 #[vi iN, vi iA, vi iB, vi iC, vi (2 : Int32), vi q5, vi q6, vi q7, vr b436, vr b441, vi (0 : Int32), vi q5, vi q6, vi w445_0] [(.int (0 : Int32))]))
        refine Go.by' (fun t k => (XS.iload X447.here hx rfl (hb hby at_206) rfl (XS.icmpNo X447.here hx rfl (hb hby at_208) rfl (teq (by decide)).2 (XS.iconst X447.here hx rfl (hb hby at_211) (XS.goto X447.here hx rfl (pc0 := 212) (pc' := 216) rfl (hb hby at_212) (by decide) (by decide) k))))) ?_
        show Go p.tables e below Pf (T447.setTop (mkF m 216 #[vi iN, vi iA, vi iB, vi iC, vi (2 : Int32), vi q5, vi q6, vi q7, vr b436, vr b441, vi (0 : Int32), vi q5, vi q6, vi w445_0] [(.int (1 : Int32))]))
        rw [hPf]
        exact Go.retIS X447 hx hEL Sb447 rfl hh hret hlk (by simp) rfl (hb hby at_216) (by decide) (by decide) ⟨rfl, N447, KC447⟩
      · subst hz446
        show Go p.tables e below Pf (T446.setTop (mkF m 171 #[vi iN, vi iA, vi iB, vi iC, vi (2 : Int32), vi q5, vi q6, vi q7, vr b436, vr b441, .unset, vi q5, vi q6, vi w445_0] [(.int (0 : Int32))]))
        refine Go.by' (fun t k => (XS.ifNo X446.here hx rfl (hb hby at_171) rfl ((if0 _ _).trans (teq (by decide)).2) (XS.iload X446.here hx rfl (hb hby at_174) rfl k))) ?_
        obtain ⟨_, _, ⟨T448, L448, k448, n448⟩, -, X448, ⟨Lc448, hQ448, l448, y448, z448⟩, st448⟩ := Jvm.LawKit.callS X446 hx (y := own_y2) hown (mvT hZ hw42) (mvT hZ hw43) (mvT hZ hw44) (mvT hZ hw45) (by decide) (backOf (W := 0) (rmWs l Z a0 hw [] vcs wI wA cA G q6 T442.heap n0 O442 ) hZ hw45 hw44 (by decide) (by decide)) (g := (mkF m 176 #[vi iN, vi iA, vi iB, vi iC, vi (2 : Int32), vi q5, vi q6, vi q7, vr b436, vr b441, .unset, vi q5, vi q6, vi w445_0] [(.int q6)])) rfl (by rw [hml]; rfl) (argsL := [(.int q6)]) (rest := []) (lenOf pd_27 rfl) rfl (Nat.le_of_eq rfl) (hb hby at_176) (fun _ _ => ⟨rfl, e446, (by decide : 3 + 0 ≤ _), (by decide : 8 + 0 ≤ _)⟩)
        dsimp only [Pt.U, Pt.locs, Pt.cells, Pt.slots] at X448 l448 y448 z448 st448 hQ448
        subst l448 y448 z448
        obtain ⟨r_448, rfl, rfl, e448, r448_0⟩ := hQ448
        try replace X448 := own_nil X448
        refine Go.by' st448 ?_
        rcases r448_0 with ⟨hw448, hz448⟩ | ⟨hw448, hz448⟩
        · subst hz448
          show Go p.tables e below Pf (T448.setTop (mkF m 179 #[vi iN, vi iA, vi iB, vi iC, vi (2 : Int32), vi q5, vi q6, vi q7, vr b436, vr b441, .unset, vi q5, vi q6, vi w445_0] [(.int (1 : Int32))]))
          refine Go.by' (fun t k => (XS.ifYes X448.here hx rfl (pc0 := 179) (pc' := 198) rfl (hb hby at_179) rfl ((if0 _ _).trans (feq (by decide)).2) (by decide) (by decide) (XS.iconst X448.here hx rfl (hb hby at_198) (XS.istore X448.here hx rfl (hb hby at_199) rfl (l' := #[vi iN, vi iA, vi iB, vi iC, vi (2 : Int32), vi q5, vi q6, vi q7, vr b436, vr b441, vi (0 : Int32), vi q5, vi q6, vi w445_0]) rfl (XS.aload X448.here hx rfl (hb hby at_201) rfl rfl k))))) ?_
          obtain ⟨_, _, ⟨T449, L449, k449, n449⟩, -, X449, Si449, Gr449, ⟨Lc449, hQ449, l449, y449, z449, A449⟩, st449⟩ := callSS X448 hx (y := own_y29) hown (mvT hZ hw22) (mvT hZ hw23) (mvT hZ hw24) (mvT hZ hw25) (by decide) (own_backS (W := 0) (rmN_2 l Z a0 hw [] vcs wI wA cA G b441 rb_442 kb_442 q5 q6 T442.heap n0 O442 f442_0 f442_1 f442_2 f442_3 bd5.1 bd5.2 bd6.1 bd6.2) Sb442 hw25 hw24 (by decide) (by decide) hEL all0) (g := (mkF m 203 #[vi iN, vi iA, vi iB, vi iC, vi (2 : Int32), vi q5, vi q6, vi q7, vr b436, vr b441, vi (0 : Int32), vi q5, vi q6, vi w445_0] [(.ref b441)])) rfl (by rw [hml]; rfl) (argsL := [(.ref b441)]) (rest := []) (lenOf pd_21 rfl) rfl (Nat.le_of_eq rfl) (hb hby at_203) (fun _ _ => ⟨rfl, e448, (by decide : 3 + 4 ≤ _), (by decide : 8 + 16 ≤ _)⟩)
          dsimp only [Pt.U, Pt.locs, Pt.cells, Pt.slots] at X449 l449 y449 z449 st449 hQ449 Si449 Gr449 A449
          subst l449 y449 z449
          obtain ⟨r_449, rfl, N449q, K449, r449_0⟩ := hQ449
          have N449 := Fr.app N442 N449q
          obtain ⟨lc449, X449, N449⟩ := own_pack X449 N449
          replace X449 := own_reb X449
          have Sb449 := Sb442.called Si449 (by rw [← e448]; exact Gr449) A449
          have hZ449 := Sb449.hZ
          have hO449 := Sb449.hO
          refine Go.by' (fun t k => st449.trans k) ?_
          have O449 := O442.keep K449 all0
          have KC449 : Keep h0 T449.heap [] := KC442.trans K449 all0
          obtain rfl : r_449 = (0 : Int32) := r449_0.elim (fun q => absurd (q.1.2.1 hw448) id) (fun q => q.2)
          show Go p.tables e below Pf (T449.setTop (mkF m 206 #[vi iN, vi iA, vi iB, vi iC, vi (2 : Int32), vi q5, vi q6, vi q7, vr b436, vr b441, vi (0 : Int32), vi q5, vi q6, vi w445_0] [(.int (0 : Int32))]))
          refine Go.by' (fun t k => (XS.iload X449.here hx rfl (hb hby at_206) rfl (XS.icmpNo X449.here hx rfl (hb hby at_208) rfl (teq (by decide)).2 (XS.iconst X449.here hx rfl (hb hby at_211) (XS.goto X449.here hx rfl (pc0 := 212) (pc' := 216) rfl (hb hby at_212) (by decide) (by decide) k))))) ?_
          show Go p.tables e below Pf (T449.setTop (mkF m 216 #[vi iN, vi iA, vi iB, vi iC, vi (2 : Int32), vi q5, vi q6, vi q7, vr b436, vr b441, vi (0 : Int32), vi q5, vi q6, vi w445_0] [(.int (1 : Int32))]))
          rw [hPf]
          exact Go.retIS X449 hx hEL Sb449 rfl hh hret hlk (by simp) rfl (hb hby at_216) (by decide) (by decide) ⟨rfl, N449, KC449⟩
        · subst hz448
          show Go p.tables e below Pf (T448.setTop (mkF m 179 #[vi iN, vi iA, vi iB, vi iC, vi (2 : Int32), vi q5, vi q6, vi q7, vr b436, vr b441, .unset, vi q5, vi q6, vi w445_0] [(.int (0 : Int32))]))
          refine Go.by' (fun t k => (XS.ifNo X448.here hx rfl (hb hby at_179) rfl ((if0 _ _).trans (teq (by decide)).2) (XS.iload X448.here hx rfl (hb hby at_182) rfl k))) ?_
          show Go p.tables e below Pf (T448.setTop (mkF m 184 #[vi iN, vi iA, vi iB, vi iC, vi (2 : Int32), vi q5, vi q6, vi q7, vr b436, vr b441, .unset, vi q5, vi q6, vi w445_0] [(.int w445_0)]))
          by_cases hc450 : w445_0 = (0 : Int32)
          · refine Go.by' (fun t k => (XS.ifNo X448.here hx rfl (hb hby at_184) rfl ((if0 _ _).trans (teq hc450).2) (XS.iload X448.here hx rfl (hb hby at_187) rfl (XS.bipush X448.here hx rfl (hb hby at_189) k)))) ?_
            show Go p.tables e below Pf (T448.setTop (mkF m 191 #[vi iN, vi iA, vi iB, vi iC, vi (2 : Int32), vi q5, vi q6, vi q7, vr b436, vr b441, .unset, vi q5, vi q6, vi w445_0] [(.int (33 : Int32)), (.int q5)]))
            by_cases hc451 : q5 = (33 : Int32)
            · refine Go.by' (fun t k => (XS.icmpYes X448.here hx rfl (pc0 := 191) (pc' := 198) rfl (hb hby at_191) rfl (teq hc451).1 (by decide) (by decide) (XS.iconst X448.here hx rfl (hb hby at_198) (XS.istore X448.here hx rfl (hb hby at_199) rfl (l' := #[vi iN, vi iA, vi iB, vi iC, vi (2 : Int32), vi q5, vi q6, vi q7, vr b436, vr b441, vi (0 : Int32), vi q5, vi q6, vi w445_0]) rfl (XS.aload X448.here hx rfl (hb hby at_201) rfl rfl k))))) ?_
              obtain ⟨_, _, ⟨T452, L452, k452, n452⟩, -, X452, Si452, Gr452, ⟨Lc452, hQ452, l452, y452, z452, A452⟩, st452⟩ := callSS X448 hx (y := own_y29) hown (mvT hZ hw22) (mvT hZ hw23) (mvT hZ hw24) (mvT hZ hw25) (by decide) (own_backS (W := 0) (rmN_2 l Z a0 hw [] vcs wI wA cA G b441 rb_442 kb_442 q5 q6 T442.heap n0 O442 f442_0 f442_1 f442_2 f442_3 bd5.1 bd5.2 bd6.1 bd6.2) Sb442 hw25 hw24 (by decide) (by decide) hEL all0) (g := (mkF m 203 #[vi iN, vi iA, vi iB, vi iC, vi (2 : Int32), vi q5, vi q6, vi q7, vr b436, vr b441, vi (0 : Int32), vi q5, vi q6, vi w445_0] [(.ref b441)])) rfl (by rw [hml]; rfl) (argsL := [(.ref b441)]) (rest := []) (lenOf pd_21 rfl) rfl (Nat.le_of_eq rfl) (hb hby at_203) (fun _ _ => ⟨rfl, e448, (by decide : 3 + 4 ≤ _), (by decide : 8 + 16 ≤ _)⟩)
              dsimp only [Pt.U, Pt.locs, Pt.cells, Pt.slots] at X452 l452 y452 z452 st452 hQ452 Si452 Gr452 A452
              subst l452 y452 z452
              obtain ⟨r_452, rfl, N452q, K452, r452_0⟩ := hQ452
              have N452 := Fr.app N442 N452q
              obtain ⟨lc452, X452, N452⟩ := own_pack X452 N452
              replace X452 := own_reb X452
              have Sb452 := Sb442.called Si452 (by rw [← e448]; exact Gr452) A452
              have hZ452 := Sb452.hZ
              have hO452 := Sb452.hO
              refine Go.by' (fun t k => st452.trans k) ?_
              have O452 := O442.keep K452 all0
              have KC452 : Keep h0 T452.heap [] := KC442.trans K452 all0
              obtain rfl : r_452 = (0 : Int32) := r452_0.elim (fun q => absurd (q.1.2.2.2 hc451) id) (fun q => q.2)
              show Go p.tables e below Pf (T452.setTop (mkF m 206 #[vi iN, vi iA, vi iB, vi iC, vi (2 : Int32), vi q5, vi q6, vi q7, vr b436, vr b441, vi (0 : Int32), vi q5, vi q6, vi w445_0] [(.int (0 : Int32))]))
              refine Go.by' (fun t k => (XS.iload X452.here hx rfl (hb hby at_206) rfl (XS.icmpNo X452.here hx rfl (hb hby at_208) rfl (teq (by decide)).2 (XS.iconst X452.here hx rfl (hb hby at_211) (XS.goto X452.here hx rfl (pc0 := 212) (pc' := 216) rfl (hb hby at_212) (by decide) (by decide) k))))) ?_
              show Go p.tables e below Pf (T452.setTop (mkF m 216 #[vi iN, vi iA, vi iB, vi iC, vi (2 : Int32), vi q5, vi q6, vi q7, vr b436, vr b441, vi (0 : Int32), vi q5, vi q6, vi w445_0] [(.int (1 : Int32))]))
              rw [hPf]
              exact Go.retIS X452 hx hEL Sb452 rfl hh hret hlk (by simp) rfl (hb hby at_216) (by decide) (by decide) ⟨rfl, N452, KC452⟩
            · refine Go.by' (fun t k => (XS.icmpNo X448.here hx rfl (hb hby at_191) rfl (feq hc451).1 (XS.iconst X448.here hx rfl (hb hby at_194) (XS.goto X448.here hx rfl (pc0 := 195) (pc' := 199) rfl (hb hby at_195) (by decide) (by decide) (XS.istore X448.here hx rfl (hb hby at_199) rfl (l' := #[vi iN, vi iA, vi iB, vi iC, vi (2 : Int32), vi q5, vi q6, vi q7, vr b436, vr b441, vi (1 : Int32), vi q5, vi q6, vi w445_0]) rfl (XS.aload X448.here hx rfl (hb hby at_201) rfl rfl k)))))) ?_
              obtain ⟨_, _, ⟨T453, L453, k453, n453⟩, -, X453, Si453, Gr453, ⟨Lc453, hQ453, l453, y453, z453, A453⟩, st453⟩ := callSS X448 hx (y := own_y29) hown (mvT hZ hw22) (mvT hZ hw23) (mvT hZ hw24) (mvT hZ hw25) (by decide) (own_backS (W := 0) (rmN_2 l Z a0 hw [] vcs wI wA cA G b441 rb_442 kb_442 q5 q6 T442.heap n0 O442 f442_0 f442_1 f442_2 f442_3 bd5.1 bd5.2 bd6.1 bd6.2) Sb442 hw25 hw24 (by decide) (by decide) hEL all0) (g := (mkF m 203 #[vi iN, vi iA, vi iB, vi iC, vi (2 : Int32), vi q5, vi q6, vi q7, vr b436, vr b441, vi (1 : Int32), vi q5, vi q6, vi w445_0] [(.ref b441)])) rfl (by rw [hml]; rfl) (argsL := [(.ref b441)]) (rest := []) (lenOf pd_21 rfl) rfl (Nat.le_of_eq rfl) (hb hby at_203) (fun _ _ => ⟨rfl, e448, (by decide : 3 + 4 ≤ _), (by decide : 8 + 16 ≤ _)⟩)
              dsimp only [Pt.U, Pt.locs, Pt.cells, Pt.slots] at X453 l453 y453 z453 st453 hQ453 Si453 Gr453 A453
              subst l453 y453 z453
              obtain ⟨r_453, rfl, N453q, K453, r453_0⟩ := hQ453
              have N453 := Fr.app N442 N453q
              obtain ⟨lc453, X453, N453⟩ := own_pack X453 N453
              replace X453 := own_reb X453
              have Sb453 := Sb442.called Si453 (by rw [← e448]; exact Gr453) A453
              have hZ453 := Sb453.hZ
              have hO453 := Sb453.hO
              refine Go.by' (fun t k => st453.trans k) ?_
              have O453 := O442.keep K453 all0
              have KC453 : Keep h0 T453.heap [] := KC442.trans K453 all0
              have nE : ¬ (q5 = (44 : Int32) ∨ q6 = (44 : Int32)) := by
                rcases hm445 with ⟨h0, hv⟩ | ⟨g0, h1, hv⟩ | ⟨g0, g1, hv⟩
                · exact absurd (hv.symm.trans hc450) (by decide)
                · exact absurd (hv.symm.trans hc450) (by decide)
                · exact (fun q => q.elim g0 g1)
              obtain rfl : r_453 = (1 : Int32) := r453_0.elim (fun q => q.2) (fun q => absurd ⟨hw446, hw448, nE, hc451⟩ q.1)
              show Go p.tables e below Pf (T453.setTop (mkF m 206 #[vi iN, vi iA, vi iB, vi iC, vi (2 : Int32), vi q5, vi q6, vi q7, vr b436, vr b441, vi (1 : Int32), vi q5, vi q6, vi w445_0] [(.int (1 : Int32))]))
              refine Go.by' (fun t k => (XS.iload X453.here hx rfl (hb hby at_206) rfl (XS.icmpNo X453.here hx rfl (hb hby at_208) rfl (teq (by decide)).2 (XS.iconst X453.here hx rfl (hb hby at_211) (XS.goto X453.here hx rfl (pc0 := 212) (pc' := 216) rfl (hb hby at_212) (by decide) (by decide) k))))) ?_
              show Go p.tables e below Pf (T453.setTop (mkF m 216 #[vi iN, vi iA, vi iB, vi iC, vi (2 : Int32), vi q5, vi q6, vi q7, vr b436, vr b441, vi (1 : Int32), vi q5, vi q6, vi w445_0] [(.int (1 : Int32))]))
              rw [hPf]
              exact Go.retIS X453 hx hEL Sb453 rfl hh hret hlk (by simp) rfl (hb hby at_216) (by decide) (by decide) ⟨rfl, N453, KC453⟩
          · refine Go.by' (fun t k => (XS.ifYes X448.here hx rfl (pc0 := 184) (pc' := 198) rfl (hb hby at_184) rfl ((if0 _ _).trans (feq hc450).2) (by decide) (by decide) (XS.iconst X448.here hx rfl (hb hby at_198) (XS.istore X448.here hx rfl (hb hby at_199) rfl (l' := #[vi iN, vi iA, vi iB, vi iC, vi (2 : Int32), vi q5, vi q6, vi q7, vr b436, vr b441, vi (0 : Int32), vi q5, vi q6, vi w445_0]) rfl (XS.aload X448.here hx rfl (hb hby at_201) rfl rfl k))))) ?_
            obtain ⟨_, _, ⟨T454, L454, k454, n454⟩, -, X454, Si454, Gr454, ⟨Lc454, hQ454, l454, y454, z454, A454⟩, st454⟩ := callSS X448 hx (y := own_y29) hown (mvT hZ hw22) (mvT hZ hw23) (mvT hZ hw24) (mvT hZ hw25) (by decide) (own_backS (W := 0) (rmN_2 l Z a0 hw [] vcs wI wA cA G b441 rb_442 kb_442 q5 q6 T442.heap n0 O442 f442_0 f442_1 f442_2 f442_3 bd5.1 bd5.2 bd6.1 bd6.2) Sb442 hw25 hw24 (by decide) (by decide) hEL all0) (g := (mkF m 203 #[vi iN, vi iA, vi iB, vi iC, vi (2 : Int32), vi q5, vi q6, vi q7, vr b436, vr b441, vi (0 : Int32), vi q5, vi q6, vi w445_0] [(.ref b441)])) rfl (by rw [hml]; rfl) (argsL := [(.ref b441)]) (rest := []) (lenOf pd_21 rfl) rfl (Nat.le_of_eq rfl) (hb hby at_203) (fun _ _ => ⟨rfl, e448, (by decide : 3 + 4 ≤ _), (by decide : 8 + 16 ≤ _)⟩)
            dsimp only [Pt.U, Pt.locs, Pt.cells, Pt.slots] at X454 l454 y454 z454 st454 hQ454 Si454 Gr454 A454
            subst l454 y454 z454
            obtain ⟨r_454, rfl, N454q, K454, r454_0⟩ := hQ454
            have N454 := Fr.app N442 N454q
            obtain ⟨lc454, X454, N454⟩ := own_pack X454 N454
            replace X454 := own_reb X454
            have Sb454 := Sb442.called Si454 (by rw [← e448]; exact Gr454) A454
            have hZ454 := Sb454.hZ
            have hO454 := Sb454.hO
            refine Go.by' (fun t k => st454.trans k) ?_
            have O454 := O442.keep K454 all0
            have KC454 : Keep h0 T454.heap [] := KC442.trans K454 all0
            have hE : (q5 = (44 : Int32) ∨ q6 = (44 : Int32)) := by
              rcases hm445 with ⟨h0, hv⟩ | ⟨g0, h1, hv⟩ | ⟨g0, g1, hv⟩
              · exact Or.inl h0
              · exact Or.inr (h1)
              · exact absurd hv hc450
            obtain rfl : r_454 = (0 : Int32) := r454_0.elim (fun q => absurd (q.1.2.2.1 hE) id) (fun q => q.2)
            show Go p.tables e below Pf (T454.setTop (mkF m 206 #[vi iN, vi iA, vi iB, vi iC, vi (2 : Int32), vi q5, vi q6, vi q7, vr b436, vr b441, vi (0 : Int32), vi q5, vi q6, vi w445_0] [(.int (0 : Int32))]))
            refine Go.by' (fun t k => (XS.iload X454.here hx rfl (hb hby at_206) rfl (XS.icmpNo X454.here hx rfl (hb hby at_208) rfl (teq (by decide)).2 (XS.iconst X454.here hx rfl (hb hby at_211) (XS.goto X454.here hx rfl (pc0 := 212) (pc' := 216) rfl (hb hby at_212) (by decide) (by decide) k))))) ?_
            show Go p.tables e below Pf (T454.setTop (mkF m 216 #[vi iN, vi iA, vi iB, vi iC, vi (2 : Int32), vi q5, vi q6, vi q7, vr b436, vr b441, vi (0 : Int32), vi q5, vi q6, vi w445_0] [(.int (1 : Int32))]))
            rw [hPf]
            exact Go.retIS X454 hx hEL Sb454 rfl hh hret hlk (by simp) rfl (hb hby at_216) (by decide) (by decide) ⟨rfl, N454, KC454⟩
    by_cases hc455 : q5 = (44 : Int32)
    · refine Go.by' (fun t k => (XS.icmpYes X442.here hx rfl (pc0 := 130) (pc' := 159) rfl (hb hby at_130) rfl (teq hc455).1 (by decide) (by decide) (XS.iconst X442.here hx rfl (hb hby at_159) (XS.goto X442.here hx rfl (pc0 := 160) (pc' := 164) rfl (hb hby at_160) (by decide) (by decide) k)))) ?_
      show Go p.tables e below Pf (T442.setTop (mkF m 164 #[vi iN, vi iA, vi iB, vi iC, vi (2 : Int32), vi q5, vi q6, vi q7, vr b436, vr b441, .unset, vi q5, vi q6, .unset] [(.int (1 : Int32))]))
      exact jn445 T442 ((1 : Int32)) X442 rfl  (Or.inl ⟨hc455, rfl⟩)
    · refine Go.by' (fun t k => (XS.icmpNo X442.here hx rfl (hb hby at_130) rfl (feq hc455).1 (XS.iload X442.here hx rfl (hb hby at_133) rfl (XS.iconst X442.here hx rfl (hb hby at_135) (XS.icmpNo X442.here hx rfl (hb hby at_136) rfl (tlt (by decide)).2.2.2 (XS.iload X442.here hx rfl (hb hby at_139) rfl (XS.bipush X442.here hx rfl (hb hby at_141) k))))))) ?_
      show Go p.tables e below Pf (T442.setTop (mkF m 143 #[vi iN, vi iA, vi iB, vi iC, vi (2 : Int32), vi q5, vi q6, vi q7, vr b436, vr b441, .unset, vi q5, vi q6, .unset] [(.int (44 : Int32)), (.int q6)]))
      by_cases hc456 : q6 = (44 : Int32)
      · refine Go.by' (fun t k => (XS.icmpYes X442.here hx rfl (pc0 := 143) (pc' := 159) rfl (hb hby at_143) rfl (teq hc456).1 (by decide) (by decide) (XS.iconst X442.here hx rfl (hb hby at_159) (XS.goto X442.here hx rfl (pc0 := 160) (pc' := 164) rfl (hb hby at_160) (by decide) (by decide) k)))) ?_
        show Go p.tables e below Pf (T442.setTop (mkF m 164 #[vi iN, vi iA, vi iB, vi iC, vi (2 : Int32), vi q5, vi q6, vi q7, vr b436, vr b441, .unset, vi q5, vi q6, .unset] [(.int (1 : Int32))]))
        exact jn445 T442 ((1 : Int32)) X442 rfl  (Or.inr (Or.inl ⟨hc455, hc456, rfl⟩))
      · refine Go.by' (fun t k => (XS.icmpNo X442.here hx rfl (hb hby at_143) rfl (feq hc456).1 (XS.iload X442.here hx rfl (hb hby at_146) rfl (XS.iconst X442.here hx rfl (hb hby at_148) (XS.icmpYes X442.here hx rfl (pc0 := 149) (pc' := 163) rfl (hb hby at_149) rfl (flt (by decide)).2.2.2 (by decide) (by decide) (XS.iconst X442.here hx rfl (hb hby at_163) k)))))) ?_
        show Go p.tables e below Pf (T442.setTop (mkF m 164 #[vi iN, vi iA, vi iB, vi iC, vi (2 : Int32), vi q5, vi q6, vi q7, vr b436, vr b441, .unset, vi q5, vi q6, .unset] [(.int (0 : Int32))]))
        exact jn445 T442 ((0 : Int32)) X442 rfl  (Or.inr (Or.inr ⟨hc455, hc456, rfl⟩))
  · refine Go.castF (a := (iN &&& (3 : Int32))) (b := (3 : Int32)) (fun z' : Int32 => mkF m 29 #[vi iN, vi iA, vi iB, vi iC, vi z', vi q5, vi q6, vi q7, .unset, .unset, .unset, .unset, .unset, .unset] []) (hk) ?_
    show Go p.tables e below Pf (s₁.setTop (mkF m 29 #[vi iN, vi iA, vi iB, vi iC, vi (3 : Int32), vi q5, vi q6, vi q7, .unset, .unset, .unset, .unset, .unset, .unset] []))
    refine Go.by' (fun t k => (XS.iload X0.here hx rfl (hb hby at_29) rfl k)) ?_
    obtain ⟨T457, h457, k457, X457, e457, E457, A457, st457⟩ := newP (aty := .char) X0 hx hZ hw0 e0 (g := (mkF m 31 #[vi iN, vi iA, vi iB, vi iC, vi (3 : Int32), vi q5, vi q6, vi q7, .unset, .unset, .unset, .unset, .unset, .unset] [(.int (3 : Int32))])) rfl (hb hby at_31) rfl (by decide) (cap := 3) (by decide) (by decide) (by decide) (by decide)
    obtain ⟨b457, g457⟩ : ∃ z, z = h0.size := ⟨_, rfl⟩
    rw [← g457] at A457 st457
    refine Go.by' st457 ?_
    have Sf_b457 : Safe Z consts_1 s.vm h0 b457 := Safe.new (Nat.le_of_eq g457.symm)
    have g_b457 : n0 ≤ b457 := Nat.le_trans (own_le O0) (Nat.le_of_eq g457.symm)
    have sz_b457 : h0.size ≤ b457 := Nat.le_trans KC0.1 (Nat.le_of_eq g457.symm)
    have Sb457 := Sb0.ext E457
    have O457 := O0.ext E457
    have KC457 : Keep h0 h457 [] := KC0.ext E457
    have V457 : Arv Z h457 b457 k457 .char (3 : Int32) [(.int (0 : Int32)), (.int (0 : Int32)), (.int (0 : Int32))] (Value.int (0 : Int32)) := (Arv.new A457 (by decide)).pad (pad_rep [] (Value.int (0 : Int32)) 3)
    show Go p.tables e below Pf (T457.setTop (mkF m 33 #[vi iN, vi iA, vi iB, vi iC, vi (3 : Int32), vi q5, vi q6, vi q7, .unset, .unset, .unset, .unset, .unset, .unset] [(.ref b457)]))
    refine Go.by' (fun t k => (XS.astore X457.here hx rfl (hb hby at_33) rfl rfl (l' := #[vi iN, vi iA, vi iB, vi iC, vi (3 : Int32), vi q5, vi q6, vi q7, vr b457, .unset, .unset, .unset, .unset, .unset]) rfl (XS.iload X457.here hx rfl (hb hby at_35) rfl (XS.ifNo X457.here hx rfl (hb hby at_37) rfl ((if0 _ _).trans (tlt (by decide)).2.2.2) (XS.aload X457.here hx rfl (hb hby at_40) rfl rfl (XS.iconst X457.here hx rfl (hb hby at_42) (XS.iload X457.here hx rfl (hb hby at_43) rfl k))))))) ?_
    obtain ⟨cl458, Ar458, q458, S458, P458, H458, G458⟩ := (id V457)
    have hin458 : ¬ ((0 : Int32) < 0 ∨ cl458.slots.size ≤ ((0 : Int32)).toNatClampNeg) := inb_of S458 ⟨by decide, by decide⟩
    obtain ⟨T459, h459, X459, e459, W459, st459⟩ := stC X457 hx hZ e457 Ar458 (j := (0 : Int32)) hin458 (g := (mkF m 45 #[vi iN, vi iA, vi iB, vi iC, vi (3 : Int32), vi q5, vi q6, vi q7, vr b457, .unset, .unset, .unset, .unset, .unset] [(.int q5), (.int (0 : Int32)), (.ref b457)])) rfl rfl (hb hby at_45)
    refine Go.by' st459 ?_
    rw [(own_nc bd5.1 bd5.2 : nar .char q5 = q5)] at W459
    have V459 : Arv Z h459 b457 k457 .char (3 : Int32) [(.int q5), (.int (0 : Int32)), (.int (0 : Int32))] (Value.int (0 : Int32)) := Arv.set Ar458 q458 S458 P458 H458 G458 (by have q := fits_nar_char q5; rw [(own_nc bd5.1 bd5.2 : nar .char q5 = q5)] at q; exact q) W459 0 rfl (Nat.le_of_ble_eq_true rfl)
    have N459 := Fr.snoc X459 N0 g_b457
    obtain ⟨lc459, X459, N459⟩ := own_pack X459 N459
    have Sb459 := Sb457.wr W459 (Safe.ext E457 Sb0.ch Sf_b457)
    have O459 := O457.wr W459 g_b457
    have KC459 : Keep h0 h459 [] := KC457.wr W459 (Or.inr sz_b457)
    show Go p.tables e below Pf (T459.setTop (mkF m 46 #[vi iN, vi iA, vi iB, vi iC, vi (3 : Int32), vi q5, vi q6, vi q7, vr b457, .unset, .unset, .unset, .unset, .unset] []))
    refine Go.by' (fun t k => (XS.iload X459.here hx rfl (hb hby at_46) rfl (XS.iconst X459.here hx rfl (hb hby at_48) (XS.icmpNo X459.here hx rfl (hb hby at_49) rfl (tlt (by decide)).2.2.2 (XS.aload X459.here hx rfl (hb hby at_52) rfl rfl (XS.iconst X459.here hx rfl (hb hby at_54) (XS.iload X459.here hx rfl (hb hby at_55) rfl k))))))) ?_
    obtain ⟨cl460, Ar460, q460, S460, P460, H460, G460⟩ := (id V459)
    have hin460 : ¬ ((1 : Int32) < 0 ∨ cl460.slots.size ≤ ((1 : Int32)).toNatClampNeg) := inb_of S460 ⟨by decide, by decide⟩
    obtain ⟨T461, h461, X461, e461, W461, st461⟩ := stC X459 hx hZ e459 Ar460 (j := (1 : Int32)) hin460 (g := (mkF m 57 #[vi iN, vi iA, vi iB, vi iC, vi (3 : Int32), vi q5, vi q6, vi q7, vr b457, .unset, .unset, .unset, .unset, .unset] [(.int q6), (.int (1 : Int32)), (.ref b457)])) rfl rfl (hb hby at_57)
    refine Go.by' st461 ?_
    rw [(own_nc bd6.1 bd6.2 : nar .char q6 = q6)] at W461
    have V461 : Arv Z h461 b457 k457 .char (3 : Int32) [(.int q5), (.int q6), (.int (0 : Int32))] (Value.int (0 : Int32)) := Arv.set Ar460 q460 S460 P460 H460 G460 (by have q := fits_nar_char q6; rw [(own_nc bd6.1 bd6.2 : nar .char q6 = q6)] at q; exact q) W461 1 rfl (Nat.le_of_ble_eq_true rfl)
    have N461 := Fr.snoc X461 N459 g_b457
    obtain ⟨lc461, X461, N461⟩ := own_pack X461 N461
    have Sb461 := Sb459.wr W461 (Safe.wr W459 (Safe.ext E457 Sb0.ch Sf_b457) Sb457.ch (Safe.ext E457 Sb0.ch Sf_b457))
    have O461 := O459.wr W461 g_b457
    have KC461 : Keep h0 h461 [] := KC459.wr W461 (Or.inr sz_b457)
    show Go p.tables e below Pf (T461.setTop (mkF m 58 #[vi iN, vi iA, vi iB, vi iC, vi (3 : Int32), vi q5, vi q6, vi q7, vr b457, .unset, .unset, .unset, .unset, .unset] []))
    refine Go.by' (fun t k => (XS.iload X461.here hx rfl (hb hby at_58) rfl (XS.iconst X461.here hx rfl (hb hby at_60) (XS.icmpNo X461.here hx rfl (hb hby at_61) rfl (tlt (by decide)).2.2.2 (XS.aload X461.here hx rfl (hb hby at_64) rfl rfl (XS.iconst X461.here hx rfl (hb hby at_66) (XS.iload X461.here hx rfl (hb hby at_67) rfl k))))))) ?_
    obtain ⟨cl462, Ar462, q462, S462, P462, H462, G462⟩ := (id V461)
    have hin462 : ¬ ((2 : Int32) < 0 ∨ cl462.slots.size ≤ ((2 : Int32)).toNatClampNeg) := inb_of S462 ⟨by decide, by decide⟩
    obtain ⟨T463, h463, X463, e463, W463, st463⟩ := stC X461 hx hZ e461 Ar462 (j := (2 : Int32)) hin462 (g := (mkF m 69 #[vi iN, vi iA, vi iB, vi iC, vi (3 : Int32), vi q5, vi q6, vi q7, vr b457, .unset, .unset, .unset, .unset, .unset] [(.int q7), (.int (2 : Int32)), (.ref b457)])) rfl rfl (hb hby at_69)
    refine Go.by' st463 ?_
    rw [(own_nc bd7.1 bd7.2 : nar .char q7 = q7)] at W463
    have V463 : Arv Z h463 b457 k457 .char (3 : Int32) [(.int q5), (.int q6), (.int q7)] (Value.int (0 : Int32)) := Arv.set Ar462 q462 S462 P462 H462 G462 (by have q := fits_nar_char q7; rw [(own_nc bd7.1 bd7.2 : nar .char q7 = q7)] at q; exact q) W463 2 rfl (Nat.le_of_ble_eq_true rfl)
    have N463 := Fr.snoc X463 N461 g_b457
    obtain ⟨lc463, X463, N463⟩ := own_pack X463 N463
    have Sb463 := Sb461.wr W463 (Safe.wr W461 (Safe.wr W459 (Safe.ext E457 Sb0.ch Sf_b457) Sb457.ch (Safe.ext E457 Sb0.ch Sf_b457)) Sb459.ch (Safe.wr W459 (Safe.ext E457 Sb0.ch Sf_b457) Sb457.ch (Safe.ext E457 Sb0.ch Sf_b457)))
    have O463 := O461.wr W463 g_b457
    have KC463 : Keep h0 h463 [] := KC461.wr W463 (Or.inr sz_b457)
    obtain ⟨T464, h464, X464, e464, E464, A464, D464, -, st464⟩ := newO X463 hx hZ hown hw1 hw2 hw3 e463 (g := (mkF m 70 #[vi iN, vi iA, vi iB, vi iC, vi (3 : Int32), vi q5, vi q6, vi q7, vr b457, .unset, .unset, .unset, .unset, .unset] [])) rfl (hb hby at_70) (by decide) (by decide)
    obtain ⟨b464, g464⟩ : ∃ z, z = h463.size := ⟨_, rfl⟩
    rw [← g464] at A464 D464 st464
    refine Go.by' st464 ?_
    have Sf_b464 : Safe Z consts_1 s.vm h463 b464 := Safe.new (Nat.le_of_eq g464.symm)
    have g_b464 : n0 ≤ b464 := Nat.le_trans (own_le O463) (Nat.le_of_eq g464.symm)
    have sz_b464 : h0.size ≤ b464 := Nat.le_trans KC463.1 (Nat.le_of_eq g464.symm)
    have Sb464 := Sb463.ext E464
    have O464 := O463.ext E464
    have KC464 : Keep h0 h464 [] := KC463.ext E464
    have Fn464_16 : Fld Z h464 b464 "java/lang/String" "value" "[B" Value.null := D464 (Or.inr hw16) (ty := (.array .byte)) (by decide)
    have Fn464_17 : Fld Z h464 b464 "java/lang/String" "coder" "B" (Value.int (0 : Int32)) := D464 (Or.inr hw17) (ty := .byte) (by decide)
    show Go p.tables e below Pf (T464.setTop (mkF m 73 #[vi iN, vi iA, vi iB, vi iC, vi (3 : Int32), vi q5, vi q6, vi q7, vr b457, .unset, .unset, .unset, .unset, .unset] [(.ref b464)]))
    refine Go.by' (fun t k => (XS.dup X464.here hx rfl (hb hby at_73) rfl rfl (XS.aload X464.here hx rfl (hb hby at_74) rfl rfl k))) ?_
    obtain ⟨_, _, ⟨T465, L465, k465, n465⟩, -, X465, ⟨Lc465, hQ465, l465, y465, z465⟩, st465⟩ := X464.specialBack hx (y := own_y34) rfl hown (mvT hZ hw4) (mvT hZ hw5) (mvT hZ hw6) (by decide) (backOf (W := 1) (rmS1_3 l Z a0 hw [] vcs wI wA cA G b464 b457 k457 q5 q6 q7 h464 n0 O464 A464 Fn464_16 Fn464_17 g_b464 (V463.ext E464) (Ne.symm (Nat.ne_of_lt (Nat.lt_of_lt_of_le (Nat.lt_of_lt_of_le V457.lt (Nat.le_trans (Nat.le_of_eq W459.size.symm) (Nat.le_trans (Nat.le_of_eq W461.size.symm) (Nat.le_of_eq W463.size.symm)))) (Nat.le_of_eq g464.symm)))) bd5.2 bd6.2 bd7.2) hZ hw6 hw3 (by decide) (by decide)) (g := (mkF m 76 #[vi iN, vi iA, vi iB, vi iC, vi (3 : Int32), vi q5, vi q6, vi q7, vr b457, .unset, .unset, .unset, .unset, .unset] [(.ref b457), (.ref b464), (.ref b464)])) rfl (by rw [hml]; rfl) (Steps.refl _) (a := b464) (argsL := [(.ref b457)]) (rest := [(.ref b464)]) (lenOf pd_26 rfl) rfl (Nat.le_of_eq rfl) (hb hby at_76) (fun _ _ => ⟨rfl, e464, (by decide : 2 + 1 ≤ _), (by decide : 7 + 3 ≤ _)⟩)
    dsimp only [Pt.U, Pt.locs, Pt.cells, Pt.slots] at X465 l465 y465 z465 st465 hQ465
    subst l465 y465 z465
    obtain ⟨rb_465, kb_465, rfl, N465q, K465, f465_0, f465_1, f465_2, f465_3, f465_4⟩ := hQ465
    have N465 := Fr.app N463 N465q
    obtain ⟨lc465, X465, N465⟩ := own_pack X465 N465
    refine Go.by' (fun t k => st465.trans k) ?_
    have Sf_rb_465 : Safe Z consts_1 s.vm h464 rb_465 := Safe.new f465_4
    have g_rb_465 : n0 ≤ rb_465 := Nat.le_trans (own_le O464) f465_4
    have sz_rb_465 : h0.size ≤ rb_465 := Nat.le_trans KC464.1 f465_4
    have Sb465 := Sb464.keep K465 (sfS (Safe.ext E464 Sb463.ch Sf_b464) sf0)
    have O465 := O464.keep K465 (allS g_b464 all0)
    have KC465 : Keep h0 T465.heap [] := KC464.trans K465 (allS (Or.inr sz_b464) all0)
    show Go p.tables e below Pf (T465.setTop (mkF m 79 #[vi iN, vi iA, vi iB, vi iC, vi (3 : Int32), vi q5, vi q6, vi q7, vr b457, .unset, .unset, .unset, .unset, .unset] [(.ref b464)]))
    refine Go.by' (fun t k => (XS.astore X465.here hx rfl (hb hby at_79) rfl rfl (l' := #[vi iN, vi iA, vi iB, vi iC, vi (3 : Int32), vi q5, vi q6, vi q7, vr b457, vr b464, .unset, .unset, .unset, .unset]) rfl (XS.iload X465.here hx rfl (hb hby at_81) rfl (XS.ifYes X465.here hx rfl (pc0 := 83) (pc' := 92) rfl (hb hby at_83) rfl ((if0 _ _).trans (feq (by decide)).2) (by decide) (by decide) (XS.iload X465.here hx rfl (hb hby at_92) rfl (XS.istore X465.here hx rfl (hb hby at_94) rfl (l' := #[vi iN, vi iA, vi iB, vi iC, vi (3 : Int32), vi q5, vi q6, vi q7, vr b457, vr b464, .unset, vi q5, .unset, .unset]) rfl (XS.iload X465.here hx rfl (hb hby at_96) rfl (XS.iconst X465.here hx rfl (hb hby at_98) (XS.icmpYes X465.here hx rfl (pc0 := 99) (pc' := 109) rfl (hb hby at_99) rfl (feq (by decide)).2 (by decide) (by decide) k))))))))) ?_
    show Go p.tables e below Pf (T465.setTop (mkF m 109 #[vi iN, vi iA, vi iB, vi iC, vi (3 : Int32), vi q5, vi q6, vi q7, vr b457, vr b464, .unset, vi q5, .unset, .unset] []))
    refine Go.by' (fun t k => (XS.iload X465.here hx rfl (hb hby at_109) rfl (XS.iconst X465.here hx rfl (hb hby at_111) (XS.icmpYes X465.here hx rfl (pc0 := 112) (pc' := 122) rfl (hb hby at_112) rfl (feq (by decide)).2 (by decide) (by decide) (XS.iload X465.here hx rfl (hb hby at_122) rfl (XS.istore X465.here hx rfl (hb hby at_124) rfl (l' := #[vi iN, vi iA, vi iB, vi iC, vi (3 : Int32), vi q5, vi q6, vi q7, vr b457, vr b464, .unset, vi q5, vi q7, .unset]) rfl (XS.iload X465.here hx rfl (hb hby at_126) rfl (XS.bipush X465.here hx rfl (hb hby at_128) k)))))))) ?_
    show Go p.tables e below Pf (T465.setTop (mkF m 130 #[vi iN, vi iA, vi iB, vi iC, vi (3 : Int32), vi q5, vi q6, vi q7, vr b457, vr b464, .unset, vi q5, vi q7, .unset] [(.int (44 : Int32)), (.int q5)]))
    have jn469 : ∀ (T' : State) (w469_0 : Int32), Like X465 T' → T'.heap = T465.heap → ((q5 = (44 : Int32) ∧ w469_0 = (1 : Int32)) ∨ (¬ (q5 = (44 : Int32)) ∧ q6 = (44 : Int32) ∧ w469_0 = (1 : Int32)) ∨ (¬ (q5 = (44 : Int32)) ∧ ¬ (q6 = (44 : Int32)) ∧ q7 = (44 : Int32) ∧ w469_0 = (1 : Int32)) ∨ (¬ (q5 = (44 : Int32)) ∧ ¬ (q6 = (44 : Int32)) ∧ ¬ (q7 = (44 : Int32)) ∧ w469_0 = (0 : Int32))) → Go p.tables e below Pf (T'.setTop (mkF m 164 #[vi iN, vi iA, vi iB, vi iC, vi (3 : Int32), vi q5, vi q6, vi q7, vr b457, vr b464, .unset, vi q5, vi q7, .unset] [(.int w469_0)])) := by
      intro T469 w469_0 X469 e469 hm469
      unfold Like at X469
      have bw469_0 : w469_0 = 0 ∨ w469_0 = 1 := by rcases hm469 with ⟨_, h⟩ | ⟨_, _, h⟩ | ⟨_, _, _, h⟩ | ⟨_, _, _, h⟩ <;> first | exact Or.inl h | exact Or.inr h
      show Go p.tables e below Pf (T469.setTop (mkF m 164 #[vi iN, vi iA, vi iB, vi iC, vi (3 : Int32), vi q5, vi q6, vi q7, vr b457, vr b464, .unset, vi q5, vi q7, .unset] [(.int w469_0)]))
      refine Go.by' (fun t k => (XS.istore X469.here hx rfl (hb hby at_164) rfl (l' := #[vi iN, vi iA, vi iB, vi iC, vi (3 : Int32), vi q5, vi q6, vi q7, vr b457, vr b464, .unset, vi q5, vi q7, vi w469_0]) rfl (XS.iload X469.here hx rfl (hb hby at_166) rfl k))) ?_
      obtain ⟨_, _, ⟨T470, L470, k470, n470⟩, -, X470, ⟨Lc470, hQ470, l470, y470, z470⟩, st470⟩ := Jvm.LawKit.callS X469 hx (y := own_y2) hown (mvT hZ hw42) (mvT hZ hw43) (mvT hZ hw44) (mvT hZ hw45) (by decide) (backOf (W := 0) (rmWs l Z a0 hw [] vcs wI wA cA G q5 T465.heap n0 O465 ) hZ hw45 hw44 (by decide) (by decide)) (g := (mkF m 168 #[vi iN, vi iA, vi iB, vi iC, vi (3 : Int32), vi q5, vi q6, vi q7, vr b457, vr b464, .unset, vi q5, vi q7, vi w469_0] [(.int q5)])) rfl (by rw [hml]; rfl) (argsL := [(.int q5)]) (rest := []) (lenOf pd_27 rfl) rfl (Nat.le_of_eq rfl) (hb hby at_168) (fun _ _ => ⟨rfl, e469, (by decide : 3 + 0 ≤ _), (by decide : 10 + 0 ≤ _)⟩)
      dsimp only [Pt.U, Pt.locs, Pt.cells, Pt.slots] at X470 l470 y470 z470 st470 hQ470
      subst l470 y470 z470
      obtain ⟨r_470, rfl, rfl, e470, r470_0⟩ := hQ470
      try replace X470 := own_nil X470
      refine Go.by' st470 ?_
      rcases r470_0 with ⟨hw470, hz470⟩ | ⟨hw470, hz470⟩
      · subst hz470
        show Go p.tables e below Pf (T470.setTop (mkF m 171 #[vi iN, vi iA, vi iB, vi iC, vi (3 : Int32), vi q5, vi q6, vi q7, vr b457, vr b464, .unset, vi q5, vi q7, vi w469_0] [(.int (1 : Int32))]))
        refine Go.by' (fun t k => (XS.ifYes X470.here hx rfl (pc0 := 171) (pc' := 198) rfl (hb hby at_171) rfl ((if0 _ _).trans (feq (by decide)).2) (by decide) (by decide) (XS.iconst X470.here hx rfl (hb hby at_198) (XS.istore X470.here hx rfl (hb hby at_199) rfl (l' := #[vi iN, vi iA, vi iB, vi iC, vi (3 : Int32), vi q5, vi q6, vi q7, vr b457, vr b464, vi (0 : Int32), vi q5, vi q7, vi w469_0]) rfl (XS.aload X470.here hx rfl (hb hby at_201) rfl rfl k))))) ?_
        obtain ⟨_, _, ⟨T471, L471, k471, n471⟩, -, X471, Si471, Gr471, ⟨Lc471, hQ471, l471, y471, z471, A471⟩, st471⟩ := callSS X470 hx (y := own_y29) hown (mvT hZ hw22) (mvT hZ hw23) (mvT hZ hw24) (mvT hZ hw25) (by decide) (own_backS (W := 0) (rmN_3 l Z a0 hw [] vcs wI wA cA G b464 rb_465 kb_465 q5 q6 q7 T465.heap n0 O465 f465_0 f465_1 f465_2 f465_3 bd5.1 bd5.2 bd6.1 bd6.2 bd7.1 bd7.2) Sb465 hw25 hw24 (by decide) (by decide) hEL all0) (g := (mkF m 203 #[vi iN, vi iA, vi iB, vi iC, vi (3 : Int32), vi q5, vi q6, vi q7, vr b457, vr b464, vi (0 : Int32), vi q5, vi q7, vi w469_0] [(.ref b464)])) rfl (by rw [hml]; rfl) (argsL := [(.ref b464)]) (rest := []) (lenOf pd_21 rfl) rfl (Nat.le_of_eq rfl) (hb hby at_203) (fun _ _ => ⟨rfl, e470, (by decide : 3 + 4 ≤ _), (by decide : 10 + 16 ≤ _)⟩)
        dsimp only [Pt.U, Pt.locs, Pt.cells, Pt.slots] at X471 l471 y471 z471 st471 hQ471 Si471 Gr471 A471
        subst l471 y471 z471
        obtain ⟨r_471, rfl, N471q, K471, r471_0⟩ := hQ471
        have N471 := Fr.app N465 N471q
        obtain ⟨lc471, X471, N471⟩ := own_pack X471 N471
        replace X471 := own_reb X471
        have Sb471 := Sb465.called Si471 (by rw [← e470]; exact Gr471) A471
        have hZ471 := Sb471.hZ
        have hO471 := Sb471.hO
        refine Go.by' (fun t k => st471.trans k) ?_
        have O471 := O465.keep K471 all0
        have KC471 : Keep h0 T471.heap [] := KC465.trans K471 all0
        obtain rfl : r_471 = (0 : Int32) := r471_0.elim (fun q => absurd (q.1.1 hw470) id) (fun q => q.2)
        show Go p.tables e below Pf (T471.setTop (mkF m 206 #[vi iN, vi iA, vi iB, vi iC, vi (3 : Int32), vi q5, vi q6, vi q7, vr b457, vr b464, vi (0 : Int32), vi q5, vi q7, vi w469_0] [(.int (0 : Int32))]))
        refine Go.by' (fun t k => (XS.iload X471.here hx rfl (hb hby at_206) rfl (XS.icmpNo X471.here hx rfl (hb hby at_208) rfl (teq (by decide)).2 (XS.iconst X471.here hx rfl (hb hby at_211) (XS.goto X471.here hx rfl (pc0 := 212) (pc' := 216) rfl (hb hby at_212) (by decide) (by decide) k))))) ?_
        show Go p.tables e below Pf (T471.setTop (mkF m 216 #[vi iN, vi iA, vi iB, vi iC, vi (3 : Int32), vi q5, vi q6, vi q7, vr b457, vr b464, vi (0 : Int32), vi q5, vi q7, vi w469_0] [(.int (1 : Int32))]))
        rw [hPf]
        exact Go.retIS X471 hx hEL Sb471 rfl hh hret hlk (by simp) rfl (hb hby at_216) (by decide) (by decide) ⟨rfl, N471, KC471⟩
      · subst hz470
        show Go p.tables e below Pf (T470.setTop (mkF m 171 #[vi iN, vi iA, vi iB, vi iC, vi (3 : Int32), vi q5, vi q6, vi q7, vr b457, vr b464, .unset, vi q5, vi q7, vi w469_0] [(.int (0 : Int32))]))
        refine Go.by' (fun t k => (XS.ifNo X470.here hx rfl (hb hby at_171) rfl ((if0 _ _).trans (teq (by decide)).2) (XS.iload X470.here hx rfl (hb hby at_174) rfl k))) ?_
        obtain ⟨_, _, ⟨T472, L472, k472, n472⟩, -, X472, ⟨Lc472, hQ472, l472, y472, z472⟩, st472⟩ := Jvm.LawKit.callS X470 hx (y := own_y2) hown (mvT hZ hw42) (mvT hZ hw43) (mvT hZ hw44) (mvT hZ hw45) (by decide) (backOf (W := 0) (rmWs l Z a0 hw [] vcs wI wA cA G q7 T465.heap n0 O465 ) hZ hw45 hw44 (by decide) (by decide)) (g := (mkF m 176 #[vi iN, vi iA, vi iB, vi iC, vi (3 : Int32), vi q5, vi q6, vi q7, vr b457, vr b464, .unset, vi q5, vi q7, vi w469_0] [(.int q7)])) rfl (by rw [hml]; rfl) (argsL := [(.int q7)]) (rest := []) (lenOf pd_27 rfl) rfl (Nat.le_of_eq rfl) (hb hby at_176) (fun _ _ => ⟨rfl, e470, (by decide : 3 + 0 ≤ _), (by decide : 10 + 0 ≤ _)⟩)
        dsimp only [Pt.U, Pt.locs, Pt.cells, Pt.slots] at X472 l472 y472 z472 st472 hQ472
        subst l472 y472 z472
        obtain ⟨r_472, rfl, rfl, e472, r472_0⟩ := hQ472
        try replace X472 := own_nil X472
        refine Go.by' st472 ?_
        rcases r472_0 with ⟨hw472, hz472⟩ | ⟨hw472, hz472⟩
        · subst hz472
          show Go p.tables e below Pf (T472.setTop (mkF m 179 #[vi iN, vi iA, vi iB, vi iC, vi (3 : Int32), vi q5, vi q6, vi q7, vr b457, vr b464, .unset, vi q5, vi q7, vi w469_0] [(.int (1 : Int32))]))
          refine Go.by' (fun t k => (XS.ifYes X472.here hx rfl (pc0 := 179) (pc' := 198) rfl (hb hby at_179) rfl ((if0 _ _).trans (feq (by decide)).2) (by decide) (by decide) (XS.iconst X472.here hx rfl (hb hby at_198) (XS.istore X472.here hx rfl (hb hby at_199) rfl (l' := #[vi iN, vi iA, vi iB, vi iC, vi (3 : Int32), vi q5, vi q6, vi q7, vr b457, vr b464, vi (0 : Int32), vi q5, vi q7, vi w469_0]) rfl (XS.aload X472.here hx rfl (hb hby at_201) rfl rfl k))))) ?_
          obtain ⟨_, _, ⟨T473, L473, k473, n473⟩, -, X473, Si473, Gr473, ⟨Lc473, hQ473, l473, y473, z473, A473⟩, st473⟩ := callSS X472 hx (y := own_y29) hown (mvT hZ hw22) (mvT hZ hw23) (mvT hZ hw24) (mvT hZ hw25) (by decide) (own_backS (W := 0) (rmN_3 l Z a0 hw [] vcs wI wA cA G b464 rb_465 kb_465 q5 q6 q7 T465.heap n0 O465 f465_0 f465_1 f465_2 f465_3 bd5.1 bd5.2 bd6.1 bd6.2 bd7.1 bd7.2) Sb465 hw25 hw24 (by decide) (by decide) hEL all0) (g := (mkF m 203 #[vi iN, vi iA, vi iB, vi iC, vi (3 : Int32), vi q5, vi q6, vi q7, vr b457, vr b464, vi (0 : Int32), vi q5, vi q7, vi w469_0] [(.ref b464)])) rfl (by rw [hml]; rfl) (argsL := [(.ref b464)]) (rest := []) (lenOf pd_21 rfl) rfl (Nat.le_of_eq rfl) (hb hby at_203) (fun _ _ => ⟨rfl, e472, (by decide : 3 + 4 ≤ _), (by decide : 10 + 16 ≤ _)⟩)
          dsimp only [Pt.U, Pt.locs, Pt.cells, Pt.slots] at X473 l473 y473 z473 st473 hQ473 Si473 Gr473 A473
          subst l473 y473 z473
          obtain ⟨r_473, rfl, N473q, K473, r473_0⟩ := hQ473
          have N473 := Fr.app N465 N473q
          obtain ⟨lc473, X473, N473⟩ := own_pack X473 N473
          replace X473 := own_reb X473
          have Sb473 := Sb465.called Si473 (by rw [← e472]; exact Gr473) A473
          have hZ473 := Sb473.hZ
          have hO473 := Sb473.hO
          refine Go.by' (fun t k => st473.trans k) ?_
          have O473 := O465.keep K473 all0
          have KC473 : Keep h0 T473.heap [] := KC465.trans K473 all0
          obtain rfl : r_473 = (0 : Int32) := r473_0.elim (fun q => absurd (q.1.2.1 hw472) id) (fun q => q.2)
          show Go p.tables e below Pf (T473.setTop (mkF m 206 #[vi iN, vi iA, vi iB, vi iC, vi (3 : Int32), vi q5, vi q6, vi q7, vr b457, vr b464, vi (0 : Int32), vi q5, vi q7, vi w469_0] [(.int (0 : Int32))]))
          refine Go.by' (fun t k => (XS.iload X473.here hx rfl (hb hby at_206) rfl (XS.icmpNo X473.here hx rfl (hb hby at_208) rfl (teq (by decide)).2 (XS.iconst X473.here hx rfl (hb hby at_211) (XS.goto X473.here hx rfl (pc0 := 212) (pc' := 216) rfl (hb hby at_212) (by decide) (by decide) k))))) ?_
          show Go p.tables e below Pf (T473.setTop (mkF m 216 #[vi iN, vi iA, vi iB, vi iC, vi (3 : Int32), vi q5, vi q6, vi q7, vr b457, vr b464, vi (0 : Int32), vi q5, vi q7, vi w469_0] [(.int (1 : Int32))]))
          rw [hPf]
          exact Go.retIS X473 hx hEL Sb473 rfl hh hret hlk (by simp) rfl (hb hby at_216) (by decide) (by decide) ⟨rfl, N473, KC473⟩
        · subst hz472
          show Go p.tables e below Pf (T472.setTop (mkF m 179 #[vi iN, vi iA, vi iB, vi iC, vi (3 : Int32), vi q5, vi q6, vi q7, vr b457, vr b464, .unset, vi q5, vi q7, vi w469_0] [(.int (0 : Int32))]))
          refine Go.by' (fun t k => (XS.ifNo X472.here hx rfl (hb hby at_179) rfl ((if0 _ _).trans (teq (by decide)).2) (XS.iload X472.here hx rfl (hb hby at_182) rfl k))) ?_
          show Go p.tables e below Pf (T472.setTop (mkF m 184 #[vi iN, vi iA, vi iB, vi iC, vi (3 : Int32), vi q5, vi q6, vi q7, vr b457, vr b464, .unset, vi q5, vi q7, vi w469_0] [(.int w469_0)]))
          by_cases hc474 : w469_0 = (0 : Int32)
          · refine Go.by' (fun t k => (XS.ifNo X472.here hx rfl (hb hby at_184) rfl ((if0 _ _).trans (teq hc474).2) (XS.iload X472.here hx rfl (hb hby at_187) rfl (XS.bipush X472.here hx rfl (hb hby at_189) k)))) ?_
            show Go p.tables e below Pf (T472.setTop (mkF m 191 #[vi iN, vi iA, vi iB, vi iC, vi (3 : Int32), vi q5, vi q6, vi q7, vr b457, vr b464, .unset, vi q5, vi q7, vi w469_0] [(.int (33 : Int32)), (.int q5)]))
            by_cases hc475 : q5 = (33 : Int32)
            · refine Go.by' (fun t k => (XS.icmpYes X472.here hx rfl (pc0 := 191) (pc' := 198) rfl (hb hby at_191) rfl (teq hc475).1 (by decide) (by decide) (XS.iconst X472.here hx rfl (hb hby at_198) (XS.istore X472.here hx rfl (hb hby at_199) rfl (l' := #[vi iN, vi iA, vi iB, vi iC, vi (3 : Int32), vi q5, vi q6, vi q7, vr b457, vr b464, vi (0 : Int32), vi q5, vi q7, vi w469_0]) rfl (XS.aload X472.here hx rfl (hb hby at_201) rfl rfl k))))) ?_
              obtain ⟨_, _, ⟨T476, L476, k476, n476⟩, -, X476, Si476, Gr476, ⟨Lc476, hQ476, l476, y476, z476, A476⟩, st476⟩ := callSS X472 hx (y := own_y29) hown (mvT hZ hw22) (mvT hZ hw23) (mvT hZ hw24) (mvT hZ hw25) (by decide) (own_backS (W := 0) (rmN_3 l Z a0 hw [] vcs wI wA cA G b464 rb_465 kb_465 q5 q6 q7 T465.heap n0 O465 f465_0 f465_1 f465_2 f465_3 bd5.1 bd5.2 bd6.1 bd6.2 bd7.1 bd7.2) Sb465 hw25 hw24 (by decide) (by decide) hEL all0) (g := (mkF m 203 #[vi iN, vi iA, vi iB, vi iC, vi (3 : Int32), vi q5, vi q6, vi q7, vr b457, vr b464, vi (0 : Int32), vi q5, vi q7, vi w469_0] [(.ref b464)])) rfl (by rw [hml]; rfl) (argsL := [(.ref b464)]) (rest := []) (lenOf pd_21 rfl) rfl (Nat.le_of_eq rfl) (hb hby at_203) (fun _ _ => ⟨rfl, e472, (by decide : 3 + 4 ≤ _), (by decide : 10 + 16 ≤ _)⟩)
              dsimp only [Pt.U, Pt.locs, Pt.cells, Pt.slots] at X476 l476 y476 z476 st476 hQ476 Si476 Gr476 A476
              subst l476 y476 z476
              obtain ⟨r_476, rfl, N476q, K476, r476_0⟩ := hQ476
              have N476 := Fr.app N465 N476q
              obtain ⟨lc476, X476, N476⟩ := own_pack X476 N476
              replace X476 := own_reb X476
              have Sb476 := Sb465.called Si476 (by rw [← e472]; exact Gr476) A476
              have hZ476 := Sb476.hZ
              have hO476 := Sb476.hO
              refine Go.by' (fun t k => st476.trans k) ?_
              have O476 := O465.keep K476 all0
              have KC476 : Keep h0 T476.heap [] := KC465.trans K476 all0
              obtain rfl : r_476 = (0 : Int32) := r476_0.elim (fun q => absurd (q.1.2.2.2 hc475) id) (fun q => q.2)
              show Go p.tables e below Pf (T476.setTop (mkF m 206 #[vi iN, vi iA, vi iB, vi iC, vi (3 : Int32), vi q5, vi q6, vi q7, vr b457, vr b464, vi (0 : Int32), vi q5, vi q7, vi w469_0] [(.int (0 : Int32))]))
              refine Go.by' (fun t k => (XS.iload X476.here hx rfl (hb hby at_206) rfl (XS.icmpNo X476.here hx rfl (hb hby at_208) rfl (teq (by decide)).2 (XS.iconst X476.here hx rfl (hb hby at_211) (XS.goto X476.here hx rfl (pc0 := 212) (pc' := 216) rfl (hb hby at_212) (by decide) (by decide) k))))) ?_
              show Go p.tables e below Pf (T476.setTop (mkF m 216 #[vi iN, vi iA, vi iB, vi iC, vi (3 : Int32), vi q5, vi q6, vi q7, vr b457, vr b464, vi (0 : Int32), vi q5, vi q7, vi w469_0] [(.int (1 : Int32))]))
              rw [hPf]
              exact Go.retIS X476 hx hEL Sb476 rfl hh hret hlk (by simp) rfl (hb hby at_216) (by decide) (by decide) ⟨rfl, N476, KC476⟩
            · refine Go.by' (fun t k => (XS.icmpNo X472.here hx rfl (hb hby at_191) rfl (feq hc475).1 (XS.iconst X472.here hx rfl (hb hby at_194) (XS.goto X472.here hx rfl (pc0 := 195) (pc' := 199) rfl (hb hby at_195) (by decide) (by decide) (XS.istore X472.here hx rfl (hb hby at_199) rfl (l' := #[vi iN, vi iA, vi iB, vi iC, vi (3 : Int32), vi q5, vi q6, vi q7, vr b457, vr b464, vi (1 : Int32), vi q5, vi q7, vi w469_0]) rfl (XS.aload X472.here hx rfl (hb hby at_201) rfl rfl k)))))) ?_
              obtain ⟨_, _, ⟨T477, L477, k477, n477⟩, -, X477, Si477, Gr477, ⟨Lc477, hQ477, l477, y477, z477, A477⟩, st477⟩ := callSS X472 hx (y := own_y29) hown (mvT hZ hw22) (mvT hZ hw23) (mvT hZ hw24) (mvT hZ hw25) (by decide) (own_backS (W := 0) (rmN_3 l Z a0 hw [] vcs wI wA cA G b464 rb_465 kb_465 q5 q6 q7 T465.heap n0 O465 f465_0 f465_1 f465_2 f465_3 bd5.1 bd5.2 bd6.1 bd6.2 bd7.1 bd7.2) Sb465 hw25 hw24 (by decide) (by decide) hEL all0) (g := (mkF m 203 #[vi iN, vi iA, vi iB, vi iC, vi (3 : Int32), vi q5, vi q6, vi q7, vr b457, vr b464, vi (1 : Int32), vi q5, vi q7, vi w469_0] [(.ref b464)])) rfl (by rw [hml]; rfl) (argsL := [(.ref b464)]) (rest := []) (lenOf pd_21 rfl) rfl (Nat.le_of_eq rfl) (hb hby at_203) (fun _ _ => ⟨rfl, e472, (by decide : 3 + 4 ≤ _), (by decide : 10 + 16 ≤ _)⟩)
              dsimp only [Pt.U, Pt.locs, Pt.cells, Pt.slots] at X477 l477 y477 z477 st477 hQ477 Si477 Gr477 A477
              subst l477 y477 z477
              obtain ⟨r_477, rfl, N477q, K477, r477_0⟩ := hQ477
              have N477 := Fr.app N465 N477q
              obtain ⟨lc477, X477, N477⟩ := own_pack X477 N477
              replace X477 := own_reb X477
              have Sb477 := Sb465.called Si477 (by rw [← e472]; exact Gr477) A477
              have hZ477 := Sb477.hZ
              have hO477 := Sb477.hO
              refine Go.by' (fun t k => st477.trans k) ?_
              have O477 := O465.keep K477 all0
              have KC477 : Keep h0 T477.heap [] := KC465.trans K477 all0
              have nE : ¬ (q5 = (44 : Int32) ∨ q6 = (44 : Int32) ∨ q7 = (44 : Int32)) := by
                rcases hm469 with ⟨h0, hv⟩ | ⟨g0, h1, hv⟩ | ⟨g0, g1, h2, hv⟩ | ⟨g0, g1, g2, hv⟩
                · exact absurd (hv.symm.trans hc474) (by decide)
                · exact absurd (hv.symm.trans hc474) (by decide)
                · exact absurd (hv.symm.trans hc474) (by decide)
                · exact (fun q => q.elim g0 (fun q => q.elim g1 g2))
              obtain rfl : r_477 = (1 : Int32) := r477_0.elim (fun q => q.2) (fun q => absurd ⟨hw470, hw472, nE, hc475⟩ q.1)
              show Go p.tables e below Pf (T477.setTop (mkF m 206 #[vi iN, vi iA, vi iB, vi iC, vi (3 : Int32), vi q5, vi q6, vi q7, vr b457, vr b464, vi (1 : Int32), vi q5, vi q7, vi w469_0] [(.int (1 : Int32))]))
              refine Go.by' (fun t k => (XS.iload X477.here hx rfl (hb hby at_206) rfl (XS.icmpNo X477.here hx rfl (hb hby at_208) rfl (teq (by decide)).2 (XS.iconst X477.here hx rfl (hb hby at_211) (XS.goto X477.here hx rfl (pc0 := 212) (pc' := 216) rfl (hb hby at_212) (by decide) (by decide) k))))) ?_
              show Go p.tables e below Pf (T477.setTop (mkF m 216 #[vi iN, vi iA, vi iB, vi iC, vi (3 : Int32), vi q5, vi q6, vi q7, vr b457, vr b464, vi (1 : Int32), vi q5, vi q7, vi w469_0] [(.int (1 : Int32))]))
              rw [hPf]
              exact Go.retIS X477 hx hEL Sb477 rfl hh hret hlk (by simp) rfl (hb hby at_216) (by decide) (by decide) ⟨rfl, N477, KC477⟩
          · refine Go.by' (fun t k => (XS.ifYes X472.here hx rfl (pc0 := 184) (pc' := 198) rfl (hb hby at_184) rfl ((if0 _ _).trans (feq hc474).2) (by decide) (by decide) (XS.iconst X472.here hx rfl (hb hby at_198) (XS.istore X472.here hx rfl (hb hby at_199) rfl (l' := #[vi iN, vi iA, vi iB, vi iC, vi (3 : Int32), vi q5, vi q6, vi q7, vr b457, vr b464, vi (0 : Int32), vi q5, vi q7, vi w469_0]) rfl (XS.aload X472.here hx rfl (hb hby at_201) rfl rfl k))))) ?_
            obtain ⟨_, _, ⟨T478, L478, k478, n478⟩, -, X478, Si478, Gr478, ⟨Lc478, hQ478, l478, y478, z478, A478⟩, st478⟩ := callSS X472 hx (y := own_y29) hown (mvT hZ hw22) (mvT hZ hw23) (mvT hZ hw24) (mvT hZ hw25) (by decide) (own_backS (W := 0) (rmN_3 l Z a0 hw [] vcs wI wA cA G b464 rb_465 kb_465 q5 q6 q7 T465.heap n0 O465 f465_0 f465_1 f465_2 f465_3 bd5.1 bd5.2 bd6.1 bd6.2 bd7.1 bd7.2) Sb465 hw25 hw24 (by decide) (by decide) hEL all0) (g := (mkF m 203 #[vi iN, vi iA, vi iB, vi iC, vi (3 : Int32), vi q5, vi q6, vi q7, vr b457, vr b464, vi (0 : Int32), vi q5, vi q7, vi w469_0] [(.ref b464)])) rfl (by rw [hml]; rfl) (argsL := [(.ref b464)]) (rest := []) (lenOf pd_21 rfl) rfl (Nat.le_of_eq rfl) (hb hby at_203) (fun _ _ => ⟨rfl, e472, (by decide : 3 + 4 ≤ _), (by decide : 10 + 16 ≤ _)⟩)
            dsimp only [Pt.U, Pt.locs, Pt.cells, Pt.slots] at X478 l478 y478 z478 st478 hQ478 Si478 Gr478 A478
            subst l478 y478 z478
            obtain ⟨r_478, rfl, N478q, K478, r478_0⟩ := hQ478
            have N478 := Fr.app N465 N478q
            obtain ⟨lc478, X478, N478⟩ := own_pack X478 N478
            replace X478 := own_reb X478
            have Sb478 := Sb465.called Si478 (by rw [← e472]; exact Gr478) A478
            have hZ478 := Sb478.hZ
            have hO478 := Sb478.hO
            refine Go.by' (fun t k => st478.trans k) ?_
            have O478 := O465.keep K478 all0
            have KC478 : Keep h0 T478.heap [] := KC465.trans K478 all0
            have hE : (q5 = (44 : Int32) ∨ q6 = (44 : Int32) ∨ q7 = (44 : Int32)) := by
              rcases hm469 with ⟨h0, hv⟩ | ⟨g0, h1, hv⟩ | ⟨g0, g1, h2, hv⟩ | ⟨g0, g1, g2, hv⟩
              · exact Or.inl h0
              · exact Or.inr (Or.inl h1)
              · exact Or.inr (Or.inr (h2))
              · exact absurd hv hc474
            obtain rfl : r_478 = (0 : Int32) := r478_0.elim (fun q => absurd (q.1.2.2.1 hE) id) (fun q => q.2)
            show Go p.tables e below Pf (T478.setTop (mkF m 206 #[vi iN, vi iA, vi iB, vi iC, vi (3 : Int32), vi q5, vi q6, vi q7, vr b457, vr b464, vi (0 : Int32), vi q5, vi q7, vi w469_0] [(.int (0 : Int32))]))
            refine Go.by' (fun t k => (XS.iload X478.here hx rfl (hb hby at_206) rfl (XS.icmpNo X478.here hx rfl (hb hby at_208) rfl (teq (by decide)).2 (XS.iconst X478.here hx rfl (hb hby at_211) (XS.goto X478.here hx rfl (pc0 := 212) (pc' := 216) rfl (hb hby at_212) (by decide) (by decide) k))))) ?_
            show Go p.tables e below Pf (T478.setTop (mkF m 216 #[vi iN, vi iA, vi iB, vi iC, vi (3 : Int32), vi q5, vi q6, vi q7, vr b457, vr b464, vi (0 : Int32), vi q5, vi q7, vi w469_0] [(.int (1 : Int32))]))
            rw [hPf]
            exact Go.retIS X478 hx hEL Sb478 rfl hh hret hlk (by simp) rfl (hb hby at_216) (by decide) (by decide) ⟨rfl, N478, KC478⟩
    by_cases hc479 : q5 = (44 : Int32)
    · refine Go.by' (fun t k => (XS.icmpYes X465.here hx rfl (pc0 := 130) (pc' := 159) rfl (hb hby at_130) rfl (teq hc479).1 (by decide) (by decide) (XS.iconst X465.here hx rfl (hb hby at_159) (XS.goto X465.here hx rfl (pc0 := 160) (pc' := 164) rfl (hb hby at_160) (by decide) (by decide) k)))) ?_
      show Go p.tables e below Pf (T465.setTop (mkF m 164 #[vi iN, vi iA, vi iB, vi iC, vi (3 : Int32), vi q5, vi q6, vi q7, vr b457, vr b464, .unset, vi q5, vi q7, .unset] [(.int (1 : Int32))]))
      exact jn469 T465 ((1 : Int32)) X465 rfl  (Or.inl ⟨hc479, rfl⟩)
    · refine Go.by' (fun t k => (XS.icmpNo X465.here hx rfl (hb hby at_130) rfl (feq hc479).1 (XS.iload X465.here hx rfl (hb hby at_133) rfl (XS.iconst X465.here hx rfl (hb hby at_135) (XS.icmpNo X465.here hx rfl (hb hby at_136) rfl (tlt (by decide)).2.2.2 (XS.iload X465.here hx rfl (hb hby at_139) rfl (XS.bipush X465.here hx rfl (hb hby at_141) k))))))) ?_
      show Go p.tables e below Pf (T465.setTop (mkF m 143 #[vi iN, vi iA, vi iB, vi iC, vi (3 : Int32), vi q5, vi q6, vi q7, vr b457, vr b464, .unset, vi q5, vi q7, .unset] [(.int (44 : Int32)), (.int q6)]))
      by_cases hc480 : q6 = (44 : Int32)
      · refine Go.by' (fun t k => (XS.icmpYes X465.here hx rfl (pc0 := 143) (pc' := 159) rfl (hb hby at_143) rfl (teq hc480).1 (by decide) (by decide) (XS.iconst X465.here hx rfl (hb hby at_159) (XS.goto X465.here hx rfl (pc0 := 160) (pc' := 164) rfl (hb hby at_160) (by decide) (by decide) k)))) ?_
        show Go p.tables e below Pf (T465.setTop (mkF m 164 #[vi iN, vi iA, vi iB, vi iC, vi (3 : Int32), vi q5, vi q6, vi q7, vr b457, vr b464, .unset, vi q5, vi q7, .unset] [(.int (1 : Int32))]))
        exact jn469 T465 ((1 : Int32)) X465 rfl  (Or.inr (Or.inl ⟨hc479, hc480, rfl⟩))
      · refine Go.by' (fun t k => (XS.icmpNo X465.here hx rfl (hb hby at_143) rfl (feq hc480).1 (XS.iload X465.here hx rfl (hb hby at_146) rfl (XS.iconst X465.here hx rfl (hb hby at_148) (XS.icmpNo X465.here hx rfl (hb hby at_149) rfl (tlt (by decide)).2.2.2 (XS.iload X465.here hx rfl (hb hby at_152) rfl (XS.bipush X465.here hx rfl (hb hby at_154) k))))))) ?_
        show Go p.tables e below Pf (T465.setTop (mkF m 156 #[vi iN, vi iA, vi iB, vi iC, vi (3 : Int32), vi q5, vi q6, vi q7, vr b457, vr b464, .unset, vi q5, vi q7, .unset] [(.int (44 : Int32)), (.int q7)]))
        by_cases hc481 : q7 = (44 : Int32)
        · refine Go.by' (fun t k => (XS.icmpNo X465.here hx rfl (hb hby at_156) rfl (teq hc481).2 (XS.iconst X465.here hx rfl (hb hby at_159) (XS.goto X465.here hx rfl (pc0 := 160) (pc' := 164) rfl (hb hby at_160) (by decide) (by decide) k)))) ?_
          show Go p.tables e below Pf (T465.setTop (mkF m 164 #[vi iN, vi iA, vi iB, vi iC, vi (3 : Int32), vi q5, vi q6, vi q7, vr b457, vr b464, .unset, vi q5, vi q7, .unset] [(.int (1 : Int32))]))
          exact jn469 T465 ((1 : Int32)) X465 rfl  (Or.inr (Or.inr (Or.inl ⟨hc479, hc480, hc481, rfl⟩)))
        · refine Go.by' (fun t k => (XS.icmpYes X465.here hx rfl (pc0 := 156) (pc' := 163) rfl (hb hby at_156) rfl (feq hc481).2 (by decide) (by decide) (XS.iconst X465.here hx rfl (hb hby at_163) k))) ?_
          show Go p.tables e below Pf (T465.setTop (mkF m 164 #[vi iN, vi iA, vi iB, vi iC, vi (3 : Int32), vi q5, vi q6, vi q7, vr b457, vr b464, .unset, vi q5, vi q7, .unset] [(.int (0 : Int32))]))
          exact jn469 T465 ((0 : Int32)) X465 rfl  (Or.inr (Or.inr (Or.inr ⟨hc479, hc480, hc481, rfl⟩)))
theorem comes_1 {Post : Tables → Env → Array Value → State → Outcome → State → Prop} (hpost : ∀ tb e args s v u, (limb_1_1.after args s (.returned v) u = true ∧ limb_1_2.after args s (.returned v) u = true ∧ True) → FramedW s (.returned v) u (Jvm.fieldLocs frame_1_writes args s ++ Jvm.arrayLocs frame_1_arrays args s ++ Jvm.staticLocs frame_1_statics s) 32 4224 → Post tb e args s (.returned v) u) :
    ArmFor flags0 classFile x code maxLocals ret World_1 tables_1 room_1 Calls_1 rest_1 Pre_1 Post := by
  intro l hfl _ _ p e ha hc hk s m args below hf hA hF happ hP
  obtain ⟨hcalls, hrest, hpre⟩ := hP
  obtain ⟨-, -, -, hnamed, -, -, -, hat⟩ := (Spec.applies_iff hf).mp happ
  obtain ⟨hg, hn⟩ := and_e (Cond.before_iff.mp (show (Jvm.Cond.and given_1 narrow_1).before args s = true from hpre))
  obtain ⟨ga1, gb1⟩ := and_e hg
  obtain ⟨ga2, gb2⟩ := and_e gb1
  obtain ⟨ga3, gb3⟩ := and_e gb2
  obtain ⟨ga4, gb4⟩ := and_e gb3
  obtain ⟨w0, w1, w2, w3, rfl⟩ : ∃ w0 w1 w2 w3 : Value, args = #[w0, w1, w2, w3] := by
    have hs : args.size = 4 := by simpa [Cond.value, given_1] using ga1
    obtain ⟨L⟩ := args
    match L, hs with
    | [w0, w1, w2, w3], _ => exact ⟨w0, w1, w2, w3, rfl⟩
  have hw := fun d (hd : d ∈ tables_1) => atoms_spec (ws := Jvm.Cond.code x code maxLocals ret :: tables_1) hat d (List.mem_cons_of_mem _ hd)
  have hfit : Fit s := fun {y c} hc i hi => by
    obtain ⟨ha, rfl⟩ := Array.getElem?_eq_some_iff.mp hc
    have q := List.all_eq_true.mp ((Array.all_eq_true_iff_forall_mem.mp hF) _ (Array.getElem_mem ha)) i (List.mem_range.mpr hi)
    simpa [Array.getElem?_eq_getElem hi] using q
  obtain ⟨hsets, hown0⟩ := atoms_of _ (rest_1_c_eq ▸ (show rest_1_c.before _ s = true from hrest))
  obtain ⟨iN, ei0⟩ := is_v ga2
  obtain rfl : w0 = (.int iN) := Option.some.inj ei0
  obtain ⟨iA, ei1⟩ := is_v ga3
  obtain rfl : w1 = (.int iA) := Option.some.inj ei1
  obtain ⟨iB, ei2⟩ := is_v ga4
  obtain rfl : w2 = (.int iB) := Option.some.inj ei2
  obtain ⟨iC, ei3⟩ := is_v gb4
  obtain rfl : w3 = (.int iC) := Option.some.inj ei3
  obtain ⟨vcs, evcs⟩ := is_v (Cond.before_iff.mp (hsets _ (List.mem_of_getElem? (i := 1) rfl)))
  have Scs := Sta.start evcs (Or.inl (hsets _ (List.mem_of_getElem? (i := 0) rfl)))
  have Ncs : ¬ (vcs = (0 : Int32)) := gotF (Cond.eq_ints evcs (Term.int_eval _)) (not_v (Cond.before_iff.mp (hsets _ (List.mem_of_getElem? (i := 2) rfl))))
  obtain ⟨wI, evwI⟩ := exa_v (Cond.before_iff.mp (hsets _ (List.mem_of_getElem? (i := 11) rfl)))
  have SwI := Sta.start evwI (Or.inl (hsets _ (List.mem_of_getElem? (i := 10) rfl)))
  have AwI := Exa.start evwI (Cond.before_iff.mp (hsets _ (List.mem_of_getElem? (i := 11) rfl)))
  obtain ⟨wA, evA⟩ := exa_v (Cond.before_iff.mp (hsets _ (List.mem_of_getElem? (i := 15) rfl)))
  have SA_ := Sta.start evA (Or.inl (hsets _ (List.mem_of_getElem? (i := 13) rfl)))
  obtain ⟨cA, ArA⟩ := Arr.start evA (Cond.before_iff.mp (hsets _ (List.mem_of_getElem? (i := 14) rfl)))
  obtain ⟨zA, lA⟩ := own_len evA ArA (eqv_i (Term.int_eval _) (Cond.before_iff.mp (hsets _ (List.mem_of_getElem? (i := 16) rfl))))
  have TA_ : TA s wA cA := own_TA evA ArA zA lA hsets
  have G : Gh s vcs wI wA cA := ⟨Scs, Ncs, SwI, AwI, SA_, TA_⟩
  have hCH0 : CHv s consts_1 s.vm s.heap := CHv.start (own_EW hw) hcalls.1 (hsets _ (List.mem_of_getElem? (i := 2) rfl)) (hw _ (List.mem_of_getElem? (i := 15) rfl)) (hw _ (List.mem_of_getElem? (i := 2) rfl))
  obtain ⟨n, o, h1, h2, h3, _, L, rfl, hQ, hq⟩ := rm0 l s _ hw tables_1 vcs wI wA cA G iN iA iB iC s.heap s.heap.size (Old.start s)  p e ha hc hk s m _ below hf ((Spec.applies_iff_loose hf).mp happ).1 ⟨rfl, State.Warmed39.refl s, rfl, hCH0, fun _ q => nomatch q⟩ trivial
  obtain ⟨rfl, N, -⟩ := hQ
  refine ⟨n, _, h1, h2, h3, hpost _ _ _ _ _ _ ⟨Cond.after_iff.mpr rfl, Cond.after_iff.mpr (eq_i res_at (Term.int_eval (1)) rfl), trivial⟩ ⟨hq.2.1, hq.2.2.1, hq.2.2.2.1, (hq.2.2.2.2.sift fun y hy => Or.inr (N y hy)).mono (by decide) (by decide)⟩⟩
theorem main_1_1 : Claimed_1_1 := comes_1 fun _ _ _ _ _ _ h hF => ⟨h.1, hF⟩
theorem main_1_2 : Claimed_1_2 := comes_1 fun _ _ _ _ _ _ h hF => ⟨h.2.1, hF⟩
end Jvm.Pilot.@@N@@
namespace Jvm.Pilot.@@N@@
open Jvm Jvm.ClassFile Sem Op Lib Jvm.Free Jvm.Stand Jvm.Pilot.@@N@@.Jvm.D
/-! MADE BY PROGRAM (witnessworld.py) out of the Statement's table words and the real class files: 25 classes; the members and pool entries that the words name. The judged class is class 1, her method 2. -/
namespace start1
open Jvm.ClassFile
def u (s : String) : CpInfo := .utf8 (stringToUtf16 s)
/-- a pool by its gaps: so many unusable entries, then the entry; so many at the end -/
def gap : Nat → List CpInfo → List CpInfo
  | 0, r => r
  | n + 1, r => .unusable :: gap n r
def poolList (es : List (Nat × CpInfo)) (last : Nat) : List CpInfo := es.foldr (fun e r => gap e.1 (e.2 :: r)) (gap last [])
def pool (es : List (Nat × CpInfo)) (last : Nat) : Array CpInfo := ⟨poolList es last⟩
def fileOf (pool : Array CpInfo) (this : Nat) (attrs : Array Attribute := #[]) (ms : Array MethodInfo := #[]) (fl : Nat := 33) (sup : Nat := 0) (ifs : Array Nat := #[]) (fds : Array FieldInfo := #[]) : ClassFile where
  minorVersion := 0
  majorVersion := 65
  constantPool := pool
  accessFlags := fl
  thisClass := this
  superClass := sup
  interfaces := ifs
  fields := fds
  methods := ms
  attributes := attrs
def plain (name : String) (sup : Option ClassId) : Class where
  name := name
  kind := .ordinary
  loader := none
  accessFlags := 33
  super := sup
  interfaces := #[]
  cf := none
  fields := #[]
  methods := #[]
  instanceTypes := #[]
  staticTypes := #[]
  resolved := #[]
  callSites := []
  init := .initialized
  statics := none
  mirror := none

def pool0 : Array CpInfo := pool [(5, u "<init>"), (0, u "()V"), (1, .class_ 10), (1, u "java/lang/Object")] 113

def k0c0 : Code := { maxStack := 0, maxLocals := 1, code := object_method_1_code, exceptionTable := #[], attributes := #[] }
def k0m0 : Method := { name := "<init>", desc := "()V", sig := { parameters := [], returnType := none }, accessFlags := 1, code := some k0c0 }
/-- java/lang/Object -/
def k0 : Class := { plain "java/lang/Object" none with
  accessFlags := 33
  interfaces := #[]
  cf := some (fileOf pool0 8 #[] #[{ accessFlags := 1, nameIndex := 5, descriptorIndex := 6, attributes := #[] }] 33 0 #[] #[])
  fields := #[]
  methods := #[k0m0]
  instanceTypes := #[]
  staticTypes := #[]
  resolved := Array.replicate 124 none
  statics := none }

def pool1 : Array CpInfo := pool [(2, .class_ 4), (1, u "java/lang/Object"), (0, u "<init>"), (0, u "()V"), (0, .class_ 8), (0, u "java/lang/String"), (0, .methodref 7 10), (0, .nameAndType 5 11), (0, u "([C)V"), (0, .methodref 13 14), (0, .class_ 15), (0, .nameAndType 16 17), (0, u "com/example/usher/usher/ProfilesIsNamePinLaw"), (0, u "ws"), (0, u "(C)Z"), (0, .methodref 19 20), (0, .class_ 21), (0, .nameAndType 22 23), (0, u "com/example/usher/usher/Profiles"), (0, u "isName"), (0, u "(Ljava/lang/String;)Z"), (3, u "law"), (0, u "(IIII)Z")] 4

def k1m0 : Method := { name := "<init>", desc := "()V", sig := { parameters := [], returnType := none }, accessFlags := 2, code := none }
def k1c1 : Code := { maxStack := 2, maxLocals := 1, code := method_2_code, exceptionTable := #[], attributes := #[] }
def k1m1 : Method := { name := "ws", desc := "(C)Z", sig := { parameters := [.char], returnType := some .boolean }, accessFlags := 10, code := some k1c1 }
def k1c2 : Code := { maxStack := 3, maxLocals := 14, code := code, exceptionTable := #[], attributes := #[] }
def k1m2 : Method := { name := "law", desc := "(IIII)Z", sig := { parameters := [.int, .int, .int, .int], returnType := some .boolean }, accessFlags := 9, code := some k1c2 }
/-- com/example/usher/usher/ProfilesIsNamePinLaw -/
def k1 : Class := { plain "com/example/usher/usher/ProfilesIsNamePinLaw" (some 0) with
  accessFlags := 49
  interfaces := #[]
  cf := some (fileOf pool1 13 #[] #[{ accessFlags := 2, nameIndex := 5, descriptorIndex := 6, attributes := #[] }, { accessFlags := 10, nameIndex := 16, descriptorIndex := 17, attributes := #[] }, { accessFlags := 9, nameIndex := 27, descriptorIndex := 28, attributes := #[] }] 49 2 #[] #[])
  fields := #[]
  methods := #[k1m0, k1m1, k1m2]
  instanceTypes := #[]
  staticTypes := #[]
  resolved := Array.replicate 33 none
  statics := none }

def pool2 : Array CpInfo := pool [(1, .class_ 2), (0, u "java/io/Serializable"), (0, .class_ 4), (0, u "java/lang/Object")] 2

/-- java/io/Serializable -/
def k2 : Class := { plain "java/io/Serializable" (some 0) with
  accessFlags := 1537
  interfaces := #[]
  cf := some (fileOf pool2 1 #[] #[] 1537 3 #[] #[])
  fields := #[]
  methods := #[]
  instanceTypes := #[]
  staticTypes := #[]
  resolved := Array.replicate 7 none
  statics := none }

def pool3 : Array CpInfo := pool [(1, .class_ 2), (0, u "java/lang/Comparable"), (0, .class_ 4), (0, u "java/lang/Object")] 7

/-- java/lang/Comparable -/
def k3 : Class := { plain "java/lang/Comparable" (some 0) with
  accessFlags := 1537
  interfaces := #[]
  cf := some (fileOf pool3 1 #[] #[] 1537 3 #[] #[])
  fields := #[]
  methods := #[]
  instanceTypes := #[]
  staticTypes := #[]
  resolved := Array.replicate 12 none
  statics := none }

def pool4 : Array CpInfo := pool [(2, .class_ 4), (1, u "java/lang/CharSequence"), (42, .class_ 48), (0, u "java/lang/CharSequence$1CodePointIterator"), (10, .class_ 60), (0, u "java/lang/CharSequence$1CharIterator"), (5, .class_ 67), (0, u "java/lang/Object"), (10, u "toString"), (0, u "()Ljava/lang/String;")] 51

def k4m0 : Method := { name := "toString", desc := "()Ljava/lang/String;", sig := { parameters := [], returnType := some (.object "java/lang/String") }, accessFlags := 1025, code := none }
/-- java/lang/CharSequence -/
def k4 : Class := { plain "java/lang/CharSequence" (some 0) with
  accessFlags := 1537
  interfaces := #[]
  cf := some (fileOf pool4 2 #[.nestMembers #[47, 59]] #[{ accessFlags := 1025, nameIndex := 78, descriptorIndex := 79, attributes := #[] }] 1537 66 #[] #[])
  fields := #[]
  methods := #[k4m0]
  instanceTypes := #[]
  staticTypes := #[]
  resolved := Array.replicate 131 none
  statics := none }

def pool5 : Array CpInfo := pool [(1, .class_ 2), (0, u "java/lang/constant/Constable"), (0, .class_ 4), (0, u "java/lang/Object")] 6

/-- java/lang/constant/Constable -/
def k5 : Class := { plain "java/lang/constant/Constable" (some 0) with
  accessFlags := 1537
  interfaces := #[]
  cf := some (fileOf pool5 1 #[] #[] 1537 3 #[] #[])
  fields := #[]
  methods := #[]
  instanceTypes := #[]
  staticTypes := #[]
  resolved := Array.replicate 11 none
  statics := none }

def pool6 : Array CpInfo := pool [(1, .class_ 2), (0, u "java/lang/constant/ConstantDesc"), (0, .class_ 4), (0, u "java/lang/Object")] 32

/-- java/lang/constant/ConstantDesc -/
def k6 : Class := { plain "java/lang/constant/ConstantDesc" (some 0) with
  accessFlags := 1537
  interfaces := #[]
  cf := some (fileOf pool6 1 #[] #[] 1537 3 #[] #[])
  fields := #[]
  methods := #[]
  instanceTypes := #[]
  staticTypes := #[]
  resolved := Array.replicate 37 none
  statics := none }

def pool7 : Array CpInfo := pool [(1, .methodref 2 3), (0, .class_ 4), (0, .nameAndType 5 6), (0, u "java/lang/Object"), (0, u "<init>"), (0, u "()V"), (0, .string 8), (0, u ""), (0, .fieldref 10 11), (0, .class_ 12), (0, .nameAndType 13 14), (0, u "java/lang/String"), (0, u "value"), (0, u "[B"), (0, .fieldref 10 16), (0, .nameAndType 17 18), (0, u "coder"), (0, u "B"), (2, u "hash"), (0, u "I"), (2, u "hashIsZero"), (0, u "Z"), (0, .methodref 10 28), (0, .nameAndType 5 29), (0, u "([CIILjava/lang/Void;)V"), (8, .fieldref 10 39), (0, .nameAndType 40 26), (0, u "COMPACT_STRINGS"), (1, .class_ 44), (1, u "java/lang/StringUTF16"), (0, u "compress"), (1, .methodref 42 48), (0, .nameAndType 49 50), (0, u "coderFromArrayLen"), (0, u "([BI)B"), (56, .class_ 109), (1, u "java/lang/StringLatin1"), (32, u "()Z"), (34, .methodref 42 178), (0, .nameAndType 45 179), (0, u "([CII)[B"), (31, u "([BB)V"), (122, u "()I"), (0, .methodref 10 336), (0, .nameAndType 17 337), (0, u "()B"), (38, u "([BI[BII)I"), (85, .nameAndType 463 464), (0, u "toString"), (0, u "()Ljava/lang/String;"), (27, .methodref 10 493), (0, .nameAndType 494 142), (0, u "isLatin1"), (10, .methodref 10 506), (0, .nameAndType 507 334), (0, u "length"), (33, .methodref 107 542), (0, .nameAndType 543 544), (0, u "equals"), (0, u "([B[B)Z"), (3, u "(Ljava/lang/CharSequence;)Z"), (10, .class_ 561), (1, u "jdk/internal/util/ArraysSupport"), (0, u "mismatch"), (10, u "(Ljava/lang/Object;)Z"), (1, .class_ 576), (0, u "java/lang/CharSequence"), (12, u "([B[B)I"), (9, u "CASE_INSENSITIVE_ORDER"), (0, u "Ljava/util/Comparator;"), (6, .methodref 559 608), (0, .nameAndType 562 376), (15, .methodref 10 625), (0, .nameAndType 626 627), (0, u "startsWith"), (0, u "(Ljava/lang/String;I)Z"), (7, u "indexOf"), (11, .methodref 107 648), (0, .nameAndType 635 589), (43, u "isEmpty"), (17, .interfaceMethodref 575 462), (0, .methodref 10 712), (0, .nameAndType 635 713), (0, u "(Ljava/lang/String;)I"), (148, u "([B)Ljava/lang/String;"), (1, .methodref 107 865), (0, .nameAndType 866 862), (0, u "strip"), (143, u "([C)V"), (90, u "serialPersistentFields"), (0, u "[Ljava/io/ObjectStreamField;"), (0, .class_ 1104), (0, u "java/lang/String$CaseInsensitiveComparator"), (1, .class_ 1107), (0, u "java/io/Serializable"), (0, .class_ 1109), (0, u "java/lang/Comparable"), (0, .class_ 1111), (0, u "java/lang/constant/Constable"), (0, .class_ 1113), (0, u "java/lang/constant/ConstantDesc"), (2, u "serialVersionUID"), (0, u "J"), (3, u "REPL"), (0, u "C"), (2, u "LATIN1"), (1, u "UTF16"), (129, u "(Ljava/lang/String;)Z"), (33, u "contains")] 159

def k7m0 : Method := { name := "<init>", desc := "()V", sig := { parameters := [], returnType := none }, accessFlags := 1, code := none }
def k7c1 : Code := { maxStack := 5, maxLocals := 2, code := jdk_42_method_3_code, exceptionTable := #[], attributes := #[] }
def k7m1 : Method := { name := "<init>", desc := "([C)V", sig := { parameters := [(.array .char)], returnType := none }, accessFlags := 1, code := some k7c1 }
def k7c2 : Code := { maxStack := 2, maxLocals := 1, code := jdk_42_method_54_code, exceptionTable := #[], attributes := #[] }
def k7m2 : Method := { name := "length", desc := "()I", sig := { parameters := [], returnType := some .int }, accessFlags := 1, code := some k7c2 }
def k7c3 : Code := { maxStack := 1, maxLocals := 1, code := jdk_42_method_55_code, exceptionTable := #[], attributes := #[] }
def k7m3 : Method := { name := "isEmpty", desc := "()Z", sig := { parameters := [], returnType := some .boolean }, accessFlags := 1, code := some k7c3 }
def k7c4 : Code := { maxStack := 2, maxLocals := 3, code := jdk_42_method_66_code, exceptionTable := #[], attributes := #[] }
def k7m4 : Method := { name := "equals", desc := "(Ljava/lang/Object;)Z", sig := { parameters := [(.object "java/lang/Object")], returnType := some .boolean }, accessFlags := 1, code := some k7c4 }
def k7c5 : Code := { maxStack := 5, maxLocals := 8, code := jdk_42_method_75_code, exceptionTable := #[], attributes := #[] }
def k7m5 : Method := { name := "startsWith", desc := "(Ljava/lang/String;I)Z", sig := { parameters := [(.object "java/lang/String"), .int], returnType := some .boolean }, accessFlags := 1, code := some k7c5 }
def k7c6 : Code := { maxStack := 3, maxLocals := 2, code := jdk_42_method_76_code, exceptionTable := #[], attributes := #[] }
def k7m6 : Method := { name := "startsWith", desc := "(Ljava/lang/String;)Z", sig := { parameters := [(.object "java/lang/String")], returnType := some .boolean }, accessFlags := 1, code := some k7c6 }
def k7c7 : Code := { maxStack := 2, maxLocals := 3, code := jdk_42_method_84_code, exceptionTable := #[], attributes := #[] }
def k7m7 : Method := { name := "indexOf", desc := "(Ljava/lang/String;)I", sig := { parameters := [(.object "java/lang/String")], returnType := some .int }, accessFlags := 1, code := some k7c7 }
def k7c8 : Code := { maxStack := 2, maxLocals := 2, code := jdk_42_method_97_code, exceptionTable := #[], attributes := #[] }
def k7m8 : Method := { name := "contains", desc := "(Ljava/lang/CharSequence;)Z", sig := { parameters := [(.object "java/lang/CharSequence")], returnType := some .boolean }, accessFlags := 1, code := some k7c8 }
def k7c9 : Code := { maxStack := 1, maxLocals := 2, code := jdk_42_method_114_code, exceptionTable := #[], attributes := #[] }
def k7m9 : Method := { name := "strip", desc := "()Ljava/lang/String;", sig := { parameters := [], returnType := some (.object "java/lang/String") }, accessFlags := 1, code := some k7c9 }
def k7c10 : Code := { maxStack := 1, maxLocals := 1, code := jdk_42_method_126_code, exceptionTable := #[], attributes := #[] }
def k7m10 : Method := { name := "toString", desc := "()Ljava/lang/String;", sig := { parameters := [], returnType := some (.object "java/lang/String") }, accessFlags := 1, code := some k7c10 }
def k7c11 : Code := { maxStack := 4, maxLocals := 6, code := jdk_42_method_149_code, exceptionTable := #[], attributes := #[] }
def k7m11 : Method := { name := "<init>", desc := "([CIILjava/lang/Void;)V", sig := { parameters := [(.array .char), .int, .int, (.object "java/lang/Void")], returnType := none }, accessFlags := 2, code := some k7c11 }
def k7c12 : Code := { maxStack := 2, maxLocals := 3, code := jdk_42_method_151_code, exceptionTable := #[], attributes := #[] }
def k7m12 : Method := { name := "<init>", desc := "([BB)V", sig := { parameters := [(.array .byte), .byte], returnType := none }, accessFlags := 0, code := some k7c12 }
def k7c13 : Code := { maxStack := 1, maxLocals := 1, code := jdk_42_method_152_code, exceptionTable := #[], attributes := #[] }
def k7m13 : Method := { name := "coder", desc := "()B", sig := { parameters := [], returnType := some .byte }, accessFlags := 0, code := some k7c13 }
def k7c14 : Code := { maxStack := 1, maxLocals := 1, code := jdk_42_method_154_code, exceptionTable := #[], attributes := #[] }
def k7m14 : Method := { name := "isLatin1", desc := "()Z", sig := { parameters := [], returnType := some .boolean }, accessFlags := 0, code := some k7c14 }
/-- java/lang/String -/
def k7 : Class := { plain "java/lang/String" (some 0) with
  accessFlags := 49
  interfaces := #[2, 3, 4, 5, 6]
  cf := some (fileOf pool7 10 #[.nestMembers #[1103]] #[{ accessFlags := 1, nameIndex := 5, descriptorIndex := 6, attributes := #[] }, { accessFlags := 1, nameIndex := 5, descriptorIndex := 1010, attributes := #[] }, { accessFlags := 1, nameIndex := 507, descriptorIndex := 334, attributes := #[] }, { accessFlags := 1, nameIndex := 692, descriptorIndex := 142, attributes := #[] }, { accessFlags := 1, nameIndex := 543, descriptorIndex := 573, attributes := #[] }, { accessFlags := 1, nameIndex := 626, descriptorIndex := 627, attributes := #[] }, { accessFlags := 1, nameIndex := 626, descriptorIndex := 1257, attributes := #[] }, { accessFlags := 1, nameIndex := 635, descriptorIndex := 713, attributes := #[] }, { accessFlags := 1, nameIndex := 1291, descriptorIndex := 548, attributes := #[] }, { accessFlags := 1, nameIndex := 866, descriptorIndex := 464, attributes := #[] }, { accessFlags := 1, nameIndex := 463, descriptorIndex := 464, attributes := #[] }, { accessFlags := 2, nameIndex := 5, descriptorIndex := 29, attributes := #[] }, { accessFlags := 0, nameIndex := 5, descriptorIndex := 211, attributes := #[] }, { accessFlags := 0, nameIndex := 17, descriptorIndex := 337, attributes := #[] }, { accessFlags := 0, nameIndex := 494, descriptorIndex := 142, attributes := #[] }] 49 2 #[1106, 1108, 575, 1110, 1112] #[{ accessFlags := 18, nameIndex := 13, descriptorIndex := 14, attributes := #[] }, { accessFlags := 18, nameIndex := 17, descriptorIndex := 18, attributes := #[] }, { accessFlags := 2, nameIndex := 21, descriptorIndex := 22, attributes := #[] }, { accessFlags := 2, nameIndex := 25, descriptorIndex := 26, attributes := #[] }, { accessFlags := 26, nameIndex := 1116, descriptorIndex := 1117, attributes := #[] }, { accessFlags := 24, nameIndex := 40, descriptorIndex := 26, attributes := #[] }, { accessFlags := 26, nameIndex := 1101, descriptorIndex := 1102, attributes := #[] }, { accessFlags := 26, nameIndex := 1121, descriptorIndex := 1122, attributes := #[] }, { accessFlags := 25, nameIndex := 599, descriptorIndex := 600, attributes := #[] }, { accessFlags := 24, nameIndex := 1125, descriptorIndex := 18, attributes := #[] }, { accessFlags := 24, nameIndex := 1127, descriptorIndex := 18, attributes := #[] }])
  fields := #[{ name := "value", type := (.array .byte), accessFlags := 18, slot := 0, constantValue := 0 }, { name := "coder", type := .byte, accessFlags := 18, slot := 1, constantValue := 0 }, { name := "hash", type := .int, accessFlags := 2, slot := 2, constantValue := 0 }, { name := "hashIsZero", type := .boolean, accessFlags := 2, slot := 3, constantValue := 0 }, { name := "serialVersionUID", type := .long, accessFlags := 26, slot := 0, constantValue := 0 }, { name := "COMPACT_STRINGS", type := .boolean, accessFlags := 24, slot := 1, constantValue := 0 }, { name := "serialPersistentFields", type := (.array (.object "java/io/ObjectStreamField")), accessFlags := 26, slot := 2, constantValue := 0 }, { name := "REPL", type := .char, accessFlags := 26, slot := 3, constantValue := 0 }, { name := "CASE_INSENSITIVE_ORDER", type := (.object "java/util/Comparator"), accessFlags := 25, slot := 4, constantValue := 0 }, { name := "LATIN1", type := .byte, accessFlags := 24, slot := 5, constantValue := 0 }, { name := "UTF16", type := .byte, accessFlags := 24, slot := 6, constantValue := 0 }]
  methods := #[k7m0, k7m1, k7m2, k7m3, k7m4, k7m5, k7m6, k7m7, k7m8, k7m9, k7m10, k7m11, k7m12, k7m13, k7m14]
  instanceTypes := #[(.array .byte), .byte, .int, .boolean]
  staticTypes := #[.long, .boolean, (.array (.object "java/io/ObjectStreamField")), .char, (.object "java/util/Comparator"), .byte, .byte]
  resolved := Array.replicate 1451 none
  statics := some 0 }

def pool8 : Array CpInfo := pool [(2, .class_ 4), (1, u "java/lang/Object"), (0, u "<init>"), (0, u "()V"), (3, .string 11), (0, u ","), (1, .class_ 15), (1, u "java/lang/String"), (2, .methodref 13 19), (0, .nameAndType 20 21), (0, u "strip"), (0, u "()Ljava/lang/String;"), (0, .methodref 13 23), (0, .nameAndType 24 25), (0, u "isEmpty"), (0, u "()Z"), (3, u "(Ljava/lang/Object;)Z"), (7, .class_ 39), (1, u "com/example/usher/usher/Profiles"), (7, u "isName"), (0, u "(Ljava/lang/String;)Z"), (16, .methodref 13 66), (0, .nameAndType 67 29), (0, u "equals"), (0, .methodref 13 69), (0, .nameAndType 70 71), (0, u "contains"), (0, u "(Ljava/lang/CharSequence;)Z"), (0, .string 73), (0, u "!"), (0, .methodref 13 75), (0, .nameAndType 76 48), (0, u "startsWith")] 25

def k8m0 : Method := { name := "<init>", desc := "()V", sig := { parameters := [], returnType := none }, accessFlags := 2, code := none }
def k8c1 : Code := { maxStack := 2, maxLocals := 1, code := prog_19_method_4_code, exceptionTable := #[], attributes := #[] }
def k8m1 : Method := { name := "isName", desc := "(Ljava/lang/String;)Z", sig := { parameters := [(.object "java/lang/String")], returnType := some .boolean }, accessFlags := 8, code := some k8c1 }
/-- com/example/usher/usher/Profiles -/
def k8 : Class := { plain "com/example/usher/usher/Profiles" (some 0) with
  accessFlags := 33
  interfaces := #[]
  cf := some (fileOf pool8 37 #[] #[{ accessFlags := 2, nameIndex := 5, descriptorIndex := 6, attributes := #[] }, { accessFlags := 8, nameIndex := 47, descriptorIndex := 48, attributes := #[] }] 33 2 #[] #[])
  fields := #[]
  methods := #[k8m0, k8m1]
  instanceTypes := #[]
  staticTypes := #[]
  resolved := Array.replicate 102 none
  statics := none }

def pool9 : Array CpInfo := pool [(6, .class_ 8), (1, u "java/lang/Object"), (0, u "<init>"), (0, u "()V"), (1, .class_ 14), (1, u "java/lang/StringUTF16"), (31, u "$assertionsDisabled"), (0, u "Z"), (13, u "HI_BYTE_SHIFT"), (0, u "I"), (2, u "LO_BYTE_SHIFT"), (49, .methodref 12 116), (0, .nameAndType 117 118), (0, u "compress"), (0, u "([CI[BII)I"), (3, u "([CII)[B"), (138, u "coderFromArrayLen"), (0, u "([BI)B"), (106, .class_ 371), (1, u "java/lang/StringUTF16$LinesSpliterator"), (58, u "MAX_LENGTH"), (196, .class_ 628), (0, u "java/lang/StringUTF16$CodePointsSpliterator"), (0, .class_ 630), (0, u "java/lang/StringUTF16$CharsSpliterator")] 4

def k9m0 : Method := { name := "<init>", desc := "()V", sig := { parameters := [], returnType := none }, accessFlags := 0, code := none }
def k9c1 : Code := { maxStack := 2, maxLocals := 2, code := jdk_52_method_15_code, exceptionTable := #[], attributes := #[] }
def k9m1 : Method := { name := "coderFromArrayLen", desc := "([BI)B", sig := { parameters := [(.array .byte), .int], returnType := some .byte }, accessFlags := 8, code := some k9c1 }
def k9c2 : Code := { maxStack := 5, maxLocals := 6, code := jdk_52_method_16_code, exceptionTable := #[], attributes := #[] }
def k9m2 : Method := { name := "compress", desc := "([CII)[B", sig := { parameters := [(.array .char), .int, .int], returnType := some (.array .byte) }, accessFlags := 9, code := some k9c2 }
def k9c3 : Code := { maxStack := 3, maxLocals := 7, code := jdk_52_method_21_code, exceptionTable := #[], attributes := #[] }
def k9m3 : Method := { name := "compress", desc := "([CI[BII)I", sig := { parameters := [(.array .char), .int, (.array .byte), .int, .int], returnType := some .int }, accessFlags := 9, code := some k9c3 }
/-- java/lang/StringUTF16 -/
def k9 : Class := { plain "java/lang/StringUTF16" (some 0) with
  accessFlags := 48
  interfaces := #[]
  cf := some (fileOf pool9 12 #[.nestMembers #[627, 629, 369]] #[{ accessFlags := 0, nameIndex := 9, descriptorIndex := 10, attributes := #[] }, { accessFlags := 8, nameIndex := 261, descriptorIndex := 262, attributes := #[] }, { accessFlags := 9, nameIndex := 117, descriptorIndex := 122, attributes := #[] }, { accessFlags := 9, nameIndex := 117, descriptorIndex := 118, attributes := #[] }] 48 6 #[] #[{ accessFlags := 26, nameIndex := 61, descriptorIndex := 62, attributes := #[] }, { accessFlags := 26, nameIndex := 65, descriptorIndex := 62, attributes := #[] }, { accessFlags := 24, nameIndex := 430, descriptorIndex := 62, attributes := #[] }, { accessFlags := 4120, nameIndex := 46, descriptorIndex := 47, attributes := #[] }])
  fields := #[{ name := "HI_BYTE_SHIFT", type := .int, accessFlags := 26, slot := 0, constantValue := 0 }, { name := "LO_BYTE_SHIFT", type := .int, accessFlags := 26, slot := 1, constantValue := 0 }, { name := "MAX_LENGTH", type := .int, accessFlags := 24, slot := 2, constantValue := 0 }, { name := "$assertionsDisabled", type := .boolean, accessFlags := 4120, slot := 3, constantValue := 0 }]
  methods := #[k9m0, k9m1, k9m2, k9m3]
  instanceTypes := #[]
  staticTypes := #[.int, .int, .int, .boolean]
  resolved := Array.replicate 635 none
  statics := none }

def pool10 : Array CpInfo := pool [(1, .class_ 2), (0, u "java/lang/String"), (1, .class_ 6), (1, u "java/lang/Object"), (0, u "<init>"), (0, u "()V"), (5, .class_ 16), (1, u "java/lang/StringLatin1"), (33, .methodref 14 51), (0, .nameAndType 52 53), (0, u "getChar"), (0, u "([BI)C"), (3, u "([B)I"), (8, .fieldref 67 68), (0, .class_ 69), (0, .nameAndType 70 71), (0, u "java/lang/CharacterDataLatin1"), (0, u "instance"), (0, u "Ljava/lang/CharacterDataLatin1;"), (19, u "(I)Z"), (7, .methodref 14 100), (0, .nameAndType 101 102), (0, u "indexOf"), (0, u "([BI[BII)I"), (9, .methodref 1 113), (0, .nameAndType 7 114), (0, u "([BB)V"), (6, u "$assertionsDisabled"), (0, u "Z"), (8, .class_ 133), (1, u "java/util/Arrays"), (17, .string 152), (0, u ""), (42, .nameAndType 196 197), (0, u "newString"), (0, u "([BII)Ljava/lang/String;"), (12, .methodref 14 195), (0, .methodref 67 212), (0, .nameAndType 213 91), (0, u "isWhitespace"), (0, .methodref 14 215), (0, .nameAndType 216 57), (0, u "indexOfNonWhitespace"), (0, .methodref 14 218), (0, .nameAndType 219 57), (0, u "lastIndexOfNonWhitespace"), (1, .class_ 223), (1, u "java/lang/StringLatin1$LinesSpliterator"), (8, .methodref 131 233), (0, .nameAndType 234 235), (0, u "copyOfRange"), (0, u "([BII)[B"), (45, u "equals"), (0, u "([B[B)Z"), (4, u "([B[B)I"), (79, u "([B)Ljava/lang/String;"), (3, u "strip"), (18, .class_ 391), (0, u "java/lang/StringLatin1$CharsSpliterator")] 3

def k10m0 : Method := { name := "<init>", desc := "()V", sig := { parameters := [], returnType := none }, accessFlags := 0, code := none }
def k10c1 : Code := { maxStack := 3, maxLocals := 3, code := jdk_43_method_13_code, exceptionTable := #[], attributes := #[] }
def k10m1 : Method := { name := "equals", desc := "([B[B)Z", sig := { parameters := [(.array .byte), (.array .byte)], returnType := some .boolean }, accessFlags := 9, code := some k10c1 }
def k10c2 : Code := { maxStack := 5, maxLocals := 2, code := jdk_43_method_24_code, exceptionTable := #[], attributes := #[] }
def k10m2 : Method := { name := "indexOf", desc := "([B[B)I", sig := { parameters := [(.array .byte), (.array .byte)], returnType := some .int }, accessFlags := 9, code := some k10c2 }
def k10c3 : Code := { maxStack := 3, maxLocals := 11, code := jdk_43_method_25_code, exceptionTable := #[], attributes := #[] }
def k10m3 : Method := { name := "indexOf", desc := "([BI[BII)I", sig := { parameters := [(.array .byte), .int, (.array .byte), .int, .int], returnType := some .int }, accessFlags := 9, code := some k10c3 }
def k10c4 : Code := { maxStack := 2, maxLocals := 4, code := jdk_43_method_37_code, exceptionTable := #[], attributes := #[] }
def k10m4 : Method := { name := "indexOfNonWhitespace", desc := "([B)I", sig := { parameters := [(.array .byte)], returnType := some .int }, accessFlags := 9, code := some k10c4 }
def k10c5 : Code := { maxStack := 3, maxLocals := 4, code := jdk_43_method_38_code, exceptionTable := #[], attributes := #[] }
def k10m5 : Method := { name := "lastIndexOfNonWhitespace", desc := "([B)I", sig := { parameters := [(.array .byte)], returnType := some .int }, accessFlags := 9, code := some k10c5 }
def k10c6 : Code := { maxStack := 4, maxLocals := 4, code := jdk_43_method_39_code, exceptionTable := #[], attributes := #[] }
def k10m6 : Method := { name := "strip", desc := "([B)Ljava/lang/String;", sig := { parameters := [(.array .byte)], returnType := some (.object "java/lang/String") }, accessFlags := 9, code := some k10c6 }
def k10c7 : Code := { maxStack := 2, maxLocals := 2, code := jdk_43_method_44_code, exceptionTable := #[], attributes := #[] }
def k10m7 : Method := { name := "getChar", desc := "([BI)C", sig := { parameters := [(.array .byte), .int], returnType := some .char }, accessFlags := 9, code := some k10c7 }
def k10c8 : Code := { maxStack := 6, maxLocals := 3, code := jdk_43_method_47_code, exceptionTable := #[], attributes := #[] }
def k10m8 : Method := { name := "newString", desc := "([BII)Ljava/lang/String;", sig := { parameters := [(.array .byte), .int, .int], returnType := some (.object "java/lang/String") }, accessFlags := 9, code := some k10c8 }
/-- java/lang/StringLatin1 -/
def k10 : Class := { plain "java/lang/StringLatin1" (some 0) with
  accessFlags := 48
  interfaces := #[]
  cf := some (fileOf pool10 14 #[.nestMembers #[390, 221]] #[{ accessFlags := 0, nameIndex := 7, descriptorIndex := 8, attributes := #[] }, { accessFlags := 9, nameIndex := 281, descriptorIndex := 282, attributes := #[] }, { accessFlags := 9, nameIndex := 101, descriptorIndex := 287, attributes := #[] }, { accessFlags := 9, nameIndex := 101, descriptorIndex := 102, attributes := #[] }, { accessFlags := 9, nameIndex := 216, descriptorIndex := 57, attributes := #[] }, { accessFlags := 9, nameIndex := 219, descriptorIndex := 57, attributes := #[] }, { accessFlags := 9, nameIndex := 371, descriptorIndex := 367, attributes := #[] }, { accessFlags := 9, nameIndex := 52, descriptorIndex := 53, attributes := #[] }, { accessFlags := 9, nameIndex := 196, descriptorIndex := 197, attributes := #[] }] 48 4 #[] #[{ accessFlags := 4120, nameIndex := 121, descriptorIndex := 122, attributes := #[] }])
  fields := #[{ name := "$assertionsDisabled", type := .boolean, accessFlags := 4120, slot := 0, constantValue := 0 }]
  methods := #[k10m0, k10m1, k10m2, k10m3, k10m4, k10m5, k10m6, k10m7, k10m8]
  instanceTypes := #[]
  staticTypes := #[.boolean]
  resolved := Array.replicate 395 none
  statics := none }

def pool11 : Array CpInfo := pool [(2, .class_ 4), (1, u "java/lang/Object"), (0, u "<init>"), (0, u "()V"), (1, .class_ 10), (1, u "java/lang/CharacterData")] 75

def k11m0 : Method := { name := "<init>", desc := "()V", sig := { parameters := [], returnType := none }, accessFlags := 0, code := none }
/-- java/lang/CharacterData -/
def k11 : Class := { plain "java/lang/CharacterData" (some 0) with
  accessFlags := 1056
  interfaces := #[]
  cf := some (fileOf pool11 8 #[] #[{ accessFlags := 0, nameIndex := 5, descriptorIndex := 6, attributes := #[] }] 1056 2 #[] #[])
  fields := #[]
  methods := #[k11m0]
  instanceTypes := #[]
  staticTypes := #[]
  resolved := Array.replicate 86 none
  statics := none }

def pool12 : Array CpInfo := pool [(1, .fieldref 2 3), (0, .class_ 4), (0, .nameAndType 5 6), (0, u "java/lang/CharacterDataLatin1"), (0, u "A"), (0, u "[I"), (2, u "B"), (0, u "[C"), (3, u "(I)I"), (0, .methodref 2 16), (0, .nameAndType 17 14), (0, u "getProperties"), (3, u "(I)Z"), (5, u "DIGITS"), (0, u "[B"), (8, u "sharpsMap"), (1, .class_ 41), (1, u "java/lang/CharacterData"), (0, u "<init>"), (0, u "()V"), (3, u "instance"), (0, u "Ljava/lang/CharacterDataLatin1;"), (78, u "isWhitespace")] 13

def k12c0 : Code := { maxStack := 2, maxLocals := 4, code := jdk_116_method_1_code, exceptionTable := #[], attributes := #[] }
def k12m0 : Method := { name := "getProperties", desc := "(I)I", sig := { parameters := [.int], returnType := some .int }, accessFlags := 0, code := some k12c0 }
def k12c1 : Code := { maxStack := 2, maxLocals := 3, code := jdk_116_method_26_code, exceptionTable := #[], attributes := #[] }
def k12m1 : Method := { name := "isWhitespace", desc := "(I)Z", sig := { parameters := [.int], returnType := some .boolean }, accessFlags := 0, code := some k12c1 }
def k12m2 : Method := { name := "<init>", desc := "()V", sig := { parameters := [], returnType := none }, accessFlags := 2, code := none }
/-- java/lang/CharacterDataLatin1 -/
def k12 : Class := { plain "java/lang/CharacterDataLatin1" (some 11) with
  accessFlags := 32
  interfaces := #[]
  cf := some (fileOf pool12 2 #[] #[{ accessFlags := 0, nameIndex := 17, descriptorIndex := 14, attributes := #[] }, { accessFlags := 0, nameIndex := 127, descriptorIndex := 21, attributes := #[] }, { accessFlags := 2, nameIndex := 42, descriptorIndex := 43, attributes := #[] }] 32 39 #[] #[{ accessFlags := 26, nameIndex := 27, descriptorIndex := 28, attributes := #[] }, { accessFlags := 8, nameIndex := 37, descriptorIndex := 10, attributes := #[] }, { accessFlags := 24, nameIndex := 47, descriptorIndex := 48, attributes := #[] }, { accessFlags := 24, nameIndex := 5, descriptorIndex := 6, attributes := #[] }, { accessFlags := 24, nameIndex := 9, descriptorIndex := 10, attributes := #[] }])
  fields := #[{ name := "DIGITS", type := (.array .byte), accessFlags := 26, slot := 0, constantValue := 0 }, { name := "sharpsMap", type := (.array .char), accessFlags := 8, slot := 1, constantValue := 0 }, { name := "instance", type := (.object "java/lang/CharacterDataLatin1"), accessFlags := 24, slot := 2, constantValue := 0 }, { name := "A", type := (.array .int), accessFlags := 24, slot := 3, constantValue := 0 }, { name := "B", type := (.array .char), accessFlags := 24, slot := 4, constantValue := 0 }]
  methods := #[k12m0, k12m1, k12m2]
  instanceTypes := #[]
  staticTypes := #[(.array .byte), (.array .char), (.object "java/lang/CharacterDataLatin1"), (.array .int), (.array .char)]
  resolved := Array.replicate 141 none
  statics := some 1 }

def pool13 : Array CpInfo := pool [(9, u "<init>"), (6, .class_ 18), (1, u "java/lang/Object"), (0, u "()V"), (1, .class_ 23), (1, u "jdk/internal/util/ArraysSupport"), (0, u "LOG2_ARRAY_LONG_INDEX_SCALE"), (0, u "I"), (2, u "U"), (0, u "Ljdk/internal/misc/Unsafe;"), (8, u "BIG_ENDIAN"), (0, u "Z"), (8, u "LOG2_BYTE_BIT_SIZE"), (4, u "LOG2_ARRAY_INT_INDEX_SCALE"), (54, u "JLA"), (0, u "Ljdk/internal/access/JavaLangAccess;"), (11, u "LOG2_ARRAY_BOOLEAN_INDEX_SCALE"), (9, u "LOG2_ARRAY_BYTE_INDEX_SCALE"), (5, u "LOG2_ARRAY_CHAR_INDEX_SCALE"), (5, u "LOG2_ARRAY_SHORT_INDEX_SCALE"), (5, u "mismatch"), (12, u "LOG2_ARRAY_FLOAT_INDEX_SCALE"), (24, u "LOG2_ARRAY_DOUBLE_INDEX_SCALE"), (89, u "T_BOOLEAN"), (2, u "T_CHAR"), (1, u "T_FLOAT"), (1, u "T_DOUBLE"), (1, u "T_BYTE"), (1, u "T_SHORT"), (1, u "T_INT"), (1, u "T_LONG"), (1, u "SOFT_MAX_ARRAY_LENGTH"), (42, u "([BI[BII)I")] 40

def k13m0 : Method := { name := "<init>", desc := "()V", sig := { parameters := [], returnType := none }, accessFlags := 2, code := none }
def k13c1 : Code := { maxStack := 8, maxLocals := 8, code := jdk_48_method_14_code, exceptionTable := #[], attributes := #[] }
def k13m1 : Method := { name := "mismatch", desc := "([BI[BII)I", sig := { parameters := [(.array .byte), .int, (.array .byte), .int, .int], returnType := some .int }, accessFlags := 9, code := some k13c1 }
/-- jdk/internal/util/ArraysSupport -/
def k13 : Class := { plain "jdk/internal/util/ArraysSupport" (some 0) with
  accessFlags := 33
  interfaces := #[]
  cf := some (fileOf pool13 21 #[] #[{ accessFlags := 2, nameIndex := 9, descriptorIndex := 19, attributes := #[] }, { accessFlags := 9, nameIndex := 149, descriptorIndex := 337, attributes := #[] }] 33 16 #[] #[{ accessFlags := 24, nameIndex := 28, descriptorIndex := 29, attributes := #[] }, { accessFlags := 26, nameIndex := 38, descriptorIndex := 39, attributes := #[] }, { accessFlags := 25, nameIndex := 121, descriptorIndex := 25, attributes := #[] }, { accessFlags := 25, nameIndex := 131, descriptorIndex := 25, attributes := #[] }, { accessFlags := 25, nameIndex := 137, descriptorIndex := 25, attributes := #[] }, { accessFlags := 25, nameIndex := 143, descriptorIndex := 25, attributes := #[] }, { accessFlags := 25, nameIndex := 53, descriptorIndex := 25, attributes := #[] }, { accessFlags := 25, nameIndex := 24, descriptorIndex := 25, attributes := #[] }, { accessFlags := 25, nameIndex := 162, descriptorIndex := 25, attributes := #[] }, { accessFlags := 25, nameIndex := 187, descriptorIndex := 25, attributes := #[] }, { accessFlags := 26, nameIndex := 48, descriptorIndex := 25, attributes := #[] }, { accessFlags := 25, nameIndex := 277, descriptorIndex := 25, attributes := #[] }, { accessFlags := 25, nameIndex := 280, descriptorIndex := 25, attributes := #[] }, { accessFlags := 25, nameIndex := 282, descriptorIndex := 25, attributes := #[] }, { accessFlags := 25, nameIndex := 284, descriptorIndex := 25, attributes := #[] }, { accessFlags := 25, nameIndex := 286, descriptorIndex := 25, attributes := #[] }, { accessFlags := 25, nameIndex := 288, descriptorIndex := 25, attributes := #[] }, { accessFlags := 25, nameIndex := 290, descriptorIndex := 25, attributes := #[] }, { accessFlags := 25, nameIndex := 292, descriptorIndex := 25, attributes := #[] }, { accessFlags := 26, nameIndex := 108, descriptorIndex := 109, attributes := #[] }, { accessFlags := 25, nameIndex := 294, descriptorIndex := 25, attributes := #[] }])
  fields := #[{ name := "U", type := (.object "jdk/internal/misc/Unsafe"), accessFlags := 24, slot := 0, constantValue := 0 }, { name := "BIG_ENDIAN", type := .boolean, accessFlags := 26, slot := 1, constantValue := 0 }, { name := "LOG2_ARRAY_BOOLEAN_INDEX_SCALE", type := .int, accessFlags := 25, slot := 2, constantValue := 0 }, { name := "LOG2_ARRAY_BYTE_INDEX_SCALE", type := .int, accessFlags := 25, slot := 3, constantValue := 0 }, { name := "LOG2_ARRAY_CHAR_INDEX_SCALE", type := .int, accessFlags := 25, slot := 4, constantValue := 0 }, { name := "LOG2_ARRAY_SHORT_INDEX_SCALE", type := .int, accessFlags := 25, slot := 5, constantValue := 0 }, { name := "LOG2_ARRAY_INT_INDEX_SCALE", type := .int, accessFlags := 25, slot := 6, constantValue := 0 }, { name := "LOG2_ARRAY_LONG_INDEX_SCALE", type := .int, accessFlags := 25, slot := 7, constantValue := 0 }, { name := "LOG2_ARRAY_FLOAT_INDEX_SCALE", type := .int, accessFlags := 25, slot := 8, constantValue := 0 }, { name := "LOG2_ARRAY_DOUBLE_INDEX_SCALE", type := .int, accessFlags := 25, slot := 9, constantValue := 0 }, { name := "LOG2_BYTE_BIT_SIZE", type := .int, accessFlags := 26, slot := 10, constantValue := 0 }, { name := "T_BOOLEAN", type := .int, accessFlags := 25, slot := 11, constantValue := 0 }, { name := "T_CHAR", type := .int, accessFlags := 25, slot := 12, constantValue := 0 }, { name := "T_FLOAT", type := .int, accessFlags := 25, slot := 13, constantValue := 0 }, { name := "T_DOUBLE", type := .int, accessFlags := 25, slot := 14, constantValue := 0 }, { name := "T_BYTE", type := .int, accessFlags := 25, slot := 15, constantValue := 0 }, { name := "T_SHORT", type := .int, accessFlags := 25, slot := 16, constantValue := 0 }, { name := "T_INT", type := .int, accessFlags := 25, slot := 17, constantValue := 0 }, { name := "T_LONG", type := .int, accessFlags := 25, slot := 18, constantValue := 0 }, { name := "JLA", type := (.object "jdk/internal/access/JavaLangAccess"), accessFlags := 26, slot := 19, constantValue := 0 }, { name := "SOFT_MAX_ARRAY_LENGTH", type := .int, accessFlags := 25, slot := 20, constantValue := 0 }]
  methods := #[k13m0, k13m1]
  instanceTypes := #[]
  staticTypes := #[(.object "jdk/internal/misc/Unsafe"), .boolean, .int, .int, .int, .int, .int, .int, .int, .int, .int, .int, .int, .int, .int, .int, .int, .int, .int, (.object "jdk/internal/access/JavaLangAccess"), .int]
  resolved := Array.replicate 378 none
  statics := none }

def pool14 : Array CpInfo := pool [(2, .class_ 4), (1, u "java/lang/Object"), (0, u "<init>"), (0, u "()V"), (7, .class_ 16), (1, u "java/util/Arrays"), (57, .class_ 76), (1, u "java/util/Arrays$NaturalOrder"), (36, .class_ 115), (1, u "java/util/Arrays$LegacyMergeSort"), (1, u "Z"), (21, u "copyOfRange"), (10, .methodref 151 152), (0, .class_ 153), (0, .nameAndType 154 155), (0, u "java/lang/System"), (0, u "arraycopy"), (0, u "(Ljava/lang/Object;ILjava/lang/Object;II)V"), (148, .methodref 305 306), (0, .class_ 307), (0, .nameAndType 308 309), (0, u "java/lang/Math"), (0, u "min"), (0, u "(II)I"), (29, .methodref 14 340), (0, .nameAndType 341 342), (0, u "copyOfRangeByte"), (0, u "([BII)[B"), (0, .methodref 14 344), (0, .nameAndType 345 346), (0, u "checkLength"), (0, u "(II)V"), (28, .class_ 376), (0, u "java/util/Arrays$ArrayList"), (68, u "$assertionsDisabled"), (269, u "MIN_ARRAY_SORT_GRAN"), (0, u "I"), (2, u "INSERTIONSORT_THRESHOLD"), (255, .class_ 976), (0, u "java/util/Arrays$ArrayItr")] 52

def k14m0 : Method := { name := "<init>", desc := "()V", sig := { parameters := [], returnType := none }, accessFlags := 2, code := none }
def k14c1 : Code := { maxStack := 4, maxLocals := 2, code := jdk_65_method_131_code, exceptionTable := #[], attributes := #[] }
def k14m1 : Method := { name := "checkLength", desc := "(II)V", sig := { parameters := [.int, .int], returnType := none }, accessFlags := 10, code := some k14c1 }
def k14c2 : Code := { maxStack := 3, maxLocals := 3, code := jdk_65_method_132_code, exceptionTable := #[], attributes := #[] }
def k14m2 : Method := { name := "copyOfRange", desc := "([BII)[B", sig := { parameters := [(.array .byte), .int, .int], returnType := some (.array .byte) }, accessFlags := 9, code := some k14c2 }
def k14c3 : Code := { maxStack := 6, maxLocals := 5, code := jdk_65_method_133_code, exceptionTable := #[], attributes := #[] }
def k14m3 : Method := { name := "copyOfRangeByte", desc := "([BII)[B", sig := { parameters := [(.array .byte), .int, .int], returnType := some (.array .byte) }, accessFlags := 10, code := some k14c3 }
/-- java/util/Arrays -/
def k14 : Class := { plain "java/util/Arrays" (some 0) with
  accessFlags := 49
  interfaces := #[]
  cf := some (fileOf pool14 14 #[.nestMembers #[975, 375, 113, 74]] #[{ accessFlags := 2, nameIndex := 5, descriptorIndex := 6, attributes := #[] }, { accessFlags := 10, nameIndex := 345, descriptorIndex := 346, attributes := #[] }, { accessFlags := 9, nameIndex := 139, descriptorIndex := 342, attributes := #[] }, { accessFlags := 10, nameIndex := 341, descriptorIndex := 342, attributes := #[] }] 49 2 #[] #[{ accessFlags := 26, nameIndex := 715, descriptorIndex := 716, attributes := #[] }, { accessFlags := 26, nameIndex := 719, descriptorIndex := 716, attributes := #[] }, { accessFlags := 4120, nameIndex := 445, descriptorIndex := 117, attributes := #[] }])
  fields := #[{ name := "MIN_ARRAY_SORT_GRAN", type := .int, accessFlags := 26, slot := 0, constantValue := 0 }, { name := "INSERTIONSORT_THRESHOLD", type := .int, accessFlags := 26, slot := 1, constantValue := 0 }, { name := "$assertionsDisabled", type := .boolean, accessFlags := 4120, slot := 2, constantValue := 0 }]
  methods := #[k14m0, k14m1, k14m2, k14m3]
  instanceTypes := #[]
  staticTypes := #[.int, .int, .boolean]
  resolved := Array.replicate 1029 none
  statics := none }

def pool15 : Array CpInfo := pool [(1, .class_ 2), (0, u "java/lang/Math"), (1, .class_ 6), (1, u "java/lang/Object"), (0, u "<init>"), (0, u "()V"), (89, .class_ 100), (1, u "java/lang/Math$RandomNumberGeneratorHolder"), (71, u "negativeZeroFloatBits"), (0, u "J"), (2, u "negativeZeroDoubleBits"), (24, u "min"), (43, u "$assertionsDisabled"), (0, u "Z"), (88, u "(II)I"), (2, u "twoToTheDoubleScaleDown"), (0, u "D"), (4, u "twoToTheDoubleScaleUp"), (9, u "E"), (3, u "PI"), (2, u "TAU"), (2, u "DEGREES_TO_RADIANS"), (0, u "RADIANS_TO_DEGREES")] 94

def k15m0 : Method := { name := "<init>", desc := "()V", sig := { parameters := [], returnType := none }, accessFlags := 2, code := none }
def k15c1 : Code := { maxStack := 2, maxLocals := 2, code := jdk_29_method_69_code, exceptionTable := #[], attributes := #[] }
def k15m1 : Method := { name := "min", desc := "(II)I", sig := { parameters := [.int, .int], returnType := some .int }, accessFlags := 9, code := some k15c1 }
/-- java/lang/Math -/
def k15 : Class := { plain "java/lang/Math" (some 0) with
  accessFlags := 49
  interfaces := #[]
  cf := some (fileOf pool15 1 #[.nestMembers #[98]] #[{ accessFlags := 2, nameIndex := 7, descriptorIndex := 8, attributes := #[] }, { accessFlags := 9, nameIndex := 201, descriptorIndex := 335, attributes := #[] }] 49 4 #[] #[{ accessFlags := 25, nameIndex := 354, descriptorIndex := 339, attributes := #[] }, { accessFlags := 25, nameIndex := 358, descriptorIndex := 339, attributes := #[] }, { accessFlags := 25, nameIndex := 361, descriptorIndex := 339, attributes := #[] }, { accessFlags := 26, nameIndex := 364, descriptorIndex := 339, attributes := #[] }, { accessFlags := 26, nameIndex := 365, descriptorIndex := 339, attributes := #[] }, { accessFlags := 26, nameIndex := 172, descriptorIndex := 173, attributes := #[] }, { accessFlags := 26, nameIndex := 176, descriptorIndex := 173, attributes := #[] }, { accessFlags := 8, nameIndex := 344, descriptorIndex := 339, attributes := #[] }, { accessFlags := 8, nameIndex := 338, descriptorIndex := 339, attributes := #[] }, { accessFlags := 4120, nameIndex := 245, descriptorIndex := 246, attributes := #[] }])
  fields := #[{ name := "E", type := .double, accessFlags := 25, slot := 0, constantValue := 0 }, { name := "PI", type := .double, accessFlags := 25, slot := 1, constantValue := 0 }, { name := "TAU", type := .double, accessFlags := 25, slot := 2, constantValue := 0 }, { name := "DEGREES_TO_RADIANS", type := .double, accessFlags := 26, slot := 3, constantValue := 0 }, { name := "RADIANS_TO_DEGREES", type := .double, accessFlags := 26, slot := 4, constantValue := 0 }, { name := "negativeZeroFloatBits", type := .long, accessFlags := 26, slot := 5, constantValue := 0 }, { name := "negativeZeroDoubleBits", type := .long, accessFlags := 26, slot := 6, constantValue := 0 }, { name := "twoToTheDoubleScaleUp", type := .double, accessFlags := 8, slot := 7, constantValue := 0 }, { name := "twoToTheDoubleScaleDown", type := .double, accessFlags := 8, slot := 8, constantValue := 0 }, { name := "$assertionsDisabled", type := .boolean, accessFlags := 4120, slot := 9, constantValue := 0 }]
  methods := #[k15m0, k15m1]
  instanceTypes := #[]
  staticTypes := #[.double, .double, .double, .double, .double, .long, .long, .double, .double, .boolean]
  resolved := Array.replicate 460 none
  statics := none }

def pool16 : Array CpInfo := pool [(2, .class_ 4), (1, u "java/lang/Object"), (0, u "<init>"), (0, u "()V"), (1, .class_ 10), (1, u "java/lang/System"), (0, u "allowSecurityManager"), (0, u "I"), (16, u "cons"), (0, u "Ljava/io/Console;"), (77, .class_ 110), (1, u "java/lang/System$CallersHolder"), (43, u "initialErrStream"), (0, u "Ljava/io/PrintStream;"), (19, u "security"), (0, u "Ljava/lang/SecurityManager;"), (31, .class_ 209), (0, u "java/lang/System$1"), (7, u "props"), (0, u "Ljava/util/Properties;"), (2, u "lineSeparator"), (0, u "Ljava/lang/String;"), (96, .class_ 321), (1, u "java/lang/System$LoggerFinder"), (5, .class_ 328), (0, u "java/lang/System$Logger"), (67, u "err"), (2, u "out"), (91, u "notSupportedJnuEncoding"), (15, u "in"), (17, u "initialIn"), (0, u "Ljava/io/InputStream;"), (35, u "bootLayer"), (0, u "Ljava/lang/ModuleLayer;"), (99, .class_ 664), (0, u "java/lang/System$2"), (9, u "NEVER"), (2, u "MAYBE"), (49, u "arraycopy"), (0, u "(Ljava/lang/Object;ILjava/lang/Object;II)V"), (72, .class_ 802), (0, u "java/lang/System$Logger$Level")] 31

def k16m0 : Method := { name := "<init>", desc := "()V", sig := { parameters := [], returnType := none }, accessFlags := 2, code := none }
def k16m1 : Method := { name := "arraycopy", desc := "(Ljava/lang/Object;ILjava/lang/Object;II)V", sig := { parameters := [(.object "java/lang/Object"), .int, (.object "java/lang/Object"), .int, .int], returnType := none }, accessFlags := 265, code := none }
/-- java/lang/System -/
def k16 : Class := { plain "java/lang/System" (some 0) with
  accessFlags := 49
  interfaces := #[]
  cf := some (fileOf pool16 8 #[.nestMembers #[319, 327, 801, 108, 663, 208]] #[{ accessFlags := 2, nameIndex := 5, descriptorIndex := 6, attributes := #[] }, { accessFlags := 265, nameIndex := 727, descriptorIndex := 728, attributes := #[] }] 49 2 #[] #[{ accessFlags := 25, nameIndex := 507, descriptorIndex := 526, attributes := #[] }, { accessFlags := 25, nameIndex := 399, descriptorIndex := 155, attributes := #[] }, { accessFlags := 25, nameIndex := 396, descriptorIndex := 155, attributes := #[] }, { accessFlags := 10, nameIndex := 525, descriptorIndex := 526, attributes := #[] }, { accessFlags := 26, nameIndex := 674, descriptorIndex := 12, attributes := #[] }, { accessFlags := 26, nameIndex := 677, descriptorIndex := 12, attributes := #[] }, { accessFlags := 10, nameIndex := 11, descriptorIndex := 12, attributes := #[] }, { accessFlags := 74, nameIndex := 175, descriptorIndex := 176, attributes := #[] }, { accessFlags := 10, nameIndex := 491, descriptorIndex := 222, attributes := #[] }, { accessFlags := 74, nameIndex := 29, descriptorIndex := 30, attributes := #[] }, { accessFlags := 74, nameIndex := 154, descriptorIndex := 155, attributes := #[] }, { accessFlags := 10, nameIndex := 217, descriptorIndex := 218, attributes := #[] }, { accessFlags := 10, nameIndex := 221, descriptorIndex := 222, attributes := #[] }, { accessFlags := 8, nameIndex := 562, descriptorIndex := 563, attributes := #[] }])
  fields := #[{ name := "in", type := (.object "java/io/InputStream"), accessFlags := 25, slot := 0, constantValue := 0 }, { name := "out", type := (.object "java/io/PrintStream"), accessFlags := 25, slot := 1, constantValue := 0 }, { name := "err", type := (.object "java/io/PrintStream"), accessFlags := 25, slot := 2, constantValue := 0 }, { name := "initialIn", type := (.object "java/io/InputStream"), accessFlags := 10, slot := 3, constantValue := 0 }, { name := "NEVER", type := .int, accessFlags := 26, slot := 4, constantValue := 0 }, { name := "MAYBE", type := .int, accessFlags := 26, slot := 5, constantValue := 0 }, { name := "allowSecurityManager", type := .int, accessFlags := 10, slot := 6, constantValue := 0 }, { name := "security", type := (.object "java/lang/SecurityManager"), accessFlags := 74, slot := 7, constantValue := 0 }, { name := "notSupportedJnuEncoding", type := (.object "java/lang/String"), accessFlags := 10, slot := 8, constantValue := 0 }, { name := "cons", type := (.object "java/io/Console"), accessFlags := 74, slot := 9, constantValue := 0 }, { name := "initialErrStream", type := (.object "java/io/PrintStream"), accessFlags := 74, slot := 10, constantValue := 0 }, { name := "props", type := (.object "java/util/Properties"), accessFlags := 10, slot := 11, constantValue := 0 }, { name := "lineSeparator", type := (.object "java/lang/String"), accessFlags := 10, slot := 12, constantValue := 0 }, { name := "bootLayer", type := (.object "java/lang/ModuleLayer"), accessFlags := 8, slot := 13, constantValue := 0 }]
  methods := #[k16m0, k16m1]
  instanceTypes := #[]
  staticTypes := #[(.object "java/io/InputStream"), (.object "java/io/PrintStream"), (.object "java/io/PrintStream"), (.object "java/io/InputStream"), .int, .int, .int, (.object "java/lang/SecurityManager"), (.object "java/lang/String"), (.object "java/io/Console"), (.object "java/io/PrintStream"), (.object "java/util/Properties"), (.object "java/lang/String"), (.object "java/lang/ModuleLayer")]
  resolved := Array.replicate 834 none
  statics := none }

def pool17 : Array CpInfo := pool [(2, .class_ 4), (1, u "java/lang/Object"), (0, u "<init>"), (0, u "()V"), (17, .class_ 26), (1, u "jdk/internal/util/Preconditions"), (28, .class_ 56), (0, u "jdk/internal/util/Preconditions$4"), (57, .class_ 115), (0, u "jdk/internal/util/Preconditions$1"), (7, u "SIOOBE_FORMATTER"), (0, u "Ljava/util/function/BiFunction;"), (0, .class_ 126), (0, u "jdk/internal/util/Preconditions$2"), (3, u "AIOOBE_FORMATTER"), (0, .class_ 132), (0, u "jdk/internal/util/Preconditions$3"), (3, u "IOOBE_FORMATTER")] 57

def k17m0 : Method := { name := "<init>", desc := "()V", sig := { parameters := [], returnType := none }, accessFlags := 1, code := none }
/-- jdk/internal/util/Preconditions -/
def k17 : Class := { plain "jdk/internal/util/Preconditions" (some 0) with
  accessFlags := 33
  interfaces := #[]
  cf := some (fileOf pool17 24 #[.nestMembers #[55, 131, 125, 114]] #[{ accessFlags := 1, nameIndex := 5, descriptorIndex := 6, attributes := #[] }] 33 2 #[] #[{ accessFlags := 25, nameIndex := 123, descriptorIndex := 124, attributes := #[] }, { accessFlags := 25, nameIndex := 130, descriptorIndex := 124, attributes := #[] }, { accessFlags := 25, nameIndex := 136, descriptorIndex := 124, attributes := #[] }])
  fields := #[{ name := "SIOOBE_FORMATTER", type := (.object "java/util/function/BiFunction"), accessFlags := 25, slot := 0, constantValue := 0 }, { name := "AIOOBE_FORMATTER", type := (.object "java/util/function/BiFunction"), accessFlags := 25, slot := 1, constantValue := 0 }, { name := "IOOBE_FORMATTER", type := (.object "java/util/function/BiFunction"), accessFlags := 25, slot := 2, constantValue := 0 }]
  methods := #[k17m0]
  instanceTypes := #[]
  staticTypes := #[(.object "java/util/function/BiFunction"), (.object "java/util/function/BiFunction"), (.object "java/util/function/BiFunction")]
  resolved := Array.replicate 194 none
  statics := some 2 }

def pool18 : Array CpInfo := pool [(1, u "java/lang/Cloneable"), (0, .class_ 1), (0, u "java/lang/Object"), (0, .class_ 3)] 3

/-- java/lang/Cloneable -/
def k18 : Class := { plain "java/lang/Cloneable" (some 0) with
  accessFlags := 1537
  interfaces := #[]
  cf := some (fileOf pool18 2 #[] #[] 1537 4 #[] #[])
  fields := #[]
  methods := #[]
  instanceTypes := #[]
  staticTypes := #[]
  resolved := Array.replicate 8 none
  statics := none }

/-- the primitive byte -/
def k19 : Class := { plain "byte" none with kind := .primitive 'B', accessFlags := 0x411 }
/-- [B -/
def k20 : Class := { plain "[B" (some 0) with kind := .array 19 .byte, interfaces := #[18, 2], accessFlags := 1041 }

/-- the primitive char -/
def k21 : Class := { plain "char" none with kind := .primitive 'C', accessFlags := 0x411 }
/-- [C -/
def k22 : Class := { plain "[C" (some 0) with kind := .array 21 .char, interfaces := #[18, 2], accessFlags := 1041 }

/-- the primitive int -/
def k23 : Class := { plain "int" none with kind := .primitive 'I', accessFlags := 0x411 }
/-- [I -/
def k24 : Class := { plain "[I" (some 0) with kind := .array 23 .int, interfaces := #[18, 2], accessFlags := 1041 }

def heap : Heap := #[{ cls := 7, slots := #[.long 0, .int 1, .null, .int 0, .null, .int 0, .int 0], vm := .statics 7 },
  { cls := 12, slots := #[.null, .null, .ref 4, .ref 3, .null], vm := .statics 12 },
  { cls := 17, slots := #[.null, .null, .null], vm := .statics 17 },
  { cls := 24, slots := #[.int 1207963663, .int 1207963663, .int 1207963663, .int 1207963663, .int 1207963663, .int 1207963663, .int 1207963663, .int 1207963663, .int 1207963663, .int 1476411407, .int 1342193679, .int 1476411407, .int 1610629135, .int 1342193679, .int 1207963663, .int 1207963663, .int 1207963663, .int 1207963663, .int 1207963663, .int 1207963663, .int 1207963663, .int 1207963663, .int 1207963663, .int 1207963663, .int 1207963663, .int 1207963663, .int 1207963663, .int 1207963663, .int 1342193679, .int 1342193679, .int 1342193679, .int 1476411407, .int 1610629132, .int 1744830488, .int 1744830488, .int 671088664, .int 671113242, .int 671088664, .int 1744830488, .int 1744830488, .int (-402653163), .int (-402653162), .int 1744830488, .int 536870937, .int 939524120, .int 536870932, .int 939524120, .int 939524120, .int 402667017, .int 402667017, .int 402667017, .int 402667017, .int 402667017, .int 402667017, .int 402667017, .int 402667017, .int 402667017, .int 402667017, .int 939524120, .int 1744830488, .int (-402653159), .int 1744830489, .int (-402653159), .int 1744830488, .int 1744830488, .int 8552417, .int 8552417, .int 8552417, .int 8552417, .int 8552417, .int 8552417, .int 8552417, .int 8552417, .int 8552417, .int 8552417, .int 8552417, .int 8552417, .int 8552417, .int 8552417, .int 8552417, .int 8552417, .int 8552417, .int 8552417, .int 8552417, .int 8552417, .int 8552417, .int 8552417, .int 8552417, .int 8552417, .int 8552417, .int 8552417, .int (-402653163), .int 1744830488, .int (-402653162), .int 1744830491, .int 1744850967, .int 1744830491, .int 8486882, .int 8486882, .int 8486882, .int 8486882, .int 8486882, .int 8486882, .int 8486882, .int 8486882, .int 8486882, .int 8486882, .int 8486882, .int 8486882, .int 8486882, .int 8486882, .int 8486882, .int 8486882, .int 8486882, .int 8486882, .int 8486882, .int 8486882, .int 8486882, .int 8486882, .int 8486882, .int 8486882, .int 8486882, .int 8486882, .int (-402653163), .int 1744830489, .int (-402653162), .int 1744830489, .int 1207963663, .int 1207963663, .int 1207963663, .int 1207963663, .int 1207963663, .int 1207963663, .int 1342181391, .int 1207963663, .int 1207963663, .int 1207963663, .int 1207963663, .int 1207963663, .int 1207963663, .int 1207963663, .int 1207963663, .int 1207963663, .int 1207963663, .int 1207963663, .int 1207963663, .int 1207963663, .int 1207963663, .int 1207963663, .int 1207963663, .int 1207963663, .int 1207963663, .int 1207963663, .int 1207963663, .int 1207963663, .int 1207963663, .int 1207963663, .int 1207963663, .int 1207963663, .int 1207963663, .int 939524108, .int 1744830488, .int 671113242, .int 671113242, .int 671113242, .int 671113242, .int 1744830492, .int 1744830488, .int 1744830491, .int 1744830492, .int 28677, .int (-402653155), .int 1744830489, .int 1207963664, .int 1744830492, .int 1744830491, .int 671088668, .int 671088665, .int 402654731, .int 402654731, .int 1744830491, .int 134049794, .int 1744830488, .int 1744830488, .int 1744830491, .int 402654475, .int 28677, .int (-402653154), .int 1744832523, .int 1744832523, .int 1744832523, .int 1744830488, .int 8548353, .int 8548353, .int 8548353, .int 8548353, .int 8548353, .int 8548353, .int 8548353, .int 8548353, .int 8548353, .int 8548353, .int 8548353, .int 8548353, .int 8548353, .int 8548353, .int 8548353, .int 8548353, .int 8548353, .int 8548353, .int 8548353, .int 8548353, .int 8548353, .int 8548353, .int 8548353, .int 1744830489, .int 8548353, .int 8548353, .int 8548353, .int 8548353, .int 8548353, .int 8548353, .int 8548353, .int 134049794, .int 8482818, .int 8482818, .int 8482818, .int 8482818, .int 8482818, .int 8482818, .int 8482818, .int 8482818, .int 8482818, .int 8482818, .int 8482818, .int 8482818, .int 8482818, .int 8482818, .int 8482818, .int 8482818, .int 8482818, .int 8482818, .int 8482818, .int 8482818, .int 8482818, .int 8482818, .int 8482818, .int 1744830489, .int 8482818, .int 8482818, .int 8482818, .int 8482818, .int 8482818, .int 8482818, .int 8482818, .int 102592514], vm := .none },
  { cls := 12, slots := #[], vm := .none }]
def classes : Array Class := #[k0, k1, k2, k3, k4, k5, k6, k7, k8, k9, k10, k11, k12, k13, k14, k15, k16, k17, k18, k19, k20, k21, k22, k23, k24]
def interned : List (Array UInt16 × Addr) := []
def slotsUsed : Nat := 271
def theMethod : MethodId := ⟨1, 2⟩
def args0 : Array Value := #[.int 2, .int 65, .int 66, .int 67]
def aboutOver (below : List Frame) : State where
  vm := { classes := classes, interned := interned.toArray }
  heap := heap
  slotsUsed := slotsUsed
  threads := #[{ frames := .invoking theMethod args0 :: below }]
def below0 : List Frame := [.native { method := ⟨0, 0⟩, args := #[] }]
def about1 : State := aboutOver below0
def p0 : Program := .bare "" "" ""
def e0 : Env := launch0.env 0 0 0
theorem w_frames : about1.frames = Frame.invoking theMethod args0 :: below0 := rfl
set_option maxRecDepth 65536 in
theorem w_args : argsFit about1.vm theMethod args0 = true := by decide +kernel
set_option maxRecDepth 65536 in
theorem w_heap : heapFits about1 = true := by decide +kernel
set_option maxRecDepth 65536 in
theorem w_runnable : about1.curStatus? = some .runnable := by decide +kernel
set_option maxRecDepth 65536 in
theorem w_alone : about1.alone = true := by decide +kernel
set_option maxRecDepth 65536 in
theorem w_named : about1.methodNamed? x = some theMethod := by decide +kernel
set_option maxRecDepth 65536 in
theorem w_hears : about1.hears theMethod below0 = true := by decide +kernel
set_option maxRecDepth 65536 in
theorem w_ripe : about1.ripe theMethod args0 below0 = true := by decide +kernel
theorem w_running : about1.status = .running := rfl
set_option maxRecDepth 65536 in
theorem w_room : about1.hasRoom e0.platform room_1 = true :=
  launch0.hasRoom_least _ room_1 (by decide +kernel) (by decide +kernel) (by decide +kernel) (by decide +kernel) (by decide +kernel) (by decide +kernel)
theorem allAtoms_all (ts : List Jvm.Cond) (a : Array Jvm.Value) (st : Jvm.State) : (allAtoms ts).before a st = ts.all (fun c => c.before a st) := by
  induction ts with
  | nil => rfl
  | cons c t ih =>
    show (Jvm.Cond.and c (allAtoms t)).before a st = _
    rw [Jvm.Cond.before_and, ih, List.all_cons]
def words1 : List Jvm.Cond := Jvm.Cond.code x code maxLocals ret :: tables_1
/-- a 'code' word, met by the world's own term for the bytes: nothing is compared byte by byte -/
theorem code_word {y : MethodName} {bytes : ByteArray} {mx : Nat} {rt : Option FieldType} {a : Array Value} {s : State} {m : MethodId} {meth : Method} {c : Code} (h1 : s.methodNamed? y = some m) (h2 : s.vm.method? m = some meth) (h3 : meth.code = some c) (h4 : c.code = bytes)
    (h5 : (c.maxLocals == mx && c.exceptionTable.isEmpty && decide (c.maxStack ≤ mostOperands) && decide (meth.sig.returnType = rt) && !meth.locks && decide (parseMethodDescriptor y.desc = some meth.sig)) = true) : (Jvm.Cond.code y bytes mx rt).before a s = true := by
  simp only [Bool.and_eq_true, beq_iff_eq, Bool.not_eq_true', decide_eq_true_eq] at h5
  obtain ⟨⟨⟨⟨⟨g1, g2⟩, g3⟩, g4⟩, g5⟩, g6⟩ := h5
  simp [Cond.before, Cond.holds, Cond.value, h1, h2, h3, h4, g1, g2, g3, g4, g5, g6]
def isCode : Jvm.Cond → Bool
  | .code _ _ _ _ => true
  | _ => false
theorem all_split {L : List Jvm.Cond} {P : Jvm.Cond → Bool} (h1 : L.all (fun c => isCode c || P c) = true) (h2 : ∀ c ∈ L.filter isCode, P c = true) : L.all P = true := by
  refine List.all_eq_true.mpr fun c hc => ?_
  have h := List.all_eq_true.mp h1 c hc
  rcases Bool.eq_false_or_eq_true (isCode c) with hi | hi
  · exact h2 c (List.mem_filter.mpr ⟨hc, hi⟩)
  · simpa [hi] using h
set_option maxRecDepth 65536 in
theorem w_c0 : (Jvm.Cond.code x code maxLocals ret).before args0 about1 = true := code_word (m := ⟨1, 2⟩) (meth := k1m2) (c := k1c2) (by decide +kernel) rfl rfl rfl (by decide +kernel)
set_option maxRecDepth 65536 in
theorem w_c1 : (Jvm.Cond.code ({ cls := "java/lang/String", name := "<init>", desc := "([C)V" } : Jvm.MethodName) jdk_42_method_3_code (2 : Nat) (Option.none : Option Jvm.ClassFile.FieldType)).before args0 about1 = true := code_word (m := ⟨7, 1⟩) (meth := k7m1) (c := k7c1) (by decide +kernel) rfl rfl rfl (by decide +kernel)
set_option maxRecDepth 65536 in
theorem w_c2 : (Jvm.Cond.code ({ cls := "java/lang/String", name := "<init>", desc := "([CIILjava/lang/Void;)V" } : Jvm.MethodName) jdk_42_method_149_code (6 : Nat) (Option.none : Option Jvm.ClassFile.FieldType)).before args0 about1 = true := code_word (m := ⟨7, 11⟩) (meth := k7m11) (c := k7c11) (by decide +kernel) rfl rfl rfl (by decide +kernel)
set_option maxRecDepth 65536 in
theorem w_c3 : (Jvm.Cond.code ({ cls := "java/lang/Object", name := "<init>", desc := "()V" } : Jvm.MethodName) object_method_1_code (1 : Nat) (Option.none : Option Jvm.ClassFile.FieldType)).before args0 about1 = true := code_word (m := ⟨0, 0⟩) (meth := k0m0) (c := k0c0) (by decide +kernel) rfl rfl rfl (by decide +kernel)
set_option maxRecDepth 65536 in
theorem w_c4 : (Jvm.Cond.code ({ cls := "com/example/usher/usher/Profiles", name := "isName", desc := "(Ljava/lang/String;)Z" } : Jvm.MethodName) prog_19_method_4_code (1 : Nat) (Option.some Jvm.ClassFile.FieldType.boolean)).before args0 about1 = true := code_word (m := ⟨8, 1⟩) (meth := k8m1) (c := k8c1) (by decide +kernel) rfl rfl rfl (by decide +kernel)
set_option maxRecDepth 65536 in
theorem w_c5 : (Jvm.Cond.code ({ cls := "java/lang/String", name := "isEmpty", desc := "()Z" } : Jvm.MethodName) jdk_42_method_55_code (1 : Nat) (Option.some Jvm.ClassFile.FieldType.boolean)).before args0 about1 = true := code_word (m := ⟨7, 3⟩) (meth := k7m3) (c := k7c3) (by decide +kernel) rfl rfl rfl (by decide +kernel)
set_option maxRecDepth 65536 in
theorem w_c6 : (Jvm.Cond.code ({ cls := "java/lang/StringUTF16", name := "compress", desc := "([CII)[B" } : Jvm.MethodName) jdk_52_method_16_code (6 : Nat) (Option.some (Jvm.ClassFile.FieldType.array Jvm.ClassFile.FieldType.byte))).before args0 about1 = true := code_word (m := ⟨9, 2⟩) (meth := k9m2) (c := k9c2) (by decide +kernel) rfl rfl rfl (by decide +kernel)
set_option maxRecDepth 65536 in
theorem w_c7 : (Jvm.Cond.code ({ cls := "java/lang/StringUTF16", name := "compress", desc := "([CI[BII)I" } : Jvm.MethodName) jdk_52_method_21_code (7 : Nat) (Option.some Jvm.ClassFile.FieldType.int)).before args0 about1 = true := code_word (m := ⟨9, 3⟩) (meth := k9m3) (c := k9c3) (by decide +kernel) rfl rfl rfl (by decide +kernel)
set_option maxRecDepth 65536 in
theorem w_c8 : (Jvm.Cond.code ({ cls := "java/lang/StringUTF16", name := "coderFromArrayLen", desc := "([BI)B" } : Jvm.MethodName) jdk_52_method_15_code (2 : Nat) (Option.some Jvm.ClassFile.FieldType.byte)).before args0 about1 = true := code_word (m := ⟨9, 1⟩) (meth := k9m1) (c := k9c1) (by decide +kernel) rfl rfl rfl (by decide +kernel)
set_option maxRecDepth 65536 in
theorem w_c9 : (Jvm.Cond.code ({ cls := "com/example/usher/usher/ProfilesIsNamePinLaw", name := "ws", desc := "(C)Z" } : Jvm.MethodName) method_2_code (1 : Nat) (Option.some Jvm.ClassFile.FieldType.boolean)).before args0 about1 = true := code_word (m := ⟨1, 1⟩) (meth := k1m1) (c := k1c1) (by decide +kernel) rfl rfl rfl (by decide +kernel)
set_option maxRecDepth 65536 in
theorem w_c10 : (Jvm.Cond.code ({ cls := "java/lang/String", name := "strip", desc := "()Ljava/lang/String;" } : Jvm.MethodName) jdk_42_method_114_code (2 : Nat) (Option.some (Jvm.ClassFile.FieldType.object "java/lang/String"))).before args0 about1 = true := code_word (m := ⟨7, 9⟩) (meth := k7m9) (c := k7c9) (by decide +kernel) rfl rfl rfl (by decide +kernel)
set_option maxRecDepth 65536 in
theorem w_c11 : (Jvm.Cond.code ({ cls := "java/lang/String", name := "isLatin1", desc := "()Z" } : Jvm.MethodName) jdk_42_method_154_code (1 : Nat) (Option.some Jvm.ClassFile.FieldType.boolean)).before args0 about1 = true := code_word (m := ⟨7, 14⟩) (meth := k7m14) (c := k7c14) (by decide +kernel) rfl rfl rfl (by decide +kernel)
set_option maxRecDepth 65536 in
theorem w_c12 : (Jvm.Cond.code ({ cls := "java/lang/StringLatin1", name := "strip", desc := "([B)Ljava/lang/String;" } : Jvm.MethodName) jdk_43_method_39_code (4 : Nat) (Option.some (Jvm.ClassFile.FieldType.object "java/lang/String"))).before args0 about1 = true := code_word (m := ⟨10, 6⟩) (meth := k10m6) (c := k10c6) (by decide +kernel) rfl rfl rfl (by decide +kernel)
set_option maxRecDepth 65536 in
theorem w_c13 : (Jvm.Cond.code ({ cls := "java/lang/StringLatin1", name := "indexOfNonWhitespace", desc := "([B)I" } : Jvm.MethodName) jdk_43_method_37_code (4 : Nat) (Option.some Jvm.ClassFile.FieldType.int)).before args0 about1 = true := code_word (m := ⟨10, 4⟩) (meth := k10m4) (c := k10c4) (by decide +kernel) rfl rfl rfl (by decide +kernel)
set_option maxRecDepth 65536 in
theorem w_c14 : (Jvm.Cond.code ({ cls := "java/lang/StringLatin1", name := "getChar", desc := "([BI)C" } : Jvm.MethodName) jdk_43_method_44_code (2 : Nat) (Option.some Jvm.ClassFile.FieldType.char)).before args0 about1 = true := code_word (m := ⟨10, 7⟩) (meth := k10m7) (c := k10c7) (by decide +kernel) rfl rfl rfl (by decide +kernel)
set_option maxRecDepth 65536 in
theorem w_c15 : (Jvm.Cond.code ({ cls := "java/lang/CharacterDataLatin1", name := "isWhitespace", desc := "(I)Z" } : Jvm.MethodName) jdk_116_method_26_code (3 : Nat) (Option.some Jvm.ClassFile.FieldType.boolean)).before args0 about1 = true := code_word (m := ⟨12, 1⟩) (meth := k12m1) (c := k12c1) (by decide +kernel) rfl rfl rfl (by decide +kernel)
set_option maxRecDepth 65536 in
theorem w_c16 : (Jvm.Cond.code ({ cls := "java/lang/CharacterDataLatin1", name := "getProperties", desc := "(I)I" } : Jvm.MethodName) jdk_116_method_1_code (4 : Nat) (Option.some Jvm.ClassFile.FieldType.int)).before args0 about1 = true := code_word (m := ⟨12, 0⟩) (meth := k12m0) (c := k12c0) (by decide +kernel) rfl rfl rfl (by decide +kernel)
set_option maxRecDepth 65536 in
theorem w_c17 : (Jvm.Cond.code ({ cls := "java/lang/StringLatin1", name := "lastIndexOfNonWhitespace", desc := "([B)I" } : Jvm.MethodName) jdk_43_method_38_code (4 : Nat) (Option.some Jvm.ClassFile.FieldType.int)).before args0 about1 = true := code_word (m := ⟨10, 5⟩) (meth := k10m5) (c := k10c5) (by decide +kernel) rfl rfl rfl (by decide +kernel)
set_option maxRecDepth 65536 in
theorem w_c18 : (Jvm.Cond.code ({ cls := "java/lang/String", name := "equals", desc := "(Ljava/lang/Object;)Z" } : Jvm.MethodName) jdk_42_method_66_code (3 : Nat) (Option.some Jvm.ClassFile.FieldType.boolean)).before args0 about1 = true := code_word (m := ⟨7, 4⟩) (meth := k7m4) (c := k7c4) (by decide +kernel) rfl rfl rfl (by decide +kernel)
set_option maxRecDepth 65536 in
theorem w_c19 : (Jvm.Cond.code ({ cls := "java/lang/String", name := "contains", desc := "(Ljava/lang/CharSequence;)Z" } : Jvm.MethodName) jdk_42_method_97_code (2 : Nat) (Option.some Jvm.ClassFile.FieldType.boolean)).before args0 about1 = true := code_word (m := ⟨7, 8⟩) (meth := k7m8) (c := k7c8) (by decide +kernel) rfl rfl rfl (by decide +kernel)
set_option maxRecDepth 65536 in
theorem w_c20 : (Jvm.Cond.code ({ cls := "java/lang/String", name := "toString", desc := "()Ljava/lang/String;" } : Jvm.MethodName) jdk_42_method_126_code (1 : Nat) (Option.some (Jvm.ClassFile.FieldType.object "java/lang/String"))).before args0 about1 = true := code_word (m := ⟨7, 10⟩) (meth := k7m10) (c := k7c10) (by decide +kernel) rfl rfl rfl (by decide +kernel)
set_option maxRecDepth 65536 in
theorem w_c21 : (Jvm.Cond.code ({ cls := "java/lang/String", name := "indexOf", desc := "(Ljava/lang/String;)I" } : Jvm.MethodName) jdk_42_method_84_code (3 : Nat) (Option.some Jvm.ClassFile.FieldType.int)).before args0 about1 = true := code_word (m := ⟨7, 7⟩) (meth := k7m7) (c := k7c7) (by decide +kernel) rfl rfl rfl (by decide +kernel)
set_option maxRecDepth 65536 in
theorem w_c22 : (Jvm.Cond.code ({ cls := "java/lang/String", name := "coder", desc := "()B" } : Jvm.MethodName) jdk_42_method_152_code (1 : Nat) (Option.some Jvm.ClassFile.FieldType.byte)).before args0 about1 = true := code_word (m := ⟨7, 13⟩) (meth := k7m13) (c := k7c13) (by decide +kernel) rfl rfl rfl (by decide +kernel)
set_option maxRecDepth 65536 in
theorem w_c23 : (Jvm.Cond.code ({ cls := "java/lang/StringLatin1", name := "indexOf", desc := "([B[B)I" } : Jvm.MethodName) jdk_43_method_24_code (2 : Nat) (Option.some Jvm.ClassFile.FieldType.int)).before args0 about1 = true := code_word (m := ⟨10, 2⟩) (meth := k10m2) (c := k10c2) (by decide +kernel) rfl rfl rfl (by decide +kernel)
set_option maxRecDepth 65536 in
theorem w_c24 : (Jvm.Cond.code ({ cls := "java/lang/StringLatin1", name := "indexOf", desc := "([BI[BII)I" } : Jvm.MethodName) jdk_43_method_25_code (11 : Nat) (Option.some Jvm.ClassFile.FieldType.int)).before args0 about1 = true := code_word (m := ⟨10, 3⟩) (meth := k10m3) (c := k10c3) (by decide +kernel) rfl rfl rfl (by decide +kernel)
set_option maxRecDepth 65536 in
theorem w_c25 : (Jvm.Cond.code ({ cls := "java/lang/String", name := "startsWith", desc := "(Ljava/lang/String;)Z" } : Jvm.MethodName) jdk_42_method_76_code (2 : Nat) (Option.some Jvm.ClassFile.FieldType.boolean)).before args0 about1 = true := code_word (m := ⟨7, 6⟩) (meth := k7m6) (c := k7c6) (by decide +kernel) rfl rfl rfl (by decide +kernel)
set_option maxRecDepth 65536 in
theorem w_c26 : (Jvm.Cond.code ({ cls := "java/lang/String", name := "startsWith", desc := "(Ljava/lang/String;I)Z" } : Jvm.MethodName) jdk_42_method_75_code (8 : Nat) (Option.some Jvm.ClassFile.FieldType.boolean)).before args0 about1 = true := code_word (m := ⟨7, 5⟩) (meth := k7m5) (c := k7c5) (by decide +kernel) rfl rfl rfl (by decide +kernel)
set_option maxRecDepth 65536 in
theorem w_c27 : (Jvm.Cond.code ({ cls := "java/lang/String", name := "length", desc := "()I" } : Jvm.MethodName) jdk_42_method_54_code (1 : Nat) (Option.some Jvm.ClassFile.FieldType.int)).before args0 about1 = true := code_word (m := ⟨7, 2⟩) (meth := k7m2) (c := k7c2) (by decide +kernel) rfl rfl rfl (by decide +kernel)
set_option maxRecDepth 65536 in
theorem w_c28 : (Jvm.Cond.code ({ cls := "jdk/internal/util/ArraysSupport", name := "mismatch", desc := "([BI[BII)I" } : Jvm.MethodName) jdk_48_method_14_code (8 : Nat) (Option.some Jvm.ClassFile.FieldType.int)).before args0 about1 = true := code_word (m := ⟨13, 1⟩) (meth := k13m1) (c := k13c1) (by decide +kernel) rfl rfl rfl (by decide +kernel)
set_option maxRecDepth 65536 in
theorem w_c29 : (Jvm.Cond.code ({ cls := "java/lang/StringLatin1", name := "newString", desc := "([BII)Ljava/lang/String;" } : Jvm.MethodName) jdk_43_method_47_code (3 : Nat) (Option.some (Jvm.ClassFile.FieldType.object "java/lang/String"))).before args0 about1 = true := code_word (m := ⟨10, 8⟩) (meth := k10m8) (c := k10c8) (by decide +kernel) rfl rfl rfl (by decide +kernel)
set_option maxRecDepth 65536 in
theorem w_c30 : (Jvm.Cond.code ({ cls := "java/util/Arrays", name := "copyOfRange", desc := "([BII)[B" } : Jvm.MethodName) jdk_65_method_132_code (3 : Nat) (Option.some (Jvm.ClassFile.FieldType.array Jvm.ClassFile.FieldType.byte))).before args0 about1 = true := code_word (m := ⟨14, 2⟩) (meth := k14m2) (c := k14c2) (by decide +kernel) rfl rfl rfl (by decide +kernel)
set_option maxRecDepth 65536 in
theorem w_c31 : (Jvm.Cond.code ({ cls := "java/util/Arrays", name := "copyOfRangeByte", desc := "([BII)[B" } : Jvm.MethodName) jdk_65_method_133_code (5 : Nat) (Option.some (Jvm.ClassFile.FieldType.array Jvm.ClassFile.FieldType.byte))).before args0 about1 = true := code_word (m := ⟨14, 3⟩) (meth := k14m3) (c := k14c3) (by decide +kernel) rfl rfl rfl (by decide +kernel)
set_option maxRecDepth 65536 in
theorem w_c32 : (Jvm.Cond.code ({ cls := "java/util/Arrays", name := "checkLength", desc := "(II)V" } : Jvm.MethodName) jdk_65_method_131_code (2 : Nat) (Option.none : Option Jvm.ClassFile.FieldType)).before args0 about1 = true := code_word (m := ⟨14, 1⟩) (meth := k14m1) (c := k14c1) (by decide +kernel) rfl rfl rfl (by decide +kernel)
set_option maxRecDepth 65536 in
theorem w_c33 : (Jvm.Cond.code ({ cls := "java/lang/Math", name := "min", desc := "(II)I" } : Jvm.MethodName) jdk_29_method_69_code (2 : Nat) (Option.some Jvm.ClassFile.FieldType.int)).before args0 about1 = true := code_word (m := ⟨15, 1⟩) (meth := k15m1) (c := k15c1) (by decide +kernel) rfl rfl rfl (by decide +kernel)
set_option maxRecDepth 65536 in
theorem w_c34 : (Jvm.Cond.code ({ cls := "java/lang/String", name := "<init>", desc := "([BB)V" } : Jvm.MethodName) jdk_42_method_151_code (3 : Nat) (Option.none : Option Jvm.ClassFile.FieldType)).before args0 about1 = true := code_word (m := ⟨7, 12⟩) (meth := k7m12) (c := k7c12) (by decide +kernel) rfl rfl rfl (by decide +kernel)
set_option maxRecDepth 65536 in
theorem w_c35 : (Jvm.Cond.code ({ cls := "java/lang/StringLatin1", name := "equals", desc := "([B[B)Z" } : Jvm.MethodName) jdk_43_method_13_code (3 : Nat) (Option.some Jvm.ClassFile.FieldType.boolean)).before args0 about1 = true := code_word (m := ⟨10, 1⟩) (meth := k10m1) (c := k10c1) (by decide +kernel) rfl rfl rfl (by decide +kernel)
def codes1 : List Jvm.Cond := [Jvm.Cond.code x code maxLocals ret, Jvm.Cond.code ({ cls := "java/lang/String", name := "<init>", desc := "([C)V" } : Jvm.MethodName) jdk_42_method_3_code (2 : Nat) (Option.none : Option Jvm.ClassFile.FieldType), Jvm.Cond.code ({ cls := "java/lang/String", name := "<init>", desc := "([CIILjava/lang/Void;)V" } : Jvm.MethodName) jdk_42_method_149_code (6 : Nat) (Option.none : Option Jvm.ClassFile.FieldType), Jvm.Cond.code ({ cls := "java/lang/Object", name := "<init>", desc := "()V" } : Jvm.MethodName) object_method_1_code (1 : Nat) (Option.none : Option Jvm.ClassFile.FieldType), Jvm.Cond.code ({ cls := "com/example/usher/usher/Profiles", name := "isName", desc := "(Ljava/lang/String;)Z" } : Jvm.MethodName) prog_19_method_4_code (1 : Nat) (Option.some Jvm.ClassFile.FieldType.boolean), Jvm.Cond.code ({ cls := "java/lang/String", name := "isEmpty", desc := "()Z" } : Jvm.MethodName) jdk_42_method_55_code (1 : Nat) (Option.some Jvm.ClassFile.FieldType.boolean), Jvm.Cond.code ({ cls := "java/lang/StringUTF16", name := "compress", desc := "([CII)[B" } : Jvm.MethodName) jdk_52_method_16_code (6 : Nat) (Option.some (Jvm.ClassFile.FieldType.array Jvm.ClassFile.FieldType.byte)), Jvm.Cond.code ({ cls := "java/lang/StringUTF16", name := "compress", desc := "([CI[BII)I" } : Jvm.MethodName) jdk_52_method_21_code (7 : Nat) (Option.some Jvm.ClassFile.FieldType.int), Jvm.Cond.code ({ cls := "java/lang/StringUTF16", name := "coderFromArrayLen", desc := "([BI)B" } : Jvm.MethodName) jdk_52_method_15_code (2 : Nat) (Option.some Jvm.ClassFile.FieldType.byte), Jvm.Cond.code ({ cls := "com/example/usher/usher/ProfilesIsNamePinLaw", name := "ws", desc := "(C)Z" } : Jvm.MethodName) method_2_code (1 : Nat) (Option.some Jvm.ClassFile.FieldType.boolean), Jvm.Cond.code ({ cls := "java/lang/String", name := "strip", desc := "()Ljava/lang/String;" } : Jvm.MethodName) jdk_42_method_114_code (2 : Nat) (Option.some (Jvm.ClassFile.FieldType.object "java/lang/String")), Jvm.Cond.code ({ cls := "java/lang/String", name := "isLatin1", desc := "()Z" } : Jvm.MethodName) jdk_42_method_154_code (1 : Nat) (Option.some Jvm.ClassFile.FieldType.boolean), Jvm.Cond.code ({ cls := "java/lang/StringLatin1", name := "strip", desc := "([B)Ljava/lang/String;" } : Jvm.MethodName) jdk_43_method_39_code (4 : Nat) (Option.some (Jvm.ClassFile.FieldType.object "java/lang/String")), Jvm.Cond.code ({ cls := "java/lang/StringLatin1", name := "indexOfNonWhitespace", desc := "([B)I" } : Jvm.MethodName) jdk_43_method_37_code (4 : Nat) (Option.some Jvm.ClassFile.FieldType.int), Jvm.Cond.code ({ cls := "java/lang/StringLatin1", name := "getChar", desc := "([BI)C" } : Jvm.MethodName) jdk_43_method_44_code (2 : Nat) (Option.some Jvm.ClassFile.FieldType.char), Jvm.Cond.code ({ cls := "java/lang/CharacterDataLatin1", name := "isWhitespace", desc := "(I)Z" } : Jvm.MethodName) jdk_116_method_26_code (3 : Nat) (Option.some Jvm.ClassFile.FieldType.boolean), Jvm.Cond.code ({ cls := "java/lang/CharacterDataLatin1", name := "getProperties", desc := "(I)I" } : Jvm.MethodName) jdk_116_method_1_code (4 : Nat) (Option.some Jvm.ClassFile.FieldType.int), Jvm.Cond.code ({ cls := "java/lang/StringLatin1", name := "lastIndexOfNonWhitespace", desc := "([B)I" } : Jvm.MethodName) jdk_43_method_38_code (4 : Nat) (Option.some Jvm.ClassFile.FieldType.int), Jvm.Cond.code ({ cls := "java/lang/String", name := "equals", desc := "(Ljava/lang/Object;)Z" } : Jvm.MethodName) jdk_42_method_66_code (3 : Nat) (Option.some Jvm.ClassFile.FieldType.boolean), Jvm.Cond.code ({ cls := "java/lang/String", name := "contains", desc := "(Ljava/lang/CharSequence;)Z" } : Jvm.MethodName) jdk_42_method_97_code (2 : Nat) (Option.some Jvm.ClassFile.FieldType.boolean), Jvm.Cond.code ({ cls := "java/lang/String", name := "toString", desc := "()Ljava/lang/String;" } : Jvm.MethodName) jdk_42_method_126_code (1 : Nat) (Option.some (Jvm.ClassFile.FieldType.object "java/lang/String")), Jvm.Cond.code ({ cls := "java/lang/String", name := "indexOf", desc := "(Ljava/lang/String;)I" } : Jvm.MethodName) jdk_42_method_84_code (3 : Nat) (Option.some Jvm.ClassFile.FieldType.int), Jvm.Cond.code ({ cls := "java/lang/String", name := "coder", desc := "()B" } : Jvm.MethodName) jdk_42_method_152_code (1 : Nat) (Option.some Jvm.ClassFile.FieldType.byte), Jvm.Cond.code ({ cls := "java/lang/StringLatin1", name := "indexOf", desc := "([B[B)I" } : Jvm.MethodName) jdk_43_method_24_code (2 : Nat) (Option.some Jvm.ClassFile.FieldType.int), Jvm.Cond.code ({ cls := "java/lang/StringLatin1", name := "indexOf", desc := "([BI[BII)I" } : Jvm.MethodName) jdk_43_method_25_code (11 : Nat) (Option.some Jvm.ClassFile.FieldType.int), Jvm.Cond.code ({ cls := "java/lang/String", name := "startsWith", desc := "(Ljava/lang/String;)Z" } : Jvm.MethodName) jdk_42_method_76_code (2 : Nat) (Option.some Jvm.ClassFile.FieldType.boolean), Jvm.Cond.code ({ cls := "java/lang/String", name := "startsWith", desc := "(Ljava/lang/String;I)Z" } : Jvm.MethodName) jdk_42_method_75_code (8 : Nat) (Option.some Jvm.ClassFile.FieldType.boolean), Jvm.Cond.code ({ cls := "java/lang/String", name := "length", desc := "()I" } : Jvm.MethodName) jdk_42_method_54_code (1 : Nat) (Option.some Jvm.ClassFile.FieldType.int), Jvm.Cond.code ({ cls := "jdk/internal/util/ArraysSupport", name := "mismatch", desc := "([BI[BII)I" } : Jvm.MethodName) jdk_48_method_14_code (8 : Nat) (Option.some Jvm.ClassFile.FieldType.int), Jvm.Cond.code ({ cls := "java/lang/StringLatin1", name := "newString", desc := "([BII)Ljava/lang/String;" } : Jvm.MethodName) jdk_43_method_47_code (3 : Nat) (Option.some (Jvm.ClassFile.FieldType.object "java/lang/String")), Jvm.Cond.code ({ cls := "java/util/Arrays", name := "copyOfRange", desc := "([BII)[B" } : Jvm.MethodName) jdk_65_method_132_code (3 : Nat) (Option.some (Jvm.ClassFile.FieldType.array Jvm.ClassFile.FieldType.byte)), Jvm.Cond.code ({ cls := "java/util/Arrays", name := "copyOfRangeByte", desc := "([BII)[B" } : Jvm.MethodName) jdk_65_method_133_code (5 : Nat) (Option.some (Jvm.ClassFile.FieldType.array Jvm.ClassFile.FieldType.byte)), Jvm.Cond.code ({ cls := "java/util/Arrays", name := "checkLength", desc := "(II)V" } : Jvm.MethodName) jdk_65_method_131_code (2 : Nat) (Option.none : Option Jvm.ClassFile.FieldType), Jvm.Cond.code ({ cls := "java/lang/Math", name := "min", desc := "(II)I" } : Jvm.MethodName) jdk_29_method_69_code (2 : Nat) (Option.some Jvm.ClassFile.FieldType.int), Jvm.Cond.code ({ cls := "java/lang/String", name := "<init>", desc := "([BB)V" } : Jvm.MethodName) jdk_42_method_151_code (3 : Nat) (Option.none : Option Jvm.ClassFile.FieldType), Jvm.Cond.code ({ cls := "java/lang/StringLatin1", name := "equals", desc := "([B[B)Z" } : Jvm.MethodName) jdk_43_method_13_code (3 : Nat) (Option.some Jvm.ClassFile.FieldType.boolean)]
set_option maxRecDepth 65536 in
theorem codes_eq : words1.filter isCode = codes1 := rfl
theorem w_codes : ∀ c ∈ words1.filter isCode, c.before args0 about1 = true := by
  rw [codes_eq]
  intro c hc
  simp only [codes1, List.mem_cons, List.not_mem_nil, or_false] at hc
  rcases hc with rfl | rfl | rfl | rfl | rfl | rfl | rfl | rfl | rfl | rfl | rfl | rfl | rfl | rfl | rfl | rfl | rfl | rfl | rfl | rfl | rfl | rfl | rfl | rfl | rfl | rfl | rfl | rfl | rfl | rfl | rfl | rfl | rfl | rfl | rfl | rfl
  · exact w_c0
  · exact w_c1
  · exact w_c2
  · exact w_c3
  · exact w_c4
  · exact w_c5
  · exact w_c6
  · exact w_c7
  · exact w_c8
  · exact w_c9
  · exact w_c10
  · exact w_c11
  · exact w_c12
  · exact w_c13
  · exact w_c14
  · exact w_c15
  · exact w_c16
  · exact w_c17
  · exact w_c18
  · exact w_c19
  · exact w_c20
  · exact w_c21
  · exact w_c22
  · exact w_c23
  · exact w_c24
  · exact w_c25
  · exact w_c26
  · exact w_c27
  · exact w_c28
  · exact w_c29
  · exact w_c30
  · exact w_c31
  · exact w_c32
  · exact w_c33
  · exact w_c34
  · exact w_c35
set_option maxRecDepth 65536 in
theorem w_t1 : (words1.take 24).all (fun c => isCode c || c.before args0 about1) = true := by decide +kernel
set_option maxRecDepth 65536 in
theorem w_t2 : ((words1.drop 24).take 24).all (fun c => isCode c || c.before args0 about1) = true := by decide +kernel
set_option maxRecDepth 65536 in
theorem w_t3 : (((words1.drop 24).drop 24).take 24).all (fun c => isCode c || c.before args0 about1) = true := by decide +kernel
set_option maxRecDepth 65536 in
theorem w_t4 : ((((words1.drop 24).drop 24).drop 24).take 24).all (fun c => isCode c || c.before args0 about1) = true := by decide +kernel
set_option maxRecDepth 65536 in
theorem w_t5 : (((((words1.drop 24).drop 24).drop 24).drop 24).take 24).all (fun c => isCode c || c.before args0 about1) = true := by decide +kernel
set_option maxRecDepth 65536 in
theorem w_t6 : ((((((words1.drop 24).drop 24).drop 24).drop 24).drop 24).take 24).all (fun c => isCode c || c.before args0 about1) = true := by decide +kernel
set_option maxRecDepth 65536 in
theorem w_t7 : (((((((words1.drop 24).drop 24).drop 24).drop 24).drop 24).drop 24).take 24).all (fun c => isCode c || c.before args0 about1) = true := by decide +kernel
set_option maxRecDepth 65536 in
theorem w_t8 : (((((((words1.drop 24).drop 24).drop 24).drop 24).drop 24).drop 24).drop 24).all (fun c => isCode c || c.before args0 about1) = true := by decide +kernel
theorem w_tables : (allAtoms (Jvm.Cond.code x code maxLocals ret :: tables_1)).before args0 about1 = true := by
  rw [allAtoms_all]
  show words1.all (fun c => c.before args0 about1) = true
  refine all_split ?_ w_codes
  rw [← List.take_append_drop 24 words1, List.all_append, w_t1, ← List.take_append_drop 24 (words1.drop 24), List.all_append, w_t2, ← List.take_append_drop 24 ((words1.drop 24).drop 24), List.all_append, w_t3, ← List.take_append_drop 24 (((words1.drop 24).drop 24).drop 24), List.all_append, w_t4, ← List.take_append_drop 24 ((((words1.drop 24).drop 24).drop 24).drop 24), List.all_append, w_t5, ← List.take_append_drop 24 (((((words1.drop 24).drop 24).drop 24).drop 24).drop 24), List.all_append, w_t6, ← List.take_append_drop 24 ((((((words1.drop 24).drop 24).drop 24).drop 24).drop 24).drop 24), List.all_append, w_t7, w_t8]
  rfl
set_option maxRecDepth 65536 in
theorem w_rest : rest_1_c.before args0 about1 = true := by decide +kernel
set_option maxRecDepth 65536 in
theorem w_case : (Jvm.Cond.and given_1 narrow_1).before args0 about1 = true := by decide +kernel
set_option maxRecDepth 65536 in
theorem w_consts : constsHeld consts_1 about1 := Jvm.Lit.constsHeldB_iff.mp (by decide +kernel)
theorem w_applies : (headSpec (Jvm.Cond.code x code maxLocals ret :: tables_1) room_1).applies x e0.platform about1 = true :=
  (Spec.applies_iff w_frames).mpr ⟨w_running, w_runnable, w_alone, w_named, w_hears, w_ripe, w_room, w_tables⟩
theorem atStart : AtStart classFile x code maxLocals ret World_1 tables_1 room_1 Calls_1 rest_1 Pre_1 launch0 p0 e0 about1 theMethod args0 below0 :=
  ⟨lists_1, trivial, launch0.admits_env _ _ _, launch0.least_env, fairChoices_fair.cas, fairChoices_fair.clock, w_frames, w_args, w_heap, w_applies, ⟨w_consts, trivial⟩, w_rest, w_case⟩
end start1
theorem witness_1 : WitnessClaimed_1 := ⟨start1.p0, start1.e0, start1.about1, start1.theMethod, start1.args0, start1.below0, start1.atStart⟩
end Jvm.Pilot.@@N@@
